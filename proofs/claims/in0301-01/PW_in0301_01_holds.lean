import PyProof.Rows.All
import Wide.All
import OpenK.AllK
import Wide.FinOn
import PyProof.ToksMono
import PyProof.IsiH_list
import KE.KFromBytes
import KE.KLam
import PyProof.EqKinds
import KE.KSortTup
import PyProof.CollectWalk
import PyProof.Rows.SumAny
import PyProof.Rows.SeqMore3
import PyProof.SliceMore
import PyProof.Rows.StrFirst
import Lean
import PySem.Challenge.RW_in0301_01
set_option Elab.async false
set_option maxRecDepth 100000
set_option maxHeartbeats 0
set_option linter.all false
set_option genSizeOf false
set_option genInjectivity false
set_option bootstrap.genMatcherCode false
set_option genCtorIdx false
namespace Mine.Internal
open PySem PySem.W PySem.Calls PyProof.Rows
abbrev d7:=@Nat.le_of_ble_eq_true
abbrev d8:=@wpAny_bind
abbrev d9:=@wpAny_pure
abbrev ea:=@Nat.lt_of_lt_of_le
abbrev eb:=@Nat.le_trans
abbrev ec:=@Nat.le_of_lt
abbrev ed:=@Option.some.inj
abbrev ee:=@of_decide_eq_true
abbrev ef:=@Nat.lt_of_le_of_lt
abbrev eg:=@Heap.get?_push_of_some
abbrev eh:=@Nat.le_refl
abbrev ej:=@wpAny_mono
abbrev em:=@Heap.get?_push_size
abbrev en:=@wpAny_holding
abbrev er:=@Int.natCast_nonneg
abbrev eu:=@List.mem_cons_of_mem
abbrev ew:=@List.mem_map_of_mem
abbrev ex:=@Nat.le_of_lt_succ
abbrev ey:=@Nat.lt_succ_self
abbrev ez:=@Nat.lt_trans
abbrev eA:=@Nat.succ_pos
abbrev eB:=@Nat.zero_le
abbrev eC:=@wpAny_call_entry
abbrev eD:=@wpAny_newObj_type
abbrev eE:=@Heap.lt_size
abbrev eF:=@Nat.ne_of_gt
abbrev eG:=@Nat.ne_of_lt
abbrev eH:=@Nat.le_of_eq
abbrev eI:=@List.mem_cons_self
abbrev eJ:=@List.append_nil
abbrev eK:=@List.Perm.swap
abbrev eL:=@Nat.succ_le_succ
abbrev eM:=@List.length_map
abbrev eN:=@List.getElem?_eq_getElem
abbrev eO:=@List.length_append
abbrev eP:=@List.map_cons
abbrev eQ:=@List.map_append
abbrev eR:=@builtinLookup_eq_fast
abbrev eS:=@typeLookup_type
abbrev eT:=@sizeLine_eq
abbrev eU:=@decide_eq_true
abbrev eV:=@decide_eq_false
abbrev eX:=@beq_self_eq_true
abbrev eY:=@List.size_toArray
abbrev eZ:=@List.length_take
abbrev e6:=@isSubtype_type
abbrev e7:=@List.forIn_cons
abbrev e8:=@List.map_map
abbrev e9:=@List.length_set
abbrev fa:=@List.append_assoc
abbrev fb:=@List.append_nil
abbrev fe:=@Nat.le_of_lt
abbrev fh:=@Array.getElem?_eq_getElem
variable{a l L it C pl la I dx c1 c2 d2 c3 c4 c5 lk:Addr}{b d N i k M n kd k1 k2 k3 depth d0 N' ep K2:Nat}{P1 G P2 P3 P4 P5 P6 P7 P8:Prop}{c:Cx}{r r' al text alpha wd al0:List Nat}{f:Nat→Nat}{m m' m1 m2 m3 m4:Sm}{j left at_ form x0 nn bj i' j' k' alo blo bs ahi bhi ri rj rs tot:Int}{p pos q apos p' pa pb tp pc p1 p2 p3 p4 p5 px p6 p7 p8 p9 p10 p11 lp q1 q2 q3 kp p12 p13 p14 p15:Pos}{P P' Pd Pl Pi:Obj→Prop}{A:Around}{E:Value→Shared→Prop}{s:Shared}{h h':Heap}{o:Obj}{F F' F1 F3 F0 F2:FM}{V V' W Vf W1 W2 W0:Aa}{Q Q' QV Qv Qi Qa Q1:Value→FM→Aa→Prop}{vs first vals us pvs bvs gv lvs:List Value}{env:Env}{ks gs names ys fr σ:List Str}{x:Cc}{v v1 v2 acc xv rv cv pm ctv cls key:Value}{QB:Bool→FM→Aa→Prop}{t u t' u' v' t3:Tok}{y name z id_ ida idb idc y1 y2 qual pat nb:Str}{value e e1 e2 e3 eo elt e0 e4 el:Expr}{QF:Flow→FM→Aa→Prop}{items:List Item}{QU:Unit→FM→Aa→Prop}{prog:Program}{w:World}{body orelse rest rst:List Stmt}{fd:FuncData}{args:Args}{binds:List (Str×Value)}{es elts ifs:List Expr}{os:OsState}{QL:List Value→FM→Aa→Prop}{QO:Option Value→FM→Aa→Prop}{T fid gid:String}{scope sc:Scope}{as:List Addr}{s1 s2 s0 s3 s' sh t1 so sa s4 isj aj si sg sn sj sk sd sz gi s5 t4 t5:Sp}{b1 b2:Bool}{ss:List Sp}{W':Value→Aa}{gens:List Comprehension}{ls ps res cs RES ws asked lack grown aps:List (List Nat)}{B:Builtin}{its its2:List Itm}{qs:Nat→Nat→Str}{mg:Str→Option Value}{params:Arguments}{g:Gr}{kvs:List (Int×Value)}{j2:List (Int×Int)}{top:Itm}{τ τ':Tok→Str}{bars:List (List Item)}
theorem fi {a b:Bool}(h:(a&&b)=true):a=true∧b=true:=Bool.and_eq_true_iff.mp h
theorem fj {α:Type}{a b:α}{l:List α}(h:a ∈ b::l):a=b∨a ∈ l:=List.mem_cons.mp h
theorem fk {α:Type}{l:List α}{p:α→Bool}(h:l.all p=true):∀x,x ∈ l→p x=true:=List.all_eq_true.mp h
theorem EW {P0:Prop}(h:P0∧P1) (k:P0→P1→G):G:=k h.1 h.2
theorem M6 {P0:Prop}(h0:P0) (h1:P1):P0∧P1:=⟨h0,h1⟩
theorem Bj {P0:Prop}(h:P0∧P1∧P2) (k:P0→P1→P2→G):G:=EW h.2 (k h.1)
theorem BO {P0:Prop}(h0:P0) (h1:P1) (h2:P2):P0∧P1∧P2:=⟨h0,M6 h1 h2⟩
theorem Hs {P0:Prop}(h:P0∧P1∧P2∧P3) (k:P0→P1→P2→P3→G):G:=Bj h.2 (k h.1)
theorem C4 {P0:Prop}(h0:P0) (h1:P1) (h2:P2) (h3:P3):P0∧P1∧P2∧P3:=⟨h0,BO h1 h2 h3⟩
theorem Ln {P0:Prop}(h:P0∧P1∧P2∧P3∧P4) (k:P0→P1→P2→P3→P4→G):G:=Hs h.2 (k h.1)
theorem HJ {P0:Prop}(h0:P0) (h1:P1) (h2:P2) (h3:P3) (h4:P4):P0∧P1∧P2∧P3∧P4:=⟨h0,C4 h1 h2 h3 h4⟩
theorem Lo {P0:Prop}(h:P0∧P1∧P2∧P3∧P4∧P5) (k:P0→P1→P2→P3→P4→P5→G):G:=Ln h.2 (k h.1)
theorem E7 {P0:Prop}(h0:P0) (h1:P1) (h2:P2) (h3:P3) (h4:P4) (h5:P5):P0∧P1∧P2∧P3∧P4∧P5:=⟨h0,HJ h1 h2 h3 h4 h5⟩
theorem Lp {P0:Prop}(h:P0∧P1∧P2∧P3∧P4∧P5∧P6) (k:P0→P1→P2→P3→P4→P5→P6→G):G:=Lo h.2 (k h.1)
theorem HK {P0:Prop}(h0:P0) (h1:P1) (h2:P2) (h3:P3) (h4:P4) (h5:P5) (h6:P6):P0∧P1∧P2∧P3∧P4∧P5∧P6:=⟨h0,E7 h1 h2 h3 h4 h5 h6⟩
theorem SN {P0:Prop}(h:P0∧P1∧P2∧P3∧P4∧P5∧P6∧P7) (k:P0→P1→P2→P3→P4→P5→P6→P7→G):G:=Lp h.2 (k h.1)
theorem Jq {P0:Prop}(h0:P0) (h1:P1) (h2:P2) (h3:P3) (h4:P4) (h5:P5) (h6:P6) (h7:P7):P0∧P1∧P2∧P3∧P4∧P5∧P6∧P7:=⟨h0,HK h1 h2 h3 h4 h5 h6 h7⟩
theorem SO {P0:Prop}(h:P0∧P1∧P2∧P3∧P4∧P5∧P6∧P7∧P8) (k:P0→P1→P2→P3→P4→P5→P6→P7→P8→G):G:=SN h.2 (k h.1)
theorem M7 {P0:Prop}(h0:P0) (h1:P1) (h2:P2) (h3:P3) (h4:P4) (h5:P5) (h6:P6) (h7:P7) (h8:P8):P0∧P1∧P2∧P3∧P4∧P5∧P6∧P7∧P8:=⟨h0,Jq h1 h2 h3 h4 h5 h6 h7 h8⟩
section
variable{α0:Sort _}{P0 P1 P2 P3 P4 P5 P6 P7:α0→Prop}
theorem BZ (h:∃a,P0 a) (k:∀a,P0 a→G):G:=h.elim k
theorem Ag (h:∃a,P0 a∧P1 a) (k:∀a,P0 a→P1 a→G):G:=h.elim fun a q=>EW q (k a)
theorem Ak (a:α0) (h0:P0 a) (h1:P1 a):∃a,P0 a∧P1 a:=⟨a,M6 h0 h1⟩
theorem AX (h:∃a,P0 a∧P1 a∧P2 a) (k:∀a,P0 a→P1 a→P2 a→G):G:=h.elim fun a q=>Bj q (k a)
theorem AE (a:α0) (h0:P0 a) (h1:P1 a) (h2:P2 a):∃a,P0 a∧P1 a∧P2 a:=⟨a,BO h0 h1 h2⟩
theorem Gz (h:∃a,P0 a∧P1 a∧P2 a∧P3 a) (k:∀a,P0 a→P1 a→P2 a→P3 a→G):G:=h.elim fun a q=>Hs q (k a)
theorem FP (a:α0) (h0:P0 a) (h1:P1 a) (h2:P2 a) (h3:P3 a):∃a,P0 a∧P1 a∧P2 a∧P3 a:=⟨a,C4 h0 h1 h2 h3⟩
theorem SP (h:∃a,P0 a∧P1 a∧P2 a∧P3 a∧P4 a) (k:∀a,P0 a→P1 a→P2 a→P3 a→P4 a→G):G:=h.elim fun a q=>Ln q (k a)
theorem Wf (a:α0) (h0:P0 a) (h1:P1 a) (h2:P2 a) (h3:P3 a) (h4:P4 a):∃a,P0 a∧P1 a∧P2 a∧P3 a∧P4 a:=⟨a,HJ h0 h1 h2 h3 h4⟩
theorem SQ (h:∃a,P0 a∧P1 a∧P2 a∧P3 a∧P4 a∧P5 a) (k:∀a,P0 a→P1 a→P2 a→P3 a→P4 a→P5 a→G):G:=h.elim fun a q=>Lo q (k a)
theorem Wg (a:α0) (h0:P0 a) (h1:P1 a) (h2:P2 a) (h3:P3 a) (h4:P4 a) (h5:P5 a):∃a,P0 a∧P1 a∧P2 a∧P3 a∧P4 a∧P5 a:=⟨a,E7 h0 h1 h2 h3 h4 h5⟩
theorem Wi (a:α0) (h0:P0 a) (h1:P1 a) (h2:P2 a) (h3:P3 a) (h4:P4 a) (h5:P5 a) (h6:P6 a) (h7:P7 a):∃a,P0 a∧P1 a∧P2 a∧P3 a∧P4 a∧P5 a∧P6 a∧P7 a:=⟨a,Jq h0 h1 h2 h3 h4 h5 h6 h7⟩
end
section
variable{α0 α1:Sort _}{P0 P1 P2 P3 P4 P5 P6 P7:α0→α1→Prop}
theorem GA (h:∃a b,P0 a b) (k:∀a b,P0 a b→G):G:=h.elim fun a q=>BZ q (k a)
theorem BH (h:∃a b,P0 a b∧P1 a b) (k:∀a b,P0 a b→P1 a b→G):G:=h.elim fun a q=>Ag q (k a)
theorem Ae (a:α0) (b:α1) (h0:P0 a b) (h1:P1 a b):∃a b,P0 a b∧P1 a b:=⟨a,Ak b h0 h1⟩
theorem Bk (h:∃a b,P0 a b∧P1 a b∧P2 a b) (k:∀a b,P0 a b→P1 a b→P2 a b→G):G:=h.elim fun a q=>AX q (k a)
theorem Bg (a:α0) (b:α1) (h0:P0 a b) (h1:P1 a b) (h2:P2 a b):∃a b,P0 a b∧P1 a b∧P2 a b:=⟨a,AE b h0 h1 h2⟩
theorem EX (h:∃a b,P0 a b∧P1 a b∧P2 a b∧P3 a b) (k:∀a b,P0 a b→P1 a b→P2 a b→P3 a b→G):G:=h.elim fun a q=>Gz q (k a)
theorem Dt (a:α0) (b:α1) (h0:P0 a b) (h1:P1 a b) (h2:P2 a b) (h3:P3 a b):∃a b,P0 a b∧P1 a b∧P2 a b∧P3 a b:=⟨a,FP b h0 h1 h2 h3⟩
theorem Lq (h:∃a b,P0 a b∧P1 a b∧P2 a b∧P3 a b∧P4 a b) (k:∀a b,P0 a b→P1 a b→P2 a b→P3 a b→P4 a b→G):G:=h.elim fun a q=>SP q (k a)
theorem HL (a:α0) (b:α1) (h0:P0 a b) (h1:P1 a b) (h2:P2 a b) (h3:P3 a b) (h4:P4 a b):∃a b,P0 a b∧P1 a b∧P2 a b∧P3 a b∧P4 a b:=⟨a,Wf b h0 h1 h2 h3 h4⟩
theorem IO (h:∃a b,P0 a b∧P1 a b∧P2 a b∧P3 a b∧P4 a b∧P5 a b) (k:∀a b,P0 a b→P1 a b→P2 a b→P3 a b→P4 a b→P5 a b→G):G:=h.elim fun a q=>SQ q (k a)
theorem HM (a:α0) (b:α1) (h0:P0 a b) (h1:P1 a b) (h2:P2 a b) (h3:P3 a b) (h4:P4 a b) (h5:P5 a b):∃a b,P0 a b∧P1 a b∧P2 a b∧P3 a b∧P4 a b∧P5 a b:=⟨a,Wg b h0 h1 h2 h3 h4 h5⟩
theorem Wj (a:α0) (b:α1) (h0:P0 a b) (h1:P1 a b) (h2:P2 a b) (h3:P3 a b) (h4:P4 a b) (h5:P5 a b) (h6:P6 a b) (h7:P7 a b):∃a b,P0 a b∧P1 a b∧P2 a b∧P3 a b∧P4 a b∧P5 a b∧P6 a b∧P7 a b:=⟨a,Wi b h0 h1 h2 h3 h4 h5 h6 h7⟩
end
section
variable{α0 α1 α2:Sort _}{P0 P1 P2 P3 P4 P5 P6 P7:α0→α1→α2→Prop}
theorem FE (h:∃a b c,P0 a b c∧P1 a b c) (k:∀a b c,P0 a b c→P1 a b c→G):G:=h.elim fun a q=>BH q (k a)
theorem CP (a:α0) (b:α1) (c:α2) (h0:P0 a b c) (h1:P1 a b c):∃a b c,P0 a b c∧P1 a b c:=⟨a,Ae b c h0 h1⟩
theorem EY (h:∃a b c,P0 a b c∧P1 a b c∧P2 a b c) (k:∀a b c,P0 a b c→P1 a b c→P2 a b c→G):G:=h.elim fun a q=>Bk q (k a)
theorem Cr (a:α0) (b:α1) (c:α2) (h0:P0 a b c) (h1:P1 a b c) (h2:P2 a b c):∃a b c,P0 a b c∧P1 a b c∧P2 a b c:=⟨a,Bg b c h0 h1 h2⟩
theorem Cm (h:∃a b c,P0 a b c∧P1 a b c∧P2 a b c∧P3 a b c) (k:∀a b c,P0 a b c→P1 a b c→P2 a b c→P3 a b c→G):G:=h.elim fun a q=>EX q (k a)
theorem CC (a:α0) (b:α1) (c:α2) (h0:P0 a b c) (h1:P1 a b c) (h2:P2 a b c) (h3:P3 a b c):∃a b c,P0 a b c∧P1 a b c∧P2 a b c∧P3 a b c:=⟨a,Dt b c h0 h1 h2 h3⟩
theorem IQ (h:∃a b c,P0 a b c∧P1 a b c∧P2 a b c∧P3 a b c∧P4 a b c) (k:∀a b c,P0 a b c→P1 a b c→P2 a b c→P3 a b c→P4 a b c→G):G:=h.elim fun a q=>Lq q (k a)
theorem GM (a:α0) (b:α1) (c:α2) (h0:P0 a b c) (h1:P1 a b c) (h2:P2 a b c) (h3:P3 a b c) (h4:P4 a b c):∃a b c,P0 a b c∧P1 a b c∧P2 a b c∧P3 a b c∧P4 a b c:=⟨a,HL b c h0 h1 h2 h3 h4⟩
theorem EZ (h:∃a b c,P0 a b c∧P1 a b c∧P2 a b c∧P3 a b c∧P4 a b c∧P5 a b c) (k:∀a b c,P0 a b c→P1 a b c→P2 a b c→P3 a b c→P4 a b c→P5 a b c→G):G:=h.elim fun a q=>IO q (k a)
theorem FQ (a:α0) (b:α1) (c:α2) (h0:P0 a b c) (h1:P1 a b c) (h2:P2 a b c) (h3:P3 a b c) (h4:P4 a b c) (h5:P5 a b c):∃a b c,P0 a b c∧P1 a b c∧P2 a b c∧P3 a b c∧P4 a b c∧P5 a b c:=⟨a,HM b c h0 h1 h2 h3 h4 h5⟩
theorem Wk (a:α0) (b:α1) (c:α2) (h0:P0 a b c) (h1:P1 a b c) (h2:P2 a b c) (h3:P3 a b c) (h4:P4 a b c) (h5:P5 a b c) (h6:P6 a b c) (h7:P7 a b c):∃a b c,P0 a b c∧P1 a b c∧P2 a b c∧P3 a b c∧P4 a b c∧P5 a b c∧P6 a b c∧P7 a b c:=⟨a,Wj b c h0 h1 h2 h3 h4 h5 h6 h7⟩
end
section
variable{α0 α1 α2 α3:Sort _}{P0 P1 P2 P3 P4 P5 P6 P7:α0→α1→α2→α3→Prop}
theorem Wl (a:α0) (b:α1) (c:α2) (d:α3) (h0:P0 a b c d) (h1:P1 a b c d):∃a b c d,P0 a b c d∧P1 a b c d:=⟨a,CP b c d h0 h1⟩
theorem Ht (h:∃a b c d,P0 a b c d∧P1 a b c d∧P2 a b c d) (k:∀a b c d,P0 a b c d→P1 a b c d→P2 a b c d→G):G:=h.elim fun a q=>EY q (k a)
theorem Jr (a:α0) (b:α1) (c:α2) (d:α3) (h0:P0 a b c d) (h1:P1 a b c d) (h2:P2 a b c d):∃a b c d,P0 a b c d∧P1 a b c d∧P2 a b c d:=⟨a,Cr b c d h0 h1 h2⟩
theorem E0 (h:∃a b c d,P0 a b c d∧P1 a b c d∧P2 a b c d∧P3 a b c d) (k:∀a b c d,P0 a b c d→P1 a b c d→P2 a b c d→P3 a b c d→G):G:=h.elim fun a q=>Cm q (k a)
theorem Ep (a:α0) (b:α1) (c:α2) (d:α3) (h0:P0 a b c d) (h1:P1 a b c d) (h2:P2 a b c d) (h3:P3 a b c d):∃a b c d,P0 a b c d∧P1 a b c d∧P2 a b c d∧P3 a b c d:=⟨a,CC b c d h0 h1 h2 h3⟩
theorem SR (h:∃a b c d,P0 a b c d∧P1 a b c d∧P2 a b c d∧P3 a b c d∧P4 a b c d) (k:∀a b c d,P0 a b c d→P1 a b c d→P2 a b c d→P3 a b c d→P4 a b c d→G):G:=h.elim fun a q=>IQ q (k a)
theorem Wm (a:α0) (b:α1) (c:α2) (d:α3) (h0:P0 a b c d) (h1:P1 a b c d) (h2:P2 a b c d) (h3:P3 a b c d) (h4:P4 a b c d):∃a b c d,P0 a b c d∧P1 a b c d∧P2 a b c d∧P3 a b c d∧P4 a b c d:=⟨a,GM b c d h0 h1 h2 h3 h4⟩
theorem Lr (h:∃a b c d,P0 a b c d∧P1 a b c d∧P2 a b c d∧P3 a b c d∧P4 a b c d∧P5 a b c d) (k:∀a b c d,P0 a b c d→P1 a b c d→P2 a b c d→P3 a b c d→P4 a b c d→P5 a b c d→G):G:=h.elim fun a q=>EZ q (k a)
theorem M8 (a:α0) (b:α1) (c:α2) (d:α3) (h0:P0 a b c d) (h1:P1 a b c d) (h2:P2 a b c d) (h3:P3 a b c d) (h4:P4 a b c d) (h5:P5 a b c d):∃a b c d,P0 a b c d∧P1 a b c d∧P2 a b c d∧P3 a b c d∧P4 a b c d∧P5 a b c d:=⟨a,FQ b c d h0 h1 h2 h3 h4 h5⟩
theorem Wn (a:α0) (b:α1) (c:α2) (d:α3) (h0:P0 a b c d) (h1:P1 a b c d) (h2:P2 a b c d) (h3:P3 a b c d) (h4:P4 a b c d) (h5:P5 a b c d) (h6:P6 a b c d) (h7:P7 a b c d):∃a b c d,P0 a b c d∧P1 a b c d∧P2 a b c d∧P3 a b c d∧P4 a b c d∧P5 a b c d∧P6 a b c d∧P7 a b c d:=⟨a,Wk b c d h0 h1 h2 h3 h4 h5 h6 h7⟩
end
section
variable{α0 α1 α2 α3 α4:Sort _}{P0 P1 P2 P3 P4 P5:α0→α1→α2→α3→α4→Prop}
theorem SS (h:∃a b c d e,P0 a b c d e∧P1 a b c d e∧P2 a b c d e) (k:∀a b c d e,P0 a b c d e→P1 a b c d e→P2 a b c d e→G):G:=h.elim fun a q=>Ht q (k a)
theorem Wo (a:α0) (b:α1) (c:α2) (d:α3) (e:α4) (h0:P0 a b c d e) (h1:P1 a b c d e) (h2:P2 a b c d e):∃a b c d e,P0 a b c d e∧P1 a b c d e∧P2 a b c d e:=⟨a,Jr b c d e h0 h1 h2⟩
theorem ST (h:∃a b c d e,P0 a b c d e∧P1 a b c d e∧P2 a b c d e∧P3 a b c d e) (k:∀a b c d e,P0 a b c d e→P1 a b c d e→P2 a b c d e→P3 a b c d e→G):G:=h.elim fun a q=>E0 q (k a)
theorem M9 (a:α0) (b:α1) (c:α2) (d:α3) (e:α4) (h0:P0 a b c d e) (h1:P1 a b c d e) (h2:P2 a b c d e) (h3:P3 a b c d e):∃a b c d e,P0 a b c d e∧P1 a b c d e∧P2 a b c d e∧P3 a b c d e:=⟨a,Ep b c d e h0 h1 h2 h3⟩
theorem Lu (h:∃a b c d e,P0 a b c d e∧P1 a b c d e∧P2 a b c d e∧P3 a b c d e∧P4 a b c d e) (k:∀a b c d e,P0 a b c d e→P1 a b c d e→P2 a b c d e→P3 a b c d e→P4 a b c d e→G):G:=h.elim fun a q=>SR q (k a)
theorem Js (a:α0) (b:α1) (c:α2) (d:α3) (e:α4) (h0:P0 a b c d e) (h1:P1 a b c d e) (h2:P2 a b c d e) (h3:P3 a b c d e) (h4:P4 a b c d e):∃a b c d e,P0 a b c d e∧P1 a b c d e∧P2 a b c d e∧P3 a b c d e∧P4 a b c d e:=⟨a,Wm b c d e h0 h1 h2 h3 h4⟩
theorem Lv (h:∃a b c d e,P0 a b c d e∧P1 a b c d e∧P2 a b c d e∧P3 a b c d e∧P4 a b c d e∧P5 a b c d e) (k:∀a b c d e,P0 a b c d e→P1 a b c d e→P2 a b c d e→P3 a b c d e→P4 a b c d e→P5 a b c d e→G):G:=h.elim fun a q=>Lr q (k a)
theorem Jt (a:α0) (b:α1) (c:α2) (d:α3) (e:α4) (h0:P0 a b c d e) (h1:P1 a b c d e) (h2:P2 a b c d e) (h3:P3 a b c d e) (h4:P4 a b c d e) (h5:P5 a b c d e):∃a b c d e,P0 a b c d e∧P1 a b c d e∧P2 a b c d e∧P3 a b c d e∧P4 a b c d e∧P5 a b c d e:=⟨a,M8 b c d e h0 h1 h2 h3 h4 h5⟩
end
section
variable{α0 α1 α2 α3 α4 α5:Sort _}{P0 P1 P2 P3 P4 P5:α0→α1→α2→α3→α4→α5→Prop}
theorem SU (h:∃a b c d e f,P0 a b c d e f∧P1 a b c d e f∧P2 a b c d e f∧P3 a b c d e f) (k:∀a b c d e f,P0 a b c d e f→P1 a b c d e f→P2 a b c d e f→P3 a b c d e f→G):G:=h.elim fun a q=>ST q (k a)
theorem Wp (a:α0) (b:α1) (c:α2) (d:α3) (e:α4) (f:α5) (h0:P0 a b c d e f) (h1:P1 a b c d e f) (h2:P2 a b c d e f) (h3:P3 a b c d e f):∃a b c d e f,P0 a b c d e f∧P1 a b c d e f∧P2 a b c d e f∧P3 a b c d e f:=⟨a,M9 b c d e f h0 h1 h2 h3⟩
theorem SV (h:∃a b c d e f,P0 a b c d e f∧P1 a b c d e f∧P2 a b c d e f∧P3 a b c d e f∧P4 a b c d e f) (k:∀a b c d e f,P0 a b c d e f→P1 a b c d e f→P2 a b c d e f→P3 a b c d e f→P4 a b c d e f→G):G:=h.elim fun a q=>Lu q (k a)
theorem Wq (a:α0) (b:α1) (c:α2) (d:α3) (e:α4) (f:α5) (h0:P0 a b c d e f) (h1:P1 a b c d e f) (h2:P2 a b c d e f) (h3:P3 a b c d e f) (h4:P4 a b c d e f):∃a b c d e f,P0 a b c d e f∧P1 a b c d e f∧P2 a b c d e f∧P3 a b c d e f∧P4 a b c d e f:=⟨a,Js b c d e f h0 h1 h2 h3 h4⟩
theorem SW (h:∃a b c d e f,P0 a b c d e f∧P1 a b c d e f∧P2 a b c d e f∧P3 a b c d e f∧P4 a b c d e f∧P5 a b c d e f) (k:∀a b c d e f,P0 a b c d e f→P1 a b c d e f→P2 a b c d e f→P3 a b c d e f→P4 a b c d e f→P5 a b c d e f→G):G:=h.elim fun a q=>Lv q (k a)
theorem Wr (a:α0) (b:α1) (c:α2) (d:α3) (e:α4) (f:α5) (h0:P0 a b c d e f) (h1:P1 a b c d e f) (h2:P2 a b c d e f) (h3:P3 a b c d e f) (h4:P4 a b c d e f) (h5:P5 a b c d e f):∃a b c d e f,P0 a b c d e f∧P1 a b c d e f∧P2 a b c d e f∧P3 a b c d e f∧P4 a b c d e f∧P5 a b c d e f:=⟨a,Jt b c d e f h0 h1 h2 h3 h4 h5⟩
end
section
variable{α0 α1 α2 α3 α4 α5 α6:Sort _}{P0 P1 P2 P3 P4 P5:α0→α1→α2→α3→α4→α5→α6→Prop}
theorem Lw (h:∃a b c d e f m,P0 a b c d e f m∧P1 a b c d e f m∧P2 a b c d e f m∧P3 a b c d e f m∧P4 a b c d e f m) (k:∀a b c d e f m,P0 a b c d e f m→P1 a b c d e f m→P2 a b c d e f m→P3 a b c d e f m→P4 a b c d e f m→G):G:=h.elim fun a q=>SV q (k a)
theorem Na (a:α0) (b:α1) (c:α2) (d:α3) (e:α4) (f:α5) (m:α6) (h0:P0 a b c d e f m) (h1:P1 a b c d e f m) (h2:P2 a b c d e f m) (h3:P3 a b c d e f m) (h4:P4 a b c d e f m):∃a b c d e f m,P0 a b c d e f m∧P1 a b c d e f m∧P2 a b c d e f m∧P3 a b c d e f m∧P4 a b c d e f m:=⟨a,Wq b c d e f m h0 h1 h2 h3 h4⟩
theorem SX (h:∃a b c d e f m,P0 a b c d e f m∧P1 a b c d e f m∧P2 a b c d e f m∧P3 a b c d e f m∧P4 a b c d e f m∧P5 a b c d e f m) (k:∀a b c d e f m,P0 a b c d e f m→P1 a b c d e f m→P2 a b c d e f m→P3 a b c d e f m→P4 a b c d e f m→P5 a b c d e f m→G):G:=h.elim fun a q=>SW q (k a)
theorem Ws (a:α0) (b:α1) (c:α2) (d:α3) (e:α4) (f:α5) (m:α6) (h0:P0 a b c d e f m) (h1:P1 a b c d e f m) (h2:P2 a b c d e f m) (h3:P3 a b c d e f m) (h4:P4 a b c d e f m) (h5:P5 a b c d e f m):∃a b c d e f m,P0 a b c d e f m∧P1 a b c d e f m∧P2 a b c d e f m∧P3 a b c d e f m∧P4 a b c d e f m∧P5 a b c d e f m:=⟨a,Wr b c d e f m h0 h1 h2 h3 h4 h5⟩
end
theorem SY {α0 α1 α2 α3 α4 α5 α6 α7:Sort _}{P0 P1 P2 P3 P4 P5:α0→α1→α2→α3→α4→α5→α6→α7→Prop}(h:∃a b c d e f m n,P0 a b c d e f m n∧P1 a b c d e f m n∧P2 a b c d e f m n∧P3 a b c d e f m n∧P4 a b c d e f m n∧P5 a b c d e f m n) (k:∀a b c d e f m n,P0 a b c d e f m n→P1 a b c d e f m n→P2 a b c d e f m n→P3 a b c d e f m n→P4 a b c d e f m n→P5 a b c d e f m n→G):G:=h.elim fun a q=>SX q (k a)
theorem Wt {α0 α1 α2 α3 α4 α5 α6 α7:Sort _}{P0 P1 P2 P3 P4 P5:α0→α1→α2→α3→α4→α5→α6→α7→Prop}(a:α0) (b:α1) (c:α2) (d:α3) (e:α4) (f:α5) (m:α6) (n:α7) (h0:P0 a b c d e f m n) (h1:P1 a b c d e f m n) (h2:P2 a b c d e f m n) (h3:P3 a b c d e f m n) (h4:P4 a b c d e f m n) (h5:P5 a b c d e f m n):∃a b c d e f m n,P0 a b c d e f m n∧P1 a b c d e f m n∧P2 a b c d e f m n∧P3 a b c d e f m n∧P4 a b c d e f m n∧P5 a b c d e f m n:=⟨a,Ws b c d e f m n h0 h1 h2 h3 h4 h5⟩
theorem SZ {α0 α1 α2 α3 α4 α5 α6 α7 α8:Sort _}{P0 P1 P2 P3 P4 P5:α0→α1→α2→α3→α4→α5→α6→α7→α8→Prop}(h:∃a b c d e f m n o,P0 a b c d e f m n o∧P1 a b c d e f m n o∧P2 a b c d e f m n o∧P3 a b c d e f m n o∧P4 a b c d e f m n o∧P5 a b c d e f m n o) (k:∀a b c d e f m n o,P0 a b c d e f m n o→P1 a b c d e f m n o→P2 a b c d e f m n o→P3 a b c d e f m n o→P4 a b c d e f m n o→P5 a b c d e f m n o→G):G:=h.elim fun a q=>SY q (k a)
theorem Wu {α0 α1 α2 α3 α4 α5 α6 α7 α8:Sort _}{P0 P1 P2 P3 P4 P5:α0→α1→α2→α3→α4→α5→α6→α7→α8→Prop}(a:α0) (b:α1) (c:α2) (d:α3) (e:α4) (f:α5) (m:α6) (n:α7) (o:α8) (h0:P0 a b c d e f m n o) (h1:P1 a b c d e f m n o) (h2:P2 a b c d e f m n o) (h3:P3 a b c d e f m n o) (h4:P4 a b c d e f m n o) (h5:P5 a b c d e f m n o):∃a b c d e f m n o,P0 a b c d e f m n o∧P1 a b c d e f m n o∧P2 a b c d e f m n o∧P3 a b c d e f m n o∧P4 a b c d e f m n o∧P5 a b c d e f m n o:=⟨a,Wt b c d e f m n o h0 h1 h2 h3 h4 h5⟩
theorem S8 {α0 α1 α2 α3 α4 α5 α6 α7 α8 α9:Sort _}{P0 P1 P2 P3 P4 P5:α0→α1→α2→α3→α4→α5→α6→α7→α8→α9→Prop}(h:∃a b c d e f m n o u,P0 a b c d e f m n o u∧P1 a b c d e f m n o u∧P2 a b c d e f m n o u∧P3 a b c d e f m n o u∧P4 a b c d e f m n o u∧P5 a b c d e f m n o u) (k:∀a b c d e f m n o u,P0 a b c d e f m n o u→P1 a b c d e f m n o u→P2 a b c d e f m n o u→P3 a b c d e f m n o u→P4 a b c d e f m n o u→P5 a b c d e f m n o u→G):G:=h.elim fun a q=>SZ q (k a)
theorem Wv {α0 α1 α2 α3 α4 α5 α6 α7 α8 α9:Sort _}{P0 P1 P2 P3 P4 P5:α0→α1→α2→α3→α4→α5→α6→α7→α8→α9→Prop}(a:α0) (b:α1) (c:α2) (d:α3) (e:α4) (f:α5) (m:α6) (n:α7) (o:α8) (u:α9) (h0:P0 a b c d e f m n o u) (h1:P1 a b c d e f m n o u) (h2:P2 a b c d e f m n o u) (h3:P3 a b c d e f m n o u) (h4:P4 a b c d e f m n o u) (h5:P5 a b c d e f m n o u):∃a b c d e f m n o u,P0 a b c d e f m n o u∧P1 a b c d e f m n o u∧P2 a b c d e f m n o u∧P3 a b c d e f m n o u∧P4 a b c d e f m n o u∧P5 a b c d e f m n o u:=⟨a,Wu b c d e f m n o u h0 h1 h2 h3 h4 h5⟩
theorem auR (h:0=0:=by rfl):0=0:=h
theorem auU (h:0=0:=by with_unfolding_all rfl):0=0:=h
theorem auI (h:∀_:Nat,0=0:=by intro _;rfl):0=0:=h 0
theorem auV (h:∀_:Nat,0=0:=by intro _;with_unfolding_all rfl):0=0:=h 0
theorem auD (h:0=0:=by decide+kernel):0=0:=h
def aR:Lean.Syntax:=auR._auto_1
def aU:Lean.Syntax:=auU._auto_1
def aI:Lean.Syntax:=auI._auto_1
def aV:Lean.Syntax:=auV._auto_1
def aD:Lean.Syntax:=auD._auto_1
theorem Iv (a:Nat):a<2*a+1:=Nat.lt_succ_of_le (Nat.le_mul_of_pos_left a (d7 rfl))
theorem Kt {a c:Nat}(h:a=b+c):(max 0 (min (b:Int) a)).toNat=b:=h▸(congrArg (fun x=>(max 0 x).toNat) (Int.min_eq_left (Int.ofNat_le.mpr (Nat.le_add_right b c)))).trans (congrArg Int.toNat (Int.max_eq_right (er b)))
theorem Ql {a c:Nat}(h:a≤b):min a c+1 - b=0∨min a c+1 - b=1:=(Nat.eq_or_lt_of_le (eb (Nat.min_le_left a c) h)).elim (fun e=>.inr (e▸Nat.add_sub_cancel_left ..)) fun e=>.inl (Nat.sub_eq_zero_of_le e)
theorem Ky {a c:Nat}(h:a - b=c+1):a - 1 - c=b:=(Nat.sub_sub a 1 c).trans ((Nat.add_comm 1 c).symm▸h▸Nat.sub_sub_self (ec (Nat.lt_of_sub_eq_succ h)))
theorem KF {a c:Nat}(h2:c<b) (h3:2*a+1≤c):b - c<b - a:=Nat.sub_lt_sub_left (ez (ea (Iv a) h3) h2) (ea (Iv a) h3)
theorem QK {r l f m:Nat}(h1:r - l≤f+1) (h2:m<r):m - l≤f:=(Nat.le_total l m).elim (fun q=>ex (ea (Nat.sub_lt_sub_right q h2) h1)) fun q=>(Nat.sub_eq_zero_of_le q).symm▸eB _
theorem Ks {l r:Nat}(h:¬l≥r):l≤(l+r) / 2:=(Nat.le_div_iff_mul_le (eA 1)).mpr (Nat.mul_two l▸Nat.add_le_add_left (Nat.le_of_not_ge h) l)
theorem PT {l r:Nat}(h:¬l≥r):(l+r) / 2<r:=(Nat.div_lt_iff_lt_mul (eA 1)).mpr (Nat.mul_two r▸Nat.add_lt_add_right (Nat.lt_of_not_ge h) r)
theorem P9 {r l f:Nat}(h1:r - l≤f+1) (h:¬l≥r):r - ((l+r) / 2+1)≤f:=eb (Nat.sub_le_sub_left (eL (Ks h)) r) (Nat.pred_le_pred h1)
theorem Go {a:Nat}(h:a<b):b - a=b - (a+1)+1:=(Nat.succ_pred_eq_of_pos (Nat.sub_pos_of_lt h)).symm
theorem Iq {a:Int}(h:0≤a):a=↑a.toNat:=(Int.toNat_of_nonneg h).symm
theorem PU {a c:Nat}(h1:a<b) (h2:b<c):c - 1 - b<c - 1 - a:=Nat.sub_lt_sub_left (ea h1 (Nat.le_pred_of_lt h2)) h1
theorem PV {a c:Nat}(h1:a=b) (h5:d<b - c+1):d≤a:=h1▸eb (ex h5) (Nat.sub_le _ _)
theorem PW {a c:Nat}(h1:a≤N) (h2:a - b=c+1):min b d≤N:=eb (Nat.min_le_left _ _) (eb (ec (Nat.lt_of_sub_eq_succ h2)) h1)
theorem PX: (max 0 (min (-3+((b+3:Nat):Int)) ↑(b+3))).toNat=b:=(congrArg (fun x:Int=>(max 0 (min x ↑(b+3))).toNat) ((Int.add_comm (-3) ((b:Int)+3)).trans (Int.add_neg_cancel_right (b:Int) 3):(-3+((b+3:Nat):Int))=b)).trans (Kt (c:=3) rfl)
theorem PY {a c:Nat}(h1:a=b - c) (h3:c<b):b - (c+1)<a:=h1▸Nat.sub_succ_lt_self _ _ h3
theorem Hf {a c:Nat}(h:a - b=c+1):a - (b+1)=c:=congrArg Nat.pred h
theorem PZ {a c:Nat}(h:a=b+(c+1)):min (b+1) a - b=1:=(congrArg (·- b) (Nat.min_eq_left (h▸Nat.add_le_add_left (eA c) b))).trans (Nat.add_sub_cancel_left ..)
theorem Qc {a:Nat}(h1:a<100):a - (d+1)+1<1000:=ef (eL (Nat.sub_le _ _)) (ea (Nat.succ_lt_succ h1) (d7 rfl))
theorem Qd {j l:Nat}(h1:i<j) (h3:¬i=l) (h4:¬(l<i∧i≤k)) (h6:l<j∧j≤k):i<j - 1:=ea (Nat.lt_of_le_of_ne (Nat.le_of_not_lt fun q=>h4 ⟨q,ec (ea h1 h6.2)⟩) h3) (Nat.le_pred_of_lt h6.1)
theorem Qg {j l:Nat}(h1:i<j) (h2:j<k+1) (h5:i=l):l<j∧j≤k:=⟨h5▸h1,ex h2⟩
theorem Qh {j l:Nat}(h1:i<j) (h2:j<k+1) (h5:l<i∧i≤k):l<j∧j≤k:=⟨ez h5.1 h1,ex h2⟩
theorem Kw {a c:Nat}(h1:a<100) (h2:b=min (a - c) a):b≤100:=h2▸eb (Nat.min_le_right _ _) (ec h1)
theorem Qj {j l:Nat}{p:Prop}(h1:i<j) (h3:l<i∧p):i - 1<j - 1:=Nat.sub_lt_sub_right (ef (eB _) h3.1) h1
theorem Qk {a:Nat}(h:a+1≤b):b - (a+1)<b:=Nat.sub_lt (ea (eA _) h) (eA _)
theorem Ir {j:Nat}(h1:i<j) (h2:j<k+1):j - 1<k:=ea (Nat.pred_lt (eF (ef (eB i) h1))) (ex h2)
theorem Qm {a:Nat}(h:a<N):a - 1 - 1<N:=ef (eb (Nat.sub_le _ _) (Nat.sub_le _ _)) h
theorem Qn {a:Nat}(h1:a<b):(a - 1) / 2<b:=ef (eb (Nat.div_le_self _ _) (Nat.sub_le _ _)) h1
theorem Kx {a m:Nat}(h:a+1≤m):m+1 - a=m - a+1:=Nat.sub_add_comm (Nat.le_of_succ_le h)
theorem Qo {a c:Nat}(h2:a≤c+1):(a - 1) / 2≤c:=eb (Nat.div_le_self _ _) (Nat.sub_le_of_le_add h2)
theorem Kz {a:Nat}(h:a>b):(a - 1) / 2<a:=ef (Nat.div_le_self _ _) (Nat.pred_lt (eF (ef (eB _) h)))
theorem KA {a:Nat}(h:1≤a):a - 1 - b<a:=ef (Nat.sub_le _ _) (Nat.pred_lt (eF h))
theorem Qp {a c:Nat}(h1:a≤b) (h2:c<a):a - 1 - c<b:=ea (KA (ef (eB c) h2)) h1
theorem Qq {a m:Nat}(h:a+1≤m):0<m+1 - a:=Nat.sub_pos_of_lt (Nat.lt_succ_of_le (Nat.le_of_succ_le h))
theorem KB {a c:Nat}(h3:2*a+1≤c) (h4:b≤a+(d+1)):b≤c+d:=eb h4 (eb (eH (Nat.add_right_comm a d 1)) (Nat.add_le_add_right (eb (Iv a) h3) d))
theorem Qr {a c:Nat}(h1:a<b) (h2:a=c):c≤b - 1:=h2▸Nat.le_pred_of_lt h1
theorem Qs {a c:Nat}(h:a<b+(c+1)):a<b+1+c:=Nat.lt_of_lt_of_eq h (Nat.add_right_comm b c 1)
theorem Qt {a c:Nat}(h:a+(b+1)<c):a+1+b<c:=ef (eH (Nat.add_right_comm a 1 b)) h
theorem Iu {a c:Nat}(h:a+(b+1)≤c):a+1+b≤c:=eb (eH (Nat.add_right_comm a 1 b)) h
theorem Gm {a c:Nat}(h:a+(b+1)=c):a+1+b=c:=(Nat.add_right_comm a 1 b).trans h
theorem KC {a c:Nat}(h:a≤b+1+c):a≤b+(c+1):=eb h (eH (Nat.add_right_comm b 1 c))
theorem Qu {a:Nat}(h1:2≤a) (h2:b≤1+(a - 1)) (h3:¬b=a):b<1+(a - 1):=Nat.lt_of_le_of_ne h2 fun q=>h3 (q.trans (Nat.add_sub_of_le (Nat.le_of_succ_le h1)))
theorem KD {a:Nat}(h1:2≤a) (h2:1≤b) (h3:b≤1+(a - 1)):b - 1<a:=ea (Nat.pred_lt (eF h2)) (eb h3 (eH (Nat.add_sub_of_le (Nat.le_of_succ_le h1))))
theorem Qw {a:Nat}(h1:2≤a) (h3:b≤1+(a - 1)):b≤a:=eb h3 (eH (Nat.add_sub_of_le (Nat.le_of_succ_le h1)))
theorem Gn {a:Nat}(h:a+b=N) (q:Nat.ble N M=true):a≤M:=eb (Nat.le.intro h) (d7 q)
theorem Qy (a:Nat): -1+((a:Int)+1)=a:=(Int.add_comm (-1) ((a:Int)+1)).trans (Int.add_neg_cancel_right (a:Int) 1)
theorem Qx {a:Nat}:(0≤ -1+((a:Int)+1)∧ -1+((a:Int)+1)<(a:Int)+1)∧(-1+((a:Int)+1)).toNat=a:=(Qy a).symm▸⟨⟨er a,Int.lt_succ a⟩,rfl⟩
theorem Qz {c:Int}:(max 0 (min c ↑b)).toNat≤b:=Int.toNat_le.mpr (Int.max_le.mpr ⟨er _,Int.min_le_right _ _⟩)
theorem QC {a:Nat}(h:0<a):((a:Int) - 1) / 2=↑((a - 1) / 2):=congrArg (·/ (2:Int)) (Int.ofNat_sub h).symm
theorem QS {a:Nat}(h:a≤N) (q:Nat.ble N M=true):min b a≤M:=eb (Nat.min_le_right _ _) (eb h (d7 q))
theorem KJ {a:Nat}(h:a<N) (q:Nat.ble N (M+1)=true):min b a≤M:=ex (ef (Nat.min_le_right _ _) (ea h (d7 q)))
theorem QT {a:Nat}(h:a=N) (q:Nat.ble N M=true):min b a≤M:=eb (Nat.min_le_right _ _) (h▸(d7 q))
theorem Iw {a:Nat}(h:a+b≤N) (q:Nat.ble N M=true):a≤M:=eb (Nat.le_add_right _ _) (eb h (d7 q))
theorem CX {a:Nat}(h:a+b≤N) (q:Nat.ble (N+1) M=true):a<M:=ea (Nat.lt_succ_of_le (eb (Nat.le_add_right _ _) h)) (d7 q)
theorem QD {a:Int}{c:Nat}(h:a+↑b=↑c):(a+↑b).toNat=c:=congrArg Int.toNat h
theorem QE {a c:Nat}(h1:a≤b) (h2:c<b+1) (h3:¬c=a) (h4:¬(a<c∧c≤b)):c<b:=ea (Nat.lt_of_le_of_ne (Nat.le_of_not_lt fun q=>h4 ⟨q,ex h2⟩) h3) h1
theorem QG {a:Nat}:((b:Int) - a+1 - 1).toNat=b - a:=(congrArg Int.toNat (Int.add_sub_cancel _ _)).trans (Int.toNat_sub b a)
theorem QH {a c:Nat}(h1:a≤b) (h2:c≤b):a+(c - a)≤b:=(Nat.le_total a c).elim (fun q=>(Nat.add_sub_of_le q).symm▸h2) fun q=>(Nat.sub_eq_zero_of_le q).symm▸h1
theorem QI {a:Nat}:((a:Int)+1*b).toNat=a+b:=congrArg (fun x:Int=>(a+x).toNat) (Int.one_mul _)
theorem QJ {a:Nat}(h1:2≤a) (h3:b≤2+(a - 2)):b≤a:=eb h3 (eH (Nat.add_sub_of_le h1))
theorem KG {a:Nat}(h:a+0=b):¬((a+1:Nat):Int)<(b:Int)+1:=h▸Int.lt_irrefl _
theorem QM {a c:Nat}(h:a=b+c):c≤a - b:=h▸eH (Nat.add_sub_cancel_left ..).symm
theorem QN {a:Nat}{P:Prop}(h1:a<b) (h2:b<1):P:=absurd (ef (eB a) h1) (Nat.not_lt.mpr (ex h2))
theorem KH {a:Nat}(h1:a - b=0) (h2:b≤a):b=a:=Nat.le_antisymm h2 (Nat.le_of_sub_eq_zero h1)
theorem QP {a c:Nat}(h1:a<b) (h2:c=a+(d+1)):a+1≤min b c:=Nat.le_min.mpr ⟨h1,h2▸Nat.add_le_add_left (eA d) a⟩
theorem Ku {a c:Nat}(h:a+(b+1)=c):a<c:=h▸Nat.lt_add_of_pos_right (eA b)
theorem Hg {a:Nat}(h1:a<N) (h2:b=a) (q:Nat.ble N M=true):b<M:=h2▸ea h1 (d7 q)
theorem EQ {a:Nat}(h1:a<N) (h2:b=a) (q:Nat.ble N (M+1)=true):b≤M:=ex (Hg h1 h2 q)
theorem KK {a:Nat}(h1:a≤N) (h2:b=a) (q:Nat.ble N M=true):b≤M:=h2▸eb h1 (d7 q)
theorem Ix {a:Nat}(h1:a+1<N) (h2:b=a) (q:Nat.ble N M=true):b≤M:=h2▸eb (Nat.le_of_succ_le (ec h1)) (d7 q)
theorem QW {a c:Nat}(h1:a<b) (h2:c≤a) (h3:b≤N) (q:Nat.ble N M=true):c≤M:=eb h2 (eb (ec h1) (eb h3 (d7 q)))
theorem Kv {a:Nat}(h:a≤100):a+(a+1)*2≤16777216:=eb (Nat.add_le_add h (Nat.mul_le_mul_right 2 (eL h))) (d7 rfl)
theorem KL {a c:Nat}(h:a<b) (h2:b=c):a<c:=h2▸h
theorem QX {a c:Nat}(h:a<b) (h2:a=c):c<b:=h2▸h
theorem KI {a:Nat}:(0:Int)<a+1:=Int.ofNat_lt.mpr (eA a)
theorem QR {a:Nat}(h:a<b):(0:Int)<b - a:=Int.sub_pos_of_lt (Int.ofNat_lt.mpr h)
abbrev P0:Program:=PySem.Challenge.pw_in0301_01
noncomputable def st (i:Nat):Stmt:=(P0.main.body[i+1]?).getD (.Pass default)
noncomputable def fX {β:Type}(d:β) (k:Str→Arguments→List Stmt→Scope→β) (s:Stmt):β:=
 if h:s.ctorIdx=0 then Stmt.FunctionDef.elim s h fun n a b _ _ _ c _ _ _=>k n a b c else d
noncomputable def cX {β:Type}(d:β) (k:Str→List Expr→List Keyword→List Stmt→List Expr→List TypeParam→Scope→Option Scope→Str→List Str→Pos→β) (s:Stmt):β:=
 if h:s.ctorIdx=2 then Stmt.ClassDef.elim s h k else d
noncomputable def A4 (s:Stmt) (j:Nat):Stmt:=cX s (fun _ _ _ b _ _ _ _ _ _ _=>(b[j]?).getD (.Pass default)) s
noncomputable def fN:Stmt→Str:=fX default fun n _ _ _=>n
noncomputable def fA:Stmt→Arguments:=fX default fun _ a _ _=>a
noncomputable def fB:Stmt→List Stmt:=fX default fun _ _ b _=>b
noncomputable def fS:Stmt→Scope:=fX default fun _ _ _ c=>c
noncomputable def sS (s:String):Str:=Str.ofString s
noncomputable def vS (s:String) (t:Nat):Value:=.str (Str.ofString s) t
noncomputable def vI (i:Int) (t:Nat):Value:=.int i t
noncomputable def kS (P:Params) (s:String) (t:Nat) (v:Value):DictEntry:=⟨PyData.keyHash P (Str.ofString s),.str (Str.ofString s) t,v⟩
noncomputable def dX {β:Type}(d:β) (k:Str→Nat→Pos→Pos→List Stmt→β) (b:List Stmt):β:=
 b.casesOn d fun x r=>if h:x.ctorIdx=24 then Stmt.Expr.elim x h fun e p=>(if g:e.ctorIdx=19 then Expr.Constant.elim e g fun v n q=>(if f:v.ctorIdx=5 then Const.str.elim v f fun y=>k y n q p r else d) else d) else d
noncomputable def fD (s:Stmt):Str:=dX default (fun y _ _ _ _=>y) (fX (cX [] (fun _ _ _ b _ _ _ _ _ _ _=>b) s) (fun _ _ b _=>b) s)
noncomputable def J9:Str:=fD (st 5)
noncomputable def Lm:List Char:=by
 refine(?g:(l:List Char)→J9=Str.ofString (String.ofList l)→List Char) ?f ?h
 case g=>exact fun l _=>l
 case h=>rfl
noncomputable def Hr:Str:=⟨⟨Lm.map Char.toNat⟩⟩
theorem SK:J9=Hr:=
 (show J9=Str.ofString (String.ofList Lm) by kernel_rfl).trans
  ((Fast.ofString_ofList _).trans (by kernel_rfl))
noncomputable def aE (s:Stmt) (d:Str):Stmt:=cX s (fun n l m b=>.ClassDef n l m (dX b (fun _ n q p r=>.Expr (.Constant (.str d) n q) p::r) b)) s
theorem bq:st 5=aE (st 5) Hr:=by
 rw[←SK]
 kernel_rfl
noncomputable def oT (l:List Value):Obj:=⟨.type "tuple",none,.seq ⟨l⟩ 0,⟨[]⟩⟩
noncomputable def oF (l:List Value):Obj:=⟨.none,none,.fields ⟨l⟩,⟨[]⟩⟩
noncomputable def oX (s:String) (l:List Value):Obj:=⟨.type s,none,.fields ⟨l⟩,⟨[]⟩⟩
noncomputable def oD (n:Nat) (l:List DictEntry):Obj:=⟨.type "dict",none,.dict ⟨l⟩ n,⟨[]⟩⟩
noncomputable def oK (s:String) (b m:List Value) (n:Addr) (d:Bool) (l:List (Option Value)):Obj:=⟨.type "type",none,.cls {name:=sS s,bases:=b,mro:=m,ns:=n,qualname:=sS s,hasDict:=d,slotNames:=[],subclasses:=[],abstract:=false,collection:=none,hasDel:=false},⟨l⟩⟩
noncomputable def nL:Nat→List String→List Value
 |_,[]=>[]
 |t,s::r=>vS s t::nL (t+1) r
noncomputable def kL (P:Params) (f:String→Value):Nat→List String→List DictEntry
 |_,[]=>[]
 |t,s::r=>kS P s t (f s)::kL P f (t+1) r
noncomputable def pS (s:String) (n:Str):Str:=(sS s).append n
noncomputable def fU (n q:Str) (s:Stmt) (g:Nat) (df dc md:Value) (an:Option Addr) (c:Value) (cl:List (Str×Addr)) (ct:Value):Data:=.func {name:=n,qualname:=q,params:=fA s,body:=.stmts (fB s),scope:=fS s,globals:=g,closure:=cl,defaults:=df,kwdefaults:=.none,doc:=dc,pyModule:=md,annotations:=an,code:=c,closureTuple:=ct,builtins:=0}
abbrev FK (β:Type):=Nat→Nat→Stmt→(Str→Str)→Int→Int→Option (List String)→Value→Nat→Value→Option Addr→β
noncomputable def TD (a t:Nat) (n q:Str) (ln ac po fl:Int) (v:Option Nat):Obj:=oX "code" [.str n t,.str q (t+1),vS "/claim/cut.py" (t+2),vI ln 0,vI ac 0,vI po 0,vI 0 0,vI fl 0,.ref a,.bool true,vI 276 0,.ref (a+1),.none,v.elim .none fun _=>.ref (a+2),v.elim .none fun _=>.ref (a+3),.ref (v.elim (a+2) fun _=>a+4),vI ((t+3+v.getD 0:Nat):Int) 0,vI ln 0,vS "/claim/cut.py" (t+4+v.getD 0)]
noncomputable def fc:FK Obj:=fun a t s q ln ac vs _ _ _ _=>TD a t (fN s) (q (fN s)) ln ac 0 3 (vs.map List.length)
noncomputable def ff:FK Obj:=fun a _ s q _ _ vs md dc df an=>⟨.type "function",none,fU (fN s) (q (fN s)) s 3 df (match dc with|0=>.none|_=>.str (fD s) dc) md an (.ref (vs.elim (a+3) fun _=>a+5)) [] .none,⟨[]⟩⟩
noncomputable def fs (s:Stmt) (q:Str):Obj:=⟨.none,none,fU (fN s) q s 0 .none .none .none none .none [] .none,⟨[]⟩⟩
noncomputable def fg:FK (List Obj):=fun a t s q ln ac vs md dc df an=>oT []::oF []::(vs.elim [] fun l=>[oT (nL (t+3) l),oT []])++[fs s (q (fN s)),fc a t s q ln ac vs md dc df an,ff a t s q ln ac vs md dc df an]
noncomputable abbrev Ya:Value:=vS "__main__" 164
noncomputable abbrev Bw:Value:=vS "cpy313.difflib" 289
noncomputable abbrev Yb:Value:=vS "cpy313.fnmatch" 670
noncomputable abbrev Yc:Value:=vS "re" 720
noncomputable abbrev NM:Value:=vS "cpy313.fnmatch" 875
noncomputable abbrev md5:Value:=vS "cpy313.heapq" 909
noncomputable abbrev Dw:Value:=vS "law_in0301_01" 965
noncomputable def I1 {β:Type}(k:FK β):β:=k 93 369 (A4 (st 3) 4) (pS "Match.") 30 4 (some ["_cls","a","b","size"]) Bw 378 .none none
noncomputable def IV {β:Type}(k:FK β):β:=k 171 501 (A4 (st 5) 1) (pS "SequenceMatcher.") 146 5 (some ["self","isjunk","a","b","autojunk"]) Bw 511 (.ref 170) none
noncomputable def IW {β:Type}(k:FK β):β:=k 178 513 (A4 (st 5) 2) (pS "SequenceMatcher.") 174 3 (some ["self","a","b"]) Bw 521 .none none
noncomputable def IX {β:Type}(k:FK β):β:=k 185 523 (A4 (st 5) 3) (pS "SequenceMatcher.") 185 2 (some ["self","a"]) Bw 530 .none none
noncomputable def IY {β:Type}(k:FK β):β:=k 192 532 (A4 (st 5) 4) (pS "SequenceMatcher.") 210 2 (some ["self","b"]) Bw 539 .none none
noncomputable def IZ {β:Type}(k:FK β):β:=k 199 541 (A4 (st 5) 5) (pS "SequenceMatcher.") 237 1 (some ["self","b","b2j","i","elt","indices","junk","isjunk","popular","n","ntest","idxs"]) Bw 0 .none none
noncomputable def I0 {β:Type}(k:FK β):β:=k 207 561 (A4 (st 5) 6) (pS "SequenceMatcher.") 261 5 (some ["self","alo","ahi","blo","bhi","a","b","b2j","isbjunk","besti","bestj","bestsize","j2len","nothing","i","j2lenget","newj2len","j","k"]) Bw 585 (.ref 206) none
noncomputable def LH {β:Type}(k:FK β):β:=k 269 710 (st 8) id 421 1 (some ["pat","STAR","parts"]) Yb 718 .none none
noncomputable def LI {β:Type}(k:FK β):β:=k 281 868 (st 11) id 431 1 (some ["pattern"]) Yc 0 .none none
noncomputable def Hx {β:Type}(k:FK β):β:=k 288 877 (st 13) id 438 3 (some ["pat","STAR","QUESTION_MARK","res","add","i","n","c","j","stuff","chunks","k","chunk"]) NM 0 .none none
noncomputable def LK {β:Type}(k:FK β):β:=k 295 896 (st 14) id 500 2 (some ["inp","STAR","res","add","i","n","fixed"]) NM 0 .none none
noncomputable def LL {β:Type}(k:FK β):β:=k 302 911 (st 16) id 528 2 (some ["heap","item"]) md5 918 .none none
noncomputable def LM {β:Type}(k:FK β):β:=k 309 920 (st 17) id 532 1 (some ["heap","lastelt","returnitem"]) md5 928 .none none
noncomputable def LN {β:Type}(k:FK β):β:=k 316 930 (st 18) id 541 2 (some ["heap","item","returnitem"]) md5 938 .none none
noncomputable def LP {β:Type}(k:FK β):β:=k 323 940 (st 19) id 556 3 (some ["heap","startpos","pos","newitem","parentpos","parent"]) md5 0 .none none
noncomputable def LQ {β:Type}(k:FK β):β:=k 330 952 (st 20) id 567 2 (some ["heap","pos","endpos","startpos","newitem","childpos","rightpos"]) md5 0 .none none
noncomputable def LR {β:Type}(k:FK β):β:=k 337 967 (st 22) id 582 2 (some ["text","k"]) Dw 0 .none none
noncomputable def LS {β:Type}(k:FK β):β:=k 344 975 (st 23) id 586 2 (some ["text","k","barred","pairs","low","high"]) Dw 0 .none none
noncomputable def LT {β:Type}(k:FK β):β:=k 351 987 (st 24) id 598 1 (some ["text","rows","k","item","sign"]) Dw 0 .none none
noncomputable def LU {β:Type}(k:FK β):β:=k 358 998 (st 25) id 626 3 none Dw 0 .none none
noncomputable def LV {β:Type}(k:FK β):β:=k 363 1004 (st 26) id 635 2 (some ["rows","name","at","kind","items"]) Dw 0 .none none
noncomputable def LW {β:Type}(k:FK β):β:=k 370 1015 (st 27) id 647 3 none Dw 0 .none none
noncomputable def LX {β:Type}(k:FK β):β:=k 375 1021 (st 28) id 661 2 (some ["one","other","size","i","j"]) Dw 0 .none none
noncomputable def LY {β:Type}(k:FK β):β:=k 382 1032 (st 29) id 668 2 (some ["text","alphabet","matcher","heap","asked","lacking","word","head","sign","i","j","size"]) Dw 0 .none none
noncomputable def LZ {β:Type}(k:FK β):β:=k 389 1050 (st 30) id 689 2 none Dw 0 .none none
noncomputable def Hy {β:Type}(k:FK β):β:=k 394 1056 (st 31) id 705 1 none Dw 0 .none none
noncomputable def G1 (P:Params):Obj:=oD 159 ([kS P "__name__" 1 (vS "builtins" 160),kS P "__doc__" 2 (.builtin "builtins.__doc__:str#opaque"),kS P "__package__" 3 (.builtin "builtins.__package__:str#opaque"),kS P "__loader__" 4 (.builtin "builtins.__loader__:shared#opaque"),kS P "__spec__" 5 (.builtin "builtins.__spec__#opaque")]++kL P .builtin 6 ["__build_class__","__import__","abs","all","any","ascii","bin","breakpoint","callable","chr","compile","delattr","dir","divmod","eval","exec","format","getattr","globals","hasattr","hash","hex","id","input","isinstance","issubclass","iter","aiter","len","locals","max","min","next","anext","oct","ord","pow","print","repr","round","setattr","sorted","sum","vars"]++[kS P "None" 50 .none,kS P "Ellipsis" 51 .ellipsis,kS P "NotImplemented" 52 .notImplemented,kS P "False" 53 (.bool false),kS P "True" 54 (.bool true)]++kL P .type 55 ["bool","memoryview","bytearray","bytes","classmethod","complex","dict","enumerate","filter","float","frozenset","property","int","list","map","object","range","reversed","set","slice","staticmethod","str","super","tuple","type","zip"]++[kS P "__debug__" 81 (.bool true)]++kL P .type 82 ["BaseException","BaseExceptionGroup","Exception","GeneratorExit","KeyboardInterrupt","SystemExit","ArithmeticError","AssertionError","AttributeError","BufferError","EOFError","ImportError","LookupError","MemoryError","NameError","OSError","ReferenceError","RuntimeError","StopAsyncIteration","StopIteration","SyntaxError","SystemError","TypeError","ValueError","Warning","FloatingPointError","OverflowError","ZeroDivisionError","BytesWarning","DeprecationWarning","EncodingWarning","FutureWarning","ImportWarning","PendingDeprecationWarning","ResourceWarning","RuntimeWarning","SyntaxWarning","UnicodeWarning","UserWarning","BlockingIOError","ChildProcessError","ConnectionError","FileExistsError","FileNotFoundError","InterruptedError","IsADirectoryError","NotADirectoryError","PermissionError","ProcessLookupError","TimeoutError","IndentationError","_IncompleteInputError","IndexError","KeyError","ModuleNotFoundError","NotImplementedError","PythonFinalizationError","RecursionError","UnboundLocalError","UnicodeError","BrokenPipeError","ConnectionAbortedError","ConnectionRefusedError","ConnectionResetError","TabError","UnicodeDecodeError","UnicodeEncodeError","UnicodeTranslateError","ExceptionGroup"]++[kS P "EnvironmentError" 151 (.type "OSError"),kS P "IOError" 152 (.type "OSError"),kS P "open" 153 (.builtin "open"),kS P "quit" 154 (.builtin "builtins.quit#opaque"),kS P "exit" 155 (.builtin "builtins.exit#opaque"),kS P "copyright" 156 (.builtin "builtins.copyright#opaque"),kS P "credits" 157 (.builtin "builtins.credits#opaque"),kS P "license" 158 (.builtin "builtins.license#opaque"),kS P "help" 159 (.builtin "builtins.help#opaque")])
noncomputable def Ob (P:Params):Obj:=oD 3 [kS P "builtins" 162 (.ref 4),kS P "__main__" 163 (.ref 5),kS P "_sre" 244 (.ref 12)]
noncomputable def HX (P:Params):Obj:=⟨.none,none,.dict ⟨[kS P "\x69mport.loaded._sre" 183 (.bool true),kS P "class._frozen_importlib.BuiltinImporter" 185 (.ref 14),kS P "watched.\x69mport" 206 (.ref 18),kS P "class._frozen_importlib.ModuleSpec" 216 (.ref 22),kS P "sys.modules.booked-epoch" 245 (vI 3 0),kS P "\x69mport.later-laid._sre" 270 (.bool true),kS P "watched.library" 272 (.ref 27),kS P "watched.library-objects" 0 (vS "\x0c" 0),kS P "watched.library-deep._sre" 273 (vS "\x04\x00\x00\x0b\x04\x00\x00\x0b\x04\x00\x00\x03\x04\x00\x00\x0b\x08\x04dict\x02" 0)]⟩ 9,⟨[]⟩⟩
noncomputable def Od:Obj:=⟨(.type "module"),(some 0),.plain,⟨[]⟩⟩
noncomputable def YT (P:Params):Obj:=oD 14 [kS P "__module__" 189 (vS "_frozen_importlib" 186),kS P "__firstlineno__" 190 (vI 971 187),kS P "__doc__" 191 (.builtin "_frozen_importlib.BuiltinImporter.__doc__:str#opaque"),kS P "_ORIGIN" 192 (vS "built-in" 188),kS P "find_spec" 193 (.builtin "_frozen_importlib.BuiltinImporter.find_spec#opaque"),kS P "create_module" 194 (.builtin "_frozen_importlib.BuiltinImporter.create_module#opaque"),kS P "exec_module" 195 (.builtin "_frozen_importlib.BuiltinImporter.exec_module#opaque"),kS P "get_code" 196 (.builtin "_frozen_importlib.BuiltinImporter.get_code#opaque"),kS P "get_source" 197 (.builtin "_frozen_importlib.BuiltinImporter.get_source#opaque"),kS P "is_package" 198 (.builtin "_frozen_importlib.BuiltinImporter.is_package#opaque"),kS P "load_module" 199 (.builtin "_frozen_importlib.BuiltinImporter.load_module#opaque"),kS P "__static_attributes__" 200 (.ref 15),kS P "__dict__" 202 (.ref 16),kS P "__weakref__" 204 (.ref 17)]
noncomputable def YW:Obj:=⟨.none,none,.seq ⟨[(vI 13 0),(vS "\x06½\n__module__\x06º\x11_frozen_importlib\x06¾\x0f__firstlineno__\x04»\x00ϋ\x06¿\x07__doc__\t4_frozen_importlib.BuiltinImporter.__doc__:str#opaque\x06À\x07_ORIGIN\x06¼\x08built-in\x06Á\tfind_spec\t2_frozen_importlib.BuiltinImporter.find_spec#opaque\x06Â\x0dcreate_module\t6_frozen_importlib.BuiltinImporter.create_module#opaque\x06Ã\x0bexec_module\t4_frozen_importlib.BuiltinImporter.exec_module#opaque\x06Ä\x08get_code\t1_frozen_importlib.BuiltinImporter.get_code#opaque\x06Å\nget_source\t3_frozen_importlib.BuiltinImporter.get_source#opaque\x06Æ\nis_package\t3_frozen_importlib.BuiltinImporter.is_package#opaque\x06Ç\x0bload_module\t4_frozen_importlib.BuiltinImporter.load_module#opaque\x06È\x15__static_attributes__\x04\x00\x00\x0f\x06Ê\x08__dict__\x04\x00\x00\x10\x06Ì\x0b__weakref__\x04\x00\x00\x11" 0),(.bool true),(.bool true),(vS "" 205),(vI 21 0),(vS "\x06ã\n__module__\x06Ù\x11_frozen_importlib\x06ä\x0f__firstlineno__\x04Ú\x00Ȳ\x06å\x07__doc__\t/_frozen_importlib.ModuleSpec.__doc__:str#opaque\x06æ\x08__init__\t,_frozen_importlib.ModuleSpec.__init__#opaque\x06ç\x08__repr__\t,_frozen_importlib.ModuleSpec.__repr__#opaque\x06è\x06__eq__\t*_frozen_importlib.ModuleSpec.__eq__#opaque\x06é\x06cached\t*_frozen_importlib.ModuleSpec.cached#opaque\x06ê\x06parent\t*_frozen_importlib.ModuleSpec.parent#opaque\x06ë\x0chas_location\t0_frozen_importlib.ModuleSpec.has_location#opaque\x06ì\x15__static_attributes__\x04\x00\x00\x17\x06î\x08__dict__\x04\x00\x00\x18\x06ð\x0b__weakref__\x04\x00\x00\x19\x06ñ\x08__hash__\x00" 0),(.bool true),(.bool true),(vS "" 242)]⟩ 1,⟨[]⟩⟩
noncomputable def YX (P:Params):Obj:=oD 13 [kS P "__module__" 227 (vS "_frozen_importlib" 217),kS P "__firstlineno__" 228 (vI 562 218),kS P "__doc__" 229 (.builtin "_frozen_importlib.ModuleSpec.__doc__:str#opaque"),kS P "__init__" 230 (.builtin "_frozen_importlib.ModuleSpec.__init__#opaque"),kS P "__repr__" 231 (.builtin "_frozen_importlib.ModuleSpec.__repr__#opaque"),kS P "__eq__" 232 (.builtin "_frozen_importlib.ModuleSpec.__eq__#opaque"),kS P "cached" 233 (.builtin "_frozen_importlib.ModuleSpec.cached#opaque"),kS P "parent" 234 (.builtin "_frozen_importlib.ModuleSpec.parent#opaque"),kS P "has_location" 235 (.builtin "_frozen_importlib.ModuleSpec.has_location#opaque"),kS P "__static_attributes__" 236 (.ref 23),kS P "__dict__" 238 (.ref 24),kS P "__weakref__" 240 (.ref 25),kS P "__hash__" 241 .none]
noncomputable def YZ:Obj:=⟨.none,none,.seq ⟨[(vI 11 0),(.str ⟨⟨[6,247,8,95,95,110,97,109,101,95,95,6,246,4,95,115,114,101,6,248,7,95,95,100,111,99,95,95,0,6,250,11,95,95,112,97,99,107,97,103,101,95,95,6,249,0,6,251,10,95,95,108,111,97,100,101,114,95,95,4,0,0,14,6,252,8,95,95,115,112,101,99,95,95,4,0,0,26,6,253,7,99,111,109,112,105,108,101,9,12,95,115,114,101,46,99,111,109,112,105,108,101,6,254,8,116,101,109,112,108,97,116,101,9,13,95,115,114,101,46,116,101,109,112,108,97,116,101,6,255,11,103,101,116,99,111,100,101,115,105,122,101,9,16,95,115,114,101,46,103,101,116,99,111,100,101,115,105,122,101,6,256,13,97,115,99,105,105,95,105,115,99,97,115,101,100,9,18,95,115,114,101,46,97,115,99,105,105,95,105,115,99,97,115,101,100,6,257,15,117,110,105,99,111,100,101,95,105,115,99,97,115,101,100,9,20,95,115,114,101,46,117,110,105,99,111,100,101,95,105,115,99,97,115,101,100,6,258,13,97,115,99,105,105,95,116,111,108,111,119,101,114,9,18,95,115,114,101,46,97,115,99,105,105,95,116,111,108,111,119,101,114,6,259,15,117,110,105,99,111,100,101,95,116,111,108,111,119,101,114,9,20,95,115,114,101,46,117,110,105,99,111,100,101,95,116,111,108,111,119,101,114,6,261,5,77,65,71,73,67,4,260,0,20230612,6,263,8,67,79,68,69,83,73,90,69,4,262,0,4,6,265,9,77,65,88,82,69,80,69,65,84,4,264,0,4294967295,6,267,9,77,65,88,71,82,79,85,80,83,4,266,0,1073741823,6,269,9,99,111,112,121,114,105,103,104,116,6,268,53,32,83,82,69,32,50,46,50,46,50,32,67,111,112,121,114,105,103,104,116,32,40,99,41,32,49,57,57,55,45,50,48,48,50,32,98,121,32,83,101,99,114,101,116,32,76,97,98,115,32,65,66,32]⟩⟩ 0),(.bool true),(.bool false),(vS "_sre" 271)]⟩ 0,⟨[]⟩⟩
noncomputable def Y0 (P:Params):Obj:=oD 20 [kS P "__module__" 355 (vS "cpy313.difflib" 289),kS P "__qualname__" 357 (vS "Match" 356),kS P "__firstlineno__" 359 (vI 24 358),kS P "__doc__" 361 (.str (fD (st 3)) 360),kS P "__slots__" 363 (.ref 90),kS P "_fields" 367 (.ref 91),kS P "_field_defaults" 368 (.ref 92),kS P "__new__" 379 (.ref 99),kS P "_make" 401 (.ref 108),kS P "_replace" 412 (.ref 117),kS P "__replace__" 413 (.ref 117),kS P "__repr__" 421 (.ref 124),kS P "_asdict" 428 (.ref 131),kS P "__getnewargs__" 436 (.ref 138),kS P "__match_args__" 440 (.ref 139),kS P "a" 450 (.ref 141),kS P "b" 460 (.ref 144),kS P "size" 470 (.ref 147),kS P "__static_attributes__" 471 (.ref 149),kS P "__classcell__" 472 (.ref 85)]
noncomputable def YR:Obj:=⟨(.type "function"),none,.func {name:=(sS "_replace"),qualname:=(sS "Match._replace"),params:=fA (A4 (st 3) 6),body:=.stmts (fB (A4 (st 3) 6)),scope:=fS (A4 (st 3) 6),globals:=3,closure:=[((sS "__class__"),85)],defaults:=.none,kwdefaults:=.none,doc:=(.str (fD (A4 (st 3) 6)) 411),pyModule:=(vS "cpy313.difflib" 289),annotations:=none,code:=(.ref 116),closureTuple:=(.ref 110),builtins:=0},⟨[]⟩⟩
noncomputable def N6 (P:Params):Obj:=oD 2 [kS P "__module__" 355 (vS "cpy313.difflib" 289),kS P "__firstlineno__" 359 (vI 24 358),kS P "__doc__" 361 (.str (fD (st 3)) 360),kS P "__slots__" 363 (.ref 90),kS P "_fields" 367 (.ref 91),kS P "_field_defaults" 368 (.ref 92),kS P "__new__" 379 (.ref 153),kS P "_make" 401 (.ref 108),kS P "_replace" 412 (.ref 117),kS P "__replace__" 413 (.ref 117),kS P "__repr__" 421 (.ref 124),kS P "_asdict" 428 (.ref 131),kS P "__getnewargs__" 436 (.ref 138),kS P "__match_args__" 440 (.ref 139),kS P "a" 450 (.ref 141),kS P "b" 460 (.ref 144),kS P "size" 470 (.ref 147),kS P "__static_attributes__" 471 (.ref 149)]
noncomputable def N8:Obj:=oK "Match" [(.type "tuple")] [(.ref 152),(.type "tuple"),(.type "object")] 151 false [(some (.ref 82)),none,(some (vS "Match" 348)),(some (vS "Match" 356)),(some .none),(some (.bool false))]
noncomputable def N9:Obj:=oX "staticmethod" [(.ref 99)]
noncomputable def YU (P:Params):Obj:=oD 17 [kS P "__module__" 491 (vS "cpy313.difflib" 289),kS P "__qualname__" 493 (vS "SequenceMatcher" 492),kS P "__firstlineno__" 495 (vI 71 494),kS P "__doc__" 497 (.str Hr 496),kS P "__init__" 512 (.ref 177),kS P "set_seqs" 522 (.ref 184),kS P "set_seq1" 531 (.ref 191),kS P "set_seq2" 540 (.ref 198),kS P "_SequenceMatcher__chain_b" 558 (.ref 205),kS P "find_longest_match" 586 (.ref 213),kS P "get_matching_blocks" 613 (.ref 220),kS P "get_opcodes" 620 (.ref 227),kS P "get_grouped_opcodes" 629 (.ref 235),kS P "ratio" 638 (.ref 242),kS P "quick_ratio" 645 (.ref 249),kS P "real_quick_ratio" 652 (.ref 256),kS P "__static_attributes__" 663 (.ref 257)]
noncomputable def YV:Obj:=oF [(vI 146 0),(vI 4 0),(.ref 176),(vI 174 0),(vI 4 0),(.ref 183),(vI 185 0),(vI 4 0),(.ref 190),(vI 210 0),(vI 4 0),(.ref 197),(vI 237 0),(vI 4 0),(.ref 204),(vI 261 0),(vI 4 0),(.ref 212),(vI 336 0),(vI 4 0),(.ref 219),(vI 384 0),(vI 4 0),(.ref 226),(vI 387 0),(vI 4 0),(.ref 234),(vI 390 0),(vI 4 0),(.ref 241),(vI 414 0),(vI 4 0),(.ref 248),(vI 417 0),(vI 4 0),(.ref 255)]
noncomputable def Oa:Obj:=oT [.none,(vS "" 499),(vS "" 500),(.bool true)]
noncomputable def JQ:Obj:=oT [(vI 0 559),.none,(vI 0 560),.none]
noncomputable def HV (P:Params):Obj:=oD 3 [kS P "__module__" 491 (vS "cpy313.difflib" 289),kS P "__firstlineno__" 495 (vI 71 494),kS P "__doc__" 497 (.str Hr 496),kS P "__init__" 512 (.ref 177),kS P "set_seqs" 522 (.ref 184),kS P "set_seq1" 531 (.ref 191),kS P "set_seq2" 540 (.ref 198),kS P "_SequenceMatcher__chain_b" 558 (.ref 205),kS P "find_longest_match" 586 (.ref 213),kS P "get_matching_blocks" 613 (.ref 220),kS P "get_opcodes" 620 (.ref 227),kS P "get_grouped_opcodes" 629 (.ref 235),kS P "ratio" 638 (.ref 242),kS P "quick_ratio" 645 (.ref 249),kS P "real_quick_ratio" 652 (.ref 256),kS P "__static_attributes__" 663 (.ref 257),kS P "__dict__" 665 (.ref 260),kS P "__weakref__" 667 (.ref 261)]
noncomputable def HW:Obj:=oK "SequenceMatcher" [(.type "object")] [(.ref 259),(.type "object")] 258 true [none,none,(some (vS "SequenceMatcher" 484)),(some (vS "SequenceMatcher" 492)),(some (.builtin "object.__new__")),(some (.bool true))]
noncomputable def YY:Obj:=⟨(.type "list"),none,.seq ⟨[(vI 14 675),(vI 14 676),(vI 4 677),(vI 1 678),(vI 1 679),(vI 9 680),(vI 0 681),(vI 64 682),(vI 0 683),(vI 1342177280 684),(vI 0 685),(vI 0 686),(vI 0 687),(vI 0 688),(vI 0 689),(vI 17 690),(vI 0 691),(vI 13 692),(vI 11 693),(vI 9 694),(vI 0 695),(vI 64 696),(vI 0 697),(vI 1342177280 698),(vI 0 699),(vI 0 700),(vI 0 701),(vI 0 702),(vI 0 703),(vI 17 704),(vI 1 705),(vI 1 706)]⟩ 0,⟨[]⟩⟩
noncomputable def Oc:Obj:=oT [(vI 14 0),(vI 14 0),(vI 4 0),(vI 1 0),(vI 1 0),(vI 9 0),(vI 0 0),(vI 64 0),(vI 0 0),(vI 1342177280 0),(vI 0 0),(vI 0 0),(vI 0 0),(vI 0 0),(vI 0 0),(vI 17 0),(vI 0 0),(vI 13 0),(vI 11 0),(vI 9 0),(vI 0 0),(vI 64 0),(vI 0 0),(vI 1342177280 0),(vI 0 0),(vI 0 0),(vI 0 0),(vI 0 0),(vI 0 0),(vI 17 0),(vI 1 0),(vI 1 0)]
noncomputable def o268v0:Obj:=⟨(.type "re.Pattern"),none,.fields ⟨[(vS "([&~|])" 673),(vI 32 708),(vI 1 0),.none,.none,(.ref 267),(vI 0 0)]⟩,⟨[]⟩⟩
noncomputable def Dy:Obj:=oD 24 [⟨40,(vI 40 723),(vS "\\(" 727)⟩,⟨41,(vI 41 729),(vS "\\)" 733)⟩,⟨91,(vI 91 735),(vS "\\[" 739)⟩,⟨93,(vI 93 741),(vS "\\]" 745)⟩,⟨123,(vI 123 747),(vS "\\{" 751)⟩,⟨125,(vI 125 753),(vS "\\}" 757)⟩,⟨63,(vI 63 759),(vS "\\?" 763)⟩,⟨42,(vI 42 765),(vS "\\*" 769)⟩,⟨43,(vI 43 771),(vS "\\+" 775)⟩,⟨45,(vI 45 777),(vS "\\-" 781)⟩,⟨124,(vI 124 783),(vS "\\|" 787)⟩,⟨94,(vI 94 789),(vS "\\^" 793)⟩,⟨36,(vI 36 795),(vS "\\$" 799)⟩,⟨92,(vI 92 801),(vS "\\\\" 805)⟩,⟨46,(vI 46 807),(vS "\\." 811)⟩,⟨38,(vI 38 813),(vS "\\&" 817)⟩,⟨126,(vI 126 819),(vS "\\~" 823)⟩,⟨35,(vI 35 825),(vS "\\#" 829)⟩,⟨32,(vI 32 831),(vS "\\ " 835)⟩,⟨9,(vI 9 837),(vS "\\\t" 841)⟩,⟨10,(vI 10 843),(vS "\\\n" 847)⟩,⟨13,(vI 13 849),(vS "\\\x0d" 853)⟩,⟨11,(vI 11 855),(vS "\\\x0b" 859)⟩,⟨12,(vI 12 861),(vS "\\\x0c" 865)⟩]
noncomputable def YS (P:Params):Obj:=oD 17 [kS P "__name__" 247 (vS "_sre" 246),kS P "__doc__" 248 .none,kS P "__package__" 250 (vS "" 249),kS P "__loader__" 251 (.ref 14),kS P "__spec__" 252 (.ref 26),kS P "compile" 253 (.builtin "_sre.compile"),kS P "template" 254 (.builtin "_sre.template"),kS P "getcodesize" 255 (.builtin "_sre.getcodesize"),kS P "ascii_iscased" 256 (.builtin "_sre.ascii_iscased"),kS P "unicode_iscased" 257 (.builtin "_sre.unicode_iscased"),kS P "ascii_tolower" 258 (.builtin "_sre.ascii_tolower"),kS P "unicode_tolower" 259 (.builtin "_sre.unicode_tolower"),kS P "MAGIC" 261 (vI 20230612 260),kS P "CODESIZE" 263 (vI 4 262),kS P "MAXREPEAT" 265 (vI 4294967295 264),kS P "MAXGROUPS" 267 (vI 1073741823 266),kS P "copyright" 269 (vS " SRE 2.2.2 Copyright (c) 1997-2002 by Secret Labs AB " 268)]
noncomputable def Et (P:Params):Obj:=oD 17 [kS P "__name__" 247 (vS "_sre" 246),kS P "__doc__" 248 .none,kS P "__package__" 250 (vS "" 249),kS P "__loader__" 251 (.builtin "off-the-table:_sre.__loader__:shared#opaque"),kS P "__spec__" 252 (.builtin "off-the-table:_sre.__spec__:shared#opaque"),kS P "compile" 253 (.builtin "_sre.compile"),kS P "template" 254 (.builtin "off-the-table:_sre.template:shared#opaque"),kS P "getcodesize" 255 (.builtin "off-the-table:_sre.getcodesize:shared#opaque"),kS P "ascii_iscased" 256 (.builtin "off-the-table:_sre.ascii_iscased:shared#opaque"),kS P "unicode_iscased" 257 (.builtin "off-the-table:_sre.unicode_iscased:shared#opaque"),kS P "ascii_tolower" 258 (.builtin "off-the-table:_sre.ascii_tolower:shared#opaque"),kS P "unicode_tolower" 259 (.builtin "off-the-table:_sre.unicode_tolower:shared#opaque"),kS P "MAGIC" 261 (vI 20230612 260),kS P "CODESIZE" 263 (vI 4 262),kS P "MAXREPEAT" 265 (vI 4294967295 264),kS P "MAXGROUPS" 267 (vI 1073741823 266),kS P "copyright" 269 (vS " SRE 2.2.2 Copyright (c) 1997-2002 by Secret Labs AB " 268)]
noncomputable def Dz (P:Params) (v:Value) (k:Nat):Obj:=oD k ((kS P "__name__" 165 v::[kS P "__doc__" 166 .none,kS P "__package__" 167 .none,kS P "__loader__" 168 (.builtin "__main__.__loader__#opaque"),kS P "__spec__" 169 .none,kS P "__annotations__" 170 (.ref 6),kS P "__builtins__" 171 (.ref 4),kS P "__file__" 173 (vS "/claim/cut.py" 172),kS P "__cached__" 174 .none,kS P "_sre" 275 (.ref 12),kS P "_wall" 288 (.ref 38),kS P "_tuplegetter" 347 (.ref 77),kS P "Match" 475 (.ref 152),kS P "_calculate_ratio" 483 (.ref 162),kS P "SequenceMatcher" 669 (.ref 259),kS P "_twin_re_1" 709 (.ref 268),kS P "translate" 719 (.ref 275),kS P "_special_chars_map" 867 (.ref 277),kS P "escape" 874 (.ref 287),kS P "_translate" 895 (.ref 294),kS P "_join_translated_parts" 908 (.ref 301),kS P "heappush" 919 (.ref 308),kS P "heappop" 929 (.ref 315),kS P "heapreplace" 939 (.ref 322),kS P "_siftdown" 951 (.ref 329),kS P "_siftup" 964 (.ref 336),kS P "_law_one" 974 (.ref 343),kS P "_law_set" 986 (.ref 350),kS P "_law_rows" 997 (.ref 357),kS P "_law_fits" 1003 (.ref 362),kS P "_law_takes" 1014 (.ref 369),kS P "_law_glob" 1020 (.ref 374),kS P "_law_longest" 1031 (.ref 381),kS P "_law_lacking" 1049 (.ref 388),kS P "_law_grown" 1055 (.ref 393),kS P "law" 1061 (.ref 398)]).take k)
noncomputable abbrev DA (P:Params):Obj:=Dz P (vS "law_in0301_01" 965) 36
noncomputable def D1 (k:Nat):Obj:=oF (([(2,37),(6,44),(24,88),(67,161),(71,168),(421,274),(431,286),(438,293),(500,300),(528,307),(532,314),(541,321),(556,328),(567,335),(582,342),(586,349),(598,356),(626,361),(635,368),(647,373),(661,380),(668,387),(689,392),(705,397)].take k).flatMap fun p=>[vI p.1 0,vI 0 0,.ref p.2])
noncomputable def objs (P:Params) (o3 o11 o29:Obj):List Obj:=[G1 P,Ob P,HX P,o3,Od,⟨(.type "module"),(some 3),.plain,⟨[]⟩⟩,oD 0 [],oT [],oF [],oX "code" [(vS "<module>" 176),(vS "<module>" 177),(vS "/claim/cut.py" 178),(vI 1 0),(vI 0 0),(vI 0 0),(vI 0 0),(vI 0 0),(.ref 7),(.bool false),(vI 175 0),(.ref 8),.none,.none,.none,.none,(vI 179 0),(vI 1 0),(vS "/claim/cut.py" 180)],⟨(.type "frame"),none,.plain,⟨[(some (.ref 9)),(some (.ref 3)),(some (.ref 3)),none,(some (vS "__main__" 164)),none,(some (.ref 0))]⟩⟩,o11,⟨(.type "module"),(some 11),.plain,⟨[]⟩⟩,YT P,oK "BuiltinImporter" [(.type "object")] [(.ref 14),(.type "object")] 13 true [],oT [],oX "getset_descriptor" [(vS "__dict__" 201),(.ref 14),(.builtin "function.__dict__"),(.builtin "function.__dict__#set")],oX "getset_descriptor" [(vS "__weakref__" 203),(.ref 14),(.builtin "ExceptionGroup.__weakref__"),.none],YW,⟨(.type "list"),none,.seq ⟨[]⟩ 0,⟨[]⟩⟩,oD 9 [kS P "name" 208 (vS "_sre" 207),kS P "loader" 209 (.ref 14),kS P "origin" 210 (vS "built-in" 184),kS P "loader_state" 211 .none,kS P "submodule_search_locations" 212 .none,kS P "_uninitialized_submodules" 213 (.ref 19),kS P "_set_fileattr" 214 (.bool false),kS P "_cached" 215 .none,kS P "_initializing" 243 (.bool false)],YX P,oK "ModuleSpec" [(.type "object")] [(.ref 22),(.type "object")] 21 true [],oT (nL 219 ["_cached","_set_fileattr","_uninitialized_submodules","loader","loader_state","name","origin","submodule_search_locations"]),oX "getset_descriptor" [(vS "__dict__" 237),(.ref 22),(.builtin "function.__dict__"),(.builtin "function.__dict__#set")],oX "getset_descriptor" [(vS "__weakref__" 239),(.ref 22),(.builtin "ExceptionGroup.__weakref__"),.none],⟨(.ref 22),(some 20),.plain,⟨[]⟩⟩,YZ,oT [],o29,oX "code" [(vS "<module>" 277),(vS "<module>" 278),(vS "/claim/cut.py" 279),(vI 1 0),(vI 0 0),(vI 0 0),(vI 0 0),(vI 0 0),(.ref 28),(.bool false),(vI 276 0),(.ref 29),.none,.none,.none,.none,(vI 280 0),(vI 1 0),(vS "/claim/cut.py" 281)],⟨(.type "frame"),none,.plain,⟨[(some (.ref 30)),(some (.ref 3)),(some (.ref 3)),none,(some (vS "__main__" 164)),none,(some (.ref 0))]⟩⟩]++(fg 32 282 (st 0) id 2 1 (some ["k"]) Ya 0 .none none++([oT [],oX "builtin_function_or_method" [(.builtin "type.__prepare__"),(.type "type")],oD 8 [kS P "__module__" 298 (vS "cpy313.difflib" 289),kS P "__qualname__" 300 (vS "_tuplegetter" 299),kS P "__firstlineno__" 302 (vI 6 301),kS P "__init__" 311 (.ref 52),kS P "__get__" 320 (.ref 60),kS P "__set__" 329 (.ref 67),kS P "__delete__" 337 (.ref 74),kS P "__static_attributes__" 340 (.ref 75)],oT [],oF [(vI 8 0),(vI 4 0),(.ref 51),(vI 12 0),(vI 4 0),(.ref 59),(vI 19 0),(vI 4 0),(.ref 66),(vI 22 0),(vI 4 0),(.ref 73)],oX "code" [(vS "_tuplegetter" 293),(vS "_tuplegetter" 294),(vS "/claim/cut.py" 295),(vI 6 0),(vI 0 0),(vI 0 0),(vI 0 0),(vI 0 0),(.ref 42),(.bool false),(vI 276 0),(.ref 43),.none,.none,.none,.none,(vI 296 0),(vI 6 0),(vS "/claim/cut.py" 297)],⟨(.type "frame"),none,.plain,⟨[(some (.ref 44)),(some (.ref 3)),(some (.ref 41)),none,(some (vS "cpy313.difflib" 289)),none,(some (.ref 0))]⟩⟩]++(fg 46 303 (A4 (st 2) 0) (pS "_tuplegetter.") 8 3 (some ["self","index","doc"]) Bw 0 .none none++([oT [.none]]++(fg 54 312 (A4 (st 2) 1) (pS "_tuplegetter.") 12 3 (some ["self","obj","objtype"]) Bw 0 (.ref 53) none++(fg 61 321 (A4 (st 2) 2) (pS "_tuplegetter.") 19 3 (some ["self","obj","value"]) Bw 0 .none none++(fg 68 330 (A4 (st 2) 3) (pS "_tuplegetter.") 22 2 (some ["self","obj"]) Bw 0 .none none++([oT (nL 338 ["__doc__","index"]),oD 4 [kS P "__module__" 298 (vS "cpy313.difflib" 289),kS P "__firstlineno__" 302 (vI 6 301),kS P "__init__" 311 (.ref 52),kS P "__get__" 320 (.ref 60),kS P "__set__" 329 (.ref 67),kS P "__delete__" 337 (.ref 74),kS P "__static_attributes__" 340 (.ref 75),kS P "__dict__" 342 (.ref 78),kS P "__weakref__" 344 (.ref 79),kS P "__doc__" 345 .none],oK "_tuplegetter" [(.type "object")] [(.ref 77),(.type "object")] 76 true [none,none,(some (vS "_tuplegetter" 291)),(some (vS "_tuplegetter" 299)),(some (.builtin "object.__new__")),(some (.bool true))],oX "getset_descriptor" [(vS "__dict__" 341),(.ref 77),(.builtin "function.__dict__"),(.builtin "function.__dict__#set")],oX "getset_descriptor" [(vS "__weakref__" 343),(.ref 77),(.builtin "ExceptionGroup.__weakref__"),.none],oX "super" [(.ref 77),(.ref 77),(.ref 77)],oX "builtin_function_or_method" [(.builtin "object.__init_subclass__"),(.ref 77)],oT [(.type "tuple")],oX "builtin_function_or_method" [(.builtin "type.__prepare__"),(.type "type")],Y0 P,⟨(.type "cell"),none,.cell (some (.ref 152)),⟨[]⟩⟩,oT [],oF [(vI 30 0),(vI 4 0),(.ref 98),(vI 35 0),(vI 4 0),(.ref 105),(vI 42 0),(vI 4 0),(.ref 116),(vI 53 0),(vI 4 0),(.ref 123),(vI 57 0),(vI 4 0),(.ref 130),(vI 60 0),(vI 4 0),(.ref 137)],oX "code" [(vS "Match" 350),(vS "Match" 351),(vS "/claim/cut.py" 352),(vI 24 0),(vI 0 0),(vI 0 0),(vI 0 0),(vI 0 0),(.ref 86),(.bool false),(vI 276 0),(.ref 87),.none,.none,.none,.none,(vI 353 0),(vI 24 0),(vS "/claim/cut.py" 354)],⟨(.type "frame"),none,.plain,⟨[(some (.ref 88)),(some (.ref 3)),(some (.ref 84)),none,(some (vS "cpy313.difflib" 289)),none,(some (.ref 0))]⟩⟩,oT [],oT (nL 364 ["a","b","size"]),oD 0 []]++(I1 fg++(fg 100 380 (A4 (st 3) 5) (pS "Match.") 34 2 (some ["cls","iterable","result"]) Bw 388 .none (some 109)++([oD 5 [kS P "__module__" 390 (vS "cpy313.difflib" 289),kS P "__name__" 393 (vS "_make" 392),kS P "__qualname__" 396 (vS "Match._make" 395),kS P "__doc__" 398 (.str (fD (A4 (st 3) 5)) 388),kS P "__annotations__" 400 (.ref 109)],⟨(.type "classmethod"),(some 107),.fields ⟨[(.ref 106),(.bool false)]⟩,⟨[]⟩⟩,oD 0 [],oT [(.ref 85)],oT (nL 405 ["__class__"]),oF [],oT (nL 406 ["self","kwds","result"]),oT [],⟨.none,none,.func {name:=(sS "_replace"),qualname:=(sS "Match._replace"),params:=fA (A4 (st 3) 6),body:=.stmts (fB (A4 (st 3) 6)),scope:=fS (A4 (st 3) 6),globals:=0,closure:=[],defaults:=.none,kwdefaults:=.none,doc:=.none,pyModule:=.none,annotations:=none,code:=.none,closureTuple:=.none,builtins:=0},⟨[]⟩⟩,oX "code" [(vS "_replace" 402),(vS "Match._replace" 403),(vS "/claim/cut.py" 404),(vI 42 0),(vI 1 0),(vI 1 0),(vI 0 0),(vI 11 0),(.ref 111),(.bool true),(vI 276 0),(.ref 112),.none,(.ref 113),(.ref 114),(.ref 115),(vI 409 0),(vI 42 0),(vS "/claim/cut.py" 410)],YR]++(fg 118 414 (A4 (st 3) 8) (pS "Match.") 53 1 (some ["self"]) Bw 420 .none none++(fg 125 422 (A4 (st 3) 9) (pS "Match.") 57 1 (some ["self"]) Bw 0 .none none++(fg 132 429 (A4 (st 3) 10) (pS "Match.") 60 1 (some ["self"]) Bw 435 .none none++([oT (nL 437 ["a","b","size"]),oD 2 [kS P "index" 447 (vI 0 441),kS P "__doc__" 449 (vS "Alias for field number 0" 442)],⟨(.ref 77),(some 140),.plain,⟨[]⟩⟩,⟨(.type "frame"),none,.dict ⟨[kS P "self" 443 (.ref 141),kS P "index" 444 (vI 0 441),kS P "doc" 445 (vS "Alias for field number 0" 442)]⟩ 3,⟨[]⟩⟩,oD 2 [kS P "index" 457 (vI 1 451),kS P "__doc__" 459 (vS "Alias for field number 1" 452)],⟨(.ref 77),(some 143),.plain,⟨[]⟩⟩,⟨(.type "frame"),none,.dict ⟨[kS P "self" 453 (.ref 144),kS P "index" 454 (vI 1 451),kS P "doc" 455 (vS "Alias for field number 1" 452)]⟩ 3,⟨[]⟩⟩,oD 2 [kS P "index" 467 (vI 2 461),kS P "__doc__" 469 (vS "Alias for field number 2" 462)],⟨(.ref 77),(some 146),.plain,⟨[]⟩⟩,⟨(.type "frame"),none,.dict ⟨[kS P "self" 463 (.ref 147),kS P "index" 464 (vI 2 461),kS P "doc" 465 (vS "Alias for field number 2" 462)]⟩ 3,⟨[]⟩⟩,oT [],⟨(.type "list"),none,.seq ⟨[]⟩ 0,⟨[]⟩⟩,N6 P,N8,N9,oX "super" [(.ref 152),(.ref 152),(.ref 152)],oX "builtin_function_or_method" [(.builtin "object.__init_subclass__"),(.ref 152)]]++(fg 156 476 (st 4) id 67 2 (some ["matches","length"]) Bw 0 .none none++([oT [],oX "builtin_function_or_method" [(.builtin "type.__prepare__"),(.type "type")],YU P,oT [],YV,oX "code" [(vS "SequenceMatcher" 486),(vS "SequenceMatcher" 487),(vS "/claim/cut.py" 488),(vI 71 0),(vI 0 0),(vI 0 0),(vI 0 0),(vI 0 0),(.ref 166),(.bool false),(vI 276 0),(.ref 167),.none,.none,.none,.none,(vI 489 0),(vI 71 0),(vS "/claim/cut.py" 490)],⟨(.type "frame"),none,.plain,⟨[(some (.ref 168)),(some (.ref 3)),(some (.ref 165)),none,(some (vS "cpy313.difflib" 289)),none,(some (.ref 0))]⟩⟩,Oa]++(IV fg++(IW fg++(IX fg++(IY fg++(IZ fg++([JQ]++(I0 fg++(fg 214 587 (A4 (st 5) 7) (pS "SequenceMatcher.") 336 1 (some ["self","la","lb","queue","matching_blocks","alo","ahi","blo","bhi","i","j","k","x","i1","j1","k1","non_adjacent","i2","j2","k2"]) Bw 612 .none none++(fg 221 614 (A4 (st 5) 8) (pS "SequenceMatcher.") 384 1 (some ["self"]) Bw 0 .none none++([oT [(vI 3 621)]]++(fg 229 622 (A4 (st 5) 9) (pS "SequenceMatcher.") 387 2 (some ["self","n"]) Bw 0 (.ref 228) none++(fg 236 630 (A4 (st 5) 10) (pS "SequenceMatcher.") 390 1 (some ["self","matches"]) Bw 637 .none none++(fg 243 639 (A4 (st 5) 11) (pS "SequenceMatcher.") 414 1 (some ["self"]) Bw 0 .none none++(fg 250 646 (A4 (st 5) 12) (pS "SequenceMatcher.") 417 1 (some ["self"]) Bw 0 .none none++([oT (nL 653 ["a","autojunk","b","b2j","bjunk","bpopular","fullbcount","isjunk","matching_blocks","opcodes"]),HV P,HW,oX "getset_descriptor" [(vS "__dict__" 664),(.ref 259),(.builtin "function.__dict__"),(.builtin "function.__dict__#set")],oX "getset_descriptor" [(vS "__weakref__" 666),(.ref 259),(.builtin "ExceptionGroup.__weakref__"),.none],oX "super" [(.ref 259),(.ref 259),(.ref 259)],oX "builtin_function_or_method" [(.builtin "object.__init_subclass__"),(.ref 259)],YY,oD 0 [],oT [.none,.none],Oc,o268v0]++(LH fg++([oX "bytes_iterator" [.none,(vI 24 0)],Dy,oD 2 [],oT [],oX "StopIteration" [(.ref 279),.none,.none,.none,(.bool false),.none]]++(LI fg++(Hx fg++(LK fg++(LL fg++(LM fg++(LN fg++(LP fg++(LQ fg++(LR fg++(LS fg++(LT fg++(LU fg++(LV fg++(LW fg++(LX fg++(LY fg++(LZ fg++(Hy fg))))))))))))))))))))))))))))))))))))))))))))))))))))
noncomputable def O9 (l:List Obj):List Obj×List Obj:=l.foldr (fun x p=>(x::p.2,p.1)) ([],[])
noncomputable def JK:Nat→List Obj→BT
 |0,_=>.nil
 |_+1,[]=>.nil
 |n+1,x::r=>.node x (JK n (O9 r).1) (JK n (O9 r).2)
noncomputable def tr (P:Params) (n:Nat) (o3 o11 o29:Obj):BT:=JK 9 ((objs P o3 o11 o29).take n)
noncomputable def TY (P:Params):BT:=tr P 28 (Dz P (vS "__main__" 164) 10) (YS P) (D1 0)
noncomputable def TZ (P:Params):BT:=tr P 28 (Dz P (vS "__main__" 164) 10) (Et P) (D1 0)
noncomputable def TA (P:Params):BT:=tr P 32 (Dz P (vS "__main__" 164) 10) (Et P) (D1 0)
noncomputable def TB (P:Params):BT:=tr P 32 (Dz P (vS "__main__" 164) 10) (Et P) (D1 0)
noncomputable def Kj (P:Params):BT:=tr P 163 (Dz P (vS "cpy313.difflib" 289) 14) (Et P) (D1 4)
noncomputable def Kk (P:Params):BT:=tr P 264 (Dz P (vS "cpy313.difflib" 289) 15) (Et P) (D1 5)
noncomputable def Ij (P:Params):BT:=tr P 276 (Dz P (vS "re" 720) 17) (Et P) (D1 6)
noncomputable def Ik (P:Params):BT:=tr P 281 (Dz P (vS "re" 720) 18) (Et P) (D1 6)
noncomputable def He (P:Params):BT:=tr P 399 (Dz P (vS "law_in0301_01" 965) 36) (Et P) (D1 24)
noncomputable def B0:List Frame:=[topFrame ⟨0,0,0,0⟩]
noncomputable def DM:Env:={scope:=P0.main.scope,locals:=mainNs,globals:=mainNs,cells:=[],code:=.ref 30,frame:=some 31}
noncomputable def c0:Code:=.body (behindTheImports P0) DM
noncomputable def sT (T:Params→BT) (n toks:Nat) (w:World) (os:OsState):SharedT:=⟨T w.params,n,{},#[],{},toks,os⟩
noncomputable def anyF (as:Array Nat) (p:Nat→Bool) (i j:Nat):Bool:=
 bif Nat.beq i 0 && Nat.beq j as.toList.length then PySem.W.R.anyR as.toList p else Array.any as p i j
theorem Kr:@Array.any Nat=fun as p i j=>anyF as p i j:=by
 funext as p i j
 unfold anyF
 by_cases h:(Nat.beq i 0 && Nat.beq j as.toList.length)=true
 ·rw[h,cond_true,←PySem.W.R.anyR_eq]
  obtain⟨h1,h2⟩:=fi h
  rw[Nat.eq_of_beq_eq_true h1,Nat.eq_of_beq_eq_true h2,Array.any_toList]
  rfl
 ·rw[Bool.not_eq_true] at h
  rw[h,cond_false]
noncomputable def JN:Builtin:=by
 refine(?g:(f:Builtin)→PySem.W.Fast.tw4202317264376624991=f→Builtin) ?f ?h
 case g=>exact fun f _=>f
 case h=>
  delta PySem.W.Fast.tw4202317264376624991
  rw[Kr]
theorem newEq:PySem.W.Fast.tw4202317264376624991=JN:=by
 delta PySem.W.Fast.tw4202317264376624991 JN
 rw[Kr]
noncomputable def Pq (id:String):Option Builtin:=match PySem.W.S.strDecS id "type.__new__" with
 | .isTrue _=>some JN
 | .isFalse _=>PySem.W.Fast.tw14364793385576792824 id
theorem de:treeTable=Pq:=by
 funext id
 unfold Pq
 cases PySem.W.S.strDecS id "type.__new__" with
 |isTrue h=>
  subst h
  rw[←newEq,PySem.W.Fast.te14364793385576792824]
  kernel_rfl
 |isFalse h=>rw[PySem.W.Fast.te14364793385576792824]
theorem UN (w:World) (os:OsState):segRunT treeTable P0 w 28 (some (.ref 6)) 1 1438 (sT TB 32 282 w os) (piecesOf [st 0,st 1,st 2,st 3,st 4] DM c0 ⟨0,0,0,0⟩ B0)=some (.next,(sT Kj 163 484 w os),c0,⟨67,0,70,14⟩):=by
 rw[PySem.W.Fast.te14364793385576792824,PySem.W.Fast.te10110043849684766642]
 kernel_rfl
theorem UR (w:World) (os:OsState):segRunT treeTable P0 w 28 (some (.ref 6)) 1 649 (sT Kj 163 484 w os) (piecesOf [st 5] DM c0 ⟨67,0,70,14⟩ B0)=some (.next,(sT Kk 264 670 w os),c0,⟨71,0,418,16⟩):=by
 rw[bq,de,PySem.W.Fast.te10110043849684766642]
 kernel_rfl
theorem US (w:World) (os:OsState):segRunT treeTable P0 w 28 (some (.ref 6)) 1 132 (sT Kk 264 670 w os) (piecesOf [st 6,st 7,st 8,st 9] DM c0 ⟨71,0,418,16⟩ B0)=some (.next,(sT Ij 276 722 w os),c0,⟨429,0,429,8⟩):=by
 rw[PySem.W.Fast.te14364793385576792824,PySem.W.Fast.te10110043849684766642]
 kernel_rfl
def Hc (w:World):Prop:=∀os:OsState,PySem.W.Fast.tw10110043849684766642 PySem.W.Fast.tw14364793385576792824 P0 w 28 (some (.ref 6)) 1 1253 (sT Ij 276 722 w os) (piecesOf [st 10] DM c0 ⟨429,0,429,8⟩ B0)=some (.next,(sT Ik 281 868 w os),c0,⟨430,0,430,18⟩)
theorem UP (w:World):Hc w:=
 byRow2 "comprehension-iter-twice" (P:=Hc)
  (fun w=>byRow2 "special-get-raises" (P:=fun w=>Hc (w.withFollow "comprehension-iter-twice" false)) (fun w os=>by kernel_rfl) (fun w os=>by kernel_rfl) w)
  (fun w=>byRow2 "special-get-raises" (P:=fun w=>Hc (w.withFollow "comprehension-iter-twice" true)) (fun w os=>by kernel_rfl) (fun w os=>by kernel_rfl) w) w
theorem UO (w:World) (os:OsState):segRunT treeTable P0 w 28 (some (.ref 6)) 1 1253 (sT Ij 276 722 w os) (piecesOf [st 10] DM c0 ⟨429,0,429,8⟩ B0)=some (.next,(sT Ik 281 868 w os),c0,⟨430,0,430,18⟩):=by
 rw[PySem.W.Fast.te14364793385576792824,PySem.W.Fast.te10110043849684766642]
 exact UP w os
theorem UQ (w:World) (os:OsState):segRunT treeTable P0 w 28 (some (.ref 6)) 1 604 (sT Ik 281 868 w os) (piecesOf [st 11,st 12,st 13,st 14,st 15,st 16,st 17,st 18,st 19,st 20,st 21,st 22,st 23,st 24,st 25,st 26,st 27,st 28,st 29,st 30,st 31] DM c0 ⟨430,0,430,18⟩ B0)=some (.next,(sT He 399 1062 w os),c0,⟨705,0,716,48⟩):=by
 rw[PySem.W.Fast.te14364793385576792824,PySem.W.Fast.te10110043849684766642]
 kernel_rfl
noncomputable def hY (P:Params):Heap:=absHeap (TY P) 28 {}
noncomputable def hZ (P:Params):Heap:=absHeap (TZ P) 28 {}
noncomputable def hF (P:Params):Heap:=absHeap (He P) 399 {}
theorem Zc (w:World):importEnds treeTable (opening P0) w 799 (start (opening P0)).1 (start (opening P0)).2=some ⟨hY w.params,#[],{},276,(start (opening P0)).1.os⟩:=by
 rw[PySem.W.Fast.te14364793385576792824,PySem.W.Fast.te10274390034422433532,PySem.W.Fast.te1435165496053646825]
 kernel_rfl
theorem Zd (w:World):(fun os=>(fenceModules? P0 ⟨hY w.params,#[],{},276,os⟩).map (fun s=>(s.heap,s.gens,s.drawn,s.toks)))=fun _=>some (hZ w.params,#[],{},276):=by
 funext os
 rw[PySem.W.Fast.te14289696077712309145]
 kernel_rfl
theorem Zf:∀w:World, (fencedOpening treeTable P0 w 10000).map (fun s=>(s.heap,s.gens,s.drawn,s.toks))=some (hZ w.params,#[],{},276):=
 open_cut (M:=799) Zc (by decide) Zd
theorem VF (w:World) (os:OsState):topGo treeTable P0 w 28 (some (.ref 6)) 12 (sT TZ 28 276 w os).abs (topStub P0)=some ((sT TA 32 282 w os).abs,⟨denote treeTable c0,c0,⟨0,0,0,0⟩,B0⟩):=by
 rw[PySem.W.Fast.te14364793385576792824,PySem.W.Fast.te15667345088766844465,PySem.W.Fast.te11892475500146522536]
 kernel_rfl
theorem UZ (w:World) (os:OsState):segRunT treeTable P0 w 28 (some (.ref 6)) 1 1 (sT TA 32 282 w os) (blockOf (behindTheImports P0) DM c0 ⟨0,0,0,0⟩ B0)=some (.next,(sT TB 32 282 w os),c0,⟨0,0,0,0⟩):=by
 rw[PySem.W.Fast.te14364793385576792824,PySem.W.Fast.te10110043849684766642]
 kernel_rfl
theorem U1 (w:World) (os:OsState):topRun treeTable P0 w 28 (some (.ref 6)) 2 (sT He 399 1062 w os).abs ⟨doneF .next,c0,⟨705,0,716,48⟩,B0⟩=some (sT He 399 1062 w os).abs:=by
 rw[PySem.W.Fast.te14364793385576792824,PySem.W.Fast.te14082659384304107361]
 kernel_rfl
theorem Rz:behindTheImports P0=[st 0,st 1,st 2,st 3,st 4]++([st 5]++([st 6,st 7,st 8,st 9]++([st 10]++([st 11,st 12,st 13,st 14,st 15,st 16,st 17,st 18,st 19,st 20,st 21,st 22,st 23,st 24,st 25,st 26,st 27,st 28,st 29,st 30,st 31]++[])))):=by kernel_rfl
theorem V6 (w:World) (os:OsState):topRun treeTable P0 w 28 (some (.ref 6)) (12+(1+(1438+(649+(132+(1253+(604+2))))))) ⟨hZ w.params,#[],{},276,os⟩ (topStub P0)=some ⟨hF w.params,#[],{},1062,os⟩:=by
 refine go_top (VF w os) ?_
 refine piece_block (tb:=treeTable) (p:=P0) (w:=w) (n₀:=28) (ann:=some (.ref 6)) (env:=DM) (q:=⟨0,0,0,0⟩) (c:=c0) (b:=behindTheImports P0) (segRun_of (UZ w os)) ?_
 rw[Rz]
 refine piece_app (segRun_of (UN w os)) ?_
 refine piece_app (segRun_of (UR w os)) ?_
 refine piece_app (segRun_of (US w os)) ?_
 refine piece_app (segRun_of (UO w os)) ?_
 refine piece_app (segRun_of (UQ w os)) ?_
 exact piece_nil (U1 w os)
noncomputable def q0:Program:={P0 with main:={P0.main with body:=[st 31]}}
noncomputable def HR:List Str:=P0.boundNames.filter fun n=>n !=Str.ofString "law"
theorem XZ (w:World) (os:OsState):(staticsOk (importedModules P0.main.body) (hZ w.params) (hF w.params) && namesBound P0 (hF w.params) && gensDone ⟨hF w.params,#[],{},1062,os⟩ && laidKept (hZ w.params) (hF w.params))=true:=by
 kernel_rfl
theorem X0 (w:World) (os:OsState):openSeen q0 HR (importedModules P0.main.body) (fun _=>true) true ⟨hF w.params,#[],{},1062,os⟩=openGood q0 HR:=by
 rw[PySem.W.Fast.te4187177175401517315]
 kernel_rfl
abbrev R0:OpenRow:=PySem.Challenge.rw_in0301_01.row
noncomputable def EU:DefRec:=⟨Str.ofString "law",fA (st 31),fB (st 31),fS (st 31),⟨705,0,716,48⟩⟩
theorem V9:defOf q0 R0.name=some (EU,[]):=by kernel_rfl
theorem hp0:R0.prog.theDef R0.name=some (EU.params,EU.body,EU.scope):=by kernel_rfl
theorem hk0:kwWritten? EU.params.kwonlyargs EU.params.kw_defaults=some []:=by kernel_rfl
theorem Y7: (chainsOk q0 && opensWell R0.prog && (frees R0.toRowW && R0.toRowW.within.isEmpty))=true:=by decide+kernel
theorem Rp:R0.prog.bare:=⟨rfl,rfl,rfl,rfl,rfl,by decide+kernel⟩
theorem ZE:R0.toRowW.promised:=by w_witness2
theorem ah:OpenLaw.wellSaid PySem.Challenge.rw_in0301_01=true:=by kernel_rfl
section
open PySem
theorem wpAny_toks {α:Type}{M:Model}{t:Sem α}{Q:α→Shared→Prop}(h:wpAny M A t Q E s):wpAny M A t (fun a s'=>Q a s'∧s.toks≤s'.toks) (fun e s'=>E e s'∧s.toks≤s'.toks) s:=
 ej (PySem.wpAny_toks h) (fun _ _ q=>⟨q.2,q.1⟩) fun _ _ q=>⟨q.2,q.1⟩
end
noncomputable abbrev FM:=Addr→Option Obj
noncomputable abbrev Aa:=List (Addr×(Obj→Prop))
structure Cx where
 w:World
 os:OsState
 F0:FM
 lim:∀h:Heap,(∀a o,F0 a=some o→h.get? a=some o)→h.NoLimit
inductive Ad {α β:Type}(a:α) (b:β):List (α×β)→Prop
 |head {l:_}:Ad a b ((a,b)::l)
 |tail {x l:_}:Ad a b l→Ad a b (x::l)
inductive Aj {α β:Type}(a:α) (b b':β):List (α×β)→List (α×β)→Prop
 |head {l:_}:Aj a b b' ((a,b)::l) ((a,b')::l)
 |tail {x l l':_}:Aj a b b' l l'→Aj a b b' (x::l) (x::l')
theorem Ad.mem {α β:Type}{a:α}{b:β}{l:_}(h:Ad a b l):(a,b) ∈ l:=by
 induction h with
 |head=>exact .head _
 |tail _ ih=>exact .tail _ ih
theorem Aj.has {α β:Type}{a:α}{b b':β}{l l':_}(h:Aj a b b' l l'):Ad a b l:=by
 induction h with
 |head=>exact .head
 |tail _ ih=>exact .tail ih
theorem Aj.keys {α β:Type}{a:α}{b b':β}{l l':_}(h:Aj a b b' l l'):l'.map (·.1)=l.map (·.1):=by
 induction h with
 |head=>rfl
 |tail _ ih=>simp only[eP,eP,ih]
theorem Aj.mem {α β:Type}{a:α}{b b':β}{l l':_}(h:Aj a b b' l l') (hn:(l.map (·.1)).Nodup):∀p ∈ l',p=(a,b')∨(p ∈ l∧p.1≠a):=by
 induction h with
 |head=>
  intro p hp
  rcases fj hp with rfl|hp
  ·exact .inl rfl
  ·refine .inr ⟨.tail _ hp,fun e=>?_⟩
   rw[eP,List.nodup_cons] at hn
   have q:=ew (f:=Prod.fst) hp
   simp only[e] at q
   exact hn.1 q
 |tail h ih=>
  rw[eP,List.nodup_cons] at hn
  intro p hp
  rcases fj hp with rfl|hp
  ·refine .inr ⟨.head _,fun e=>hn.1 ?_⟩
   simp only[e]
   exact ew h.has.mem
  ·rcases ih hn.2 p hp with e|⟨e1,e2⟩
   ·exact .inl e
   ·exact .inr ⟨.tail _ e1,e2⟩
structure Own (F:FM) (V:Aa) (h:Heap):Prop where
 fro:∀a o,F a=some o→h.get? a=some o
 own:∀p ∈ V,F p.1=none∧∃o,h.get? p.1=some o∧p.2 o
 nod:(V.map (·.1)).Nodup
structure StP (c:Cx) (F:FM) (V:Aa) (s:Shared):Prop where
 own:Own F V s.heap
 base:∀a o,c.F0 a=some o→F a=some o
 gens:AllBare s.gens
 os:s.os=c.os
structure St (c:Cx) (F:FM) (V:Aa) (s:Shared):Prop extends StP c F V s where
 tk:0<s.toks
instance {c F V s:_}:Coe (St c F V s) (StP c F V s):=⟨St.toStP⟩
theorem Own.get {F V h:_}(O:Own F V h) (x:Ad a P V):∃o,h.get? a=some o∧P o:=(O.own _ x.mem).2
theorem Own.keep {F V:_}(O:Own F V h) (k:∀b o,h.get? b=some o→h'.get? b=some o):Own F V h':=
 ⟨fun a o e=>k _ _ (O.fro a o e),fun p hp=>let⟨a,o,b,e⟩:=O.own p hp;⟨a,o,k _ _ b,e⟩,O.nod⟩
theorem Own.none {F V h:_}(O:Own F V h) (n:h.get? a=none):F a=none:=by
 cases q:F a with
 |none=>rfl
 |some o=>rw[O.fro _ _ q] at n;cases n
theorem Own.ne {F V h:_}(O:Own F V h) (n:h.get? a= .none):a ∉ V.map (·.1):=fun m=>by
 have⟨p,hp,e⟩:=List.mem_map.mp m
 have⟨_,_,b,_⟩:=O.own p hp
 simp only[e,n] at b
 contradiction
theorem Own.ins {F V h:_}(O:Own F V h) {o:_}(f:F a= .none) (n:a ∉ V.map (·.1)) (g:h.get? a=some o) (p:P o):Own F ((a,P)::V) h:=
 ⟨O.fro,List.forall_mem_cons.mpr ⟨⟨f,o,g,p⟩,O.own⟩,List.nodup_cons.mpr ⟨n,O.nod⟩⟩
theorem Own.add {F V h h':_}(O:Own F V h) (k:∀b o,h.get? b=some o→h'.get? b=some o) {o:_}(n:h.get? a= .none) (g:h'.get? a=some o) (p:P o):Own F ((a,P)::V) h':=(O.keep k).ins (O.none n) (O.ne n) g p
theorem Own.push {F V h:_}(O:Own F V h) (hp:P o) (hf:autoParam (o.isFreed=false) aR):Own F ((h.objs.size,P)::V) (h.push o):=
 O.add (fun _ _=>eg _) (by
  cases e:h.get? h.objs.size with
  |none=>rfl
  |some x=>exact absurd (eE e) (Nat.lt_irrefl _)) (em _ hf) hp
theorem Own.putK {F V V' h h':_}(O:Own F V h) (x:Aj l P P' V V') (k:∀b o,b≠l→h.get? b=some o→h'.get? b=some o) (ho:∃o,h'.get? l=some o∧P' o):Own F V' h':=by
 have hl:=(O.own _ x.has.mem).1
 refine⟨fun a o e=>k a o (fun q=>by simp only[q,hl] at e;contradiction) (O.fro a o e),fun p hp=>?_,x.keys▸O.nod⟩
 rcases x.mem O.nod p hp with rfl|⟨hp,hne⟩
 ·exact⟨hl,ho⟩
 ·obtain⟨a,o,b,e⟩:=O.own p hp
  exact⟨a,o,k _ _ hne b,e⟩
theorem Own.put {F V V' h h':_}(O:Own F V h) (x:Aj l P P' V V') (hs:Heap.SameBut l h h') (ho:∃o,h'.get? l=some o∧P' o):Own F V' h':=O.putK x (fun b _ e=>(hs.2 b e).trans) ho
theorem Own.sub {F V V' h:_}(O:Own F V h) (x:V'.Sublist V):Own F V' h:=
 ⟨O.fro,fun p hp=>O.own p (x.subset hp),(x.map _).nodup O.nod⟩
theorem Own.freeze {F V h:_}(O:Own F ((a,P)::V) h):∃F' o,(∀b x,F b=some x→F' b=some x)∧F' a=some o∧P o∧Own F' V h:=by
 obtain⟨hn,o,ho,hp⟩:=O.own _ (.head _)
 have nd:=O.nod
 rw[eP,List.nodup_cons] at nd
 refine⟨fun b=>if b=a then some o else F b,o,fun b x e=>?_,if_pos rfl,hp,fun b x e=>?_,fun p hp'=>?_,nd.2⟩
 ·by_cases q:b=a
  ·simp only[q,hn] at e;contradiction
  ·exact(if_neg q).trans e
 ·by_cases q:b=a
  ·replace e:=(if_pos q)▸e;obtain rfl:=ed e;rw[q];exact ho
  ·rw[if_neg q] at e;exact O.fro b x e
 ·refine And.elim (fun y z=>?_) (O.own p (.tail _ hp'))
  refine⟨?_,z⟩
  have q:p.1≠a:=fun e=>nd.1 (by
   have q:=ew (f:=Prod.fst) hp'
   simp only[e] at q
   exact q)
  exact(if_neg q).trans y
section
variable {α β:Type}
noncomputable abbrev Mo (c:Cx):Model:=model P0 c.w
def Run (c:Cx) (A:Around) (t:Sem α) (F:FM) (V:Aa) (Q:α→FM→Aa→Prop):Prop:=
 ∀s,St c F V s→wpAny (Mo c) A t (fun a s'=>∃F' V',St c F' V' s'∧Q a F' V') (fun _ _=>False) s
def AA (c:Cx) (A:Around) (k:Code) (F:FM) (V:Aa) (Q:Flow→FM→Aa→Prop):Prop:=
 ∀s,St c F V s→codeAny (Mo c) A k (fun r s'=>∃f F' V',r= .ok f∧St c F' V' s'∧Q f F' V') s
def AM (c:Cx) (A:Around) (k:Code) (F:FM) (V:Aa) (Q:Value→FM→Aa→Prop):Prop:=
 AA c A k F V (fun f F' V'=>∃v,f= .ret v∧Q v F' V')
theorem Run.mk {t:Sem α}{Q:α→FM→Aa→Prop}(h:∀s,St c F V s→wpAny (Mo c) A t (fun a s'=>∃F' V',StP c F' V' s'∧Q a F' V') (fun _ _=>False) s):Run c A t F V Q:=
 fun s S=>ej (wpAny_toks (h s S)) (fun _ _ ⟨⟨F',V',S',q⟩,le⟩=>Ae F' V' ⟨S',ea S.tk le⟩ q) fun _ _ e=>e.1
theorem Run.pure {a:α}{Q:α→FM→Aa→Prop}(h:Q a F V):Run c A (Pure.pure a) F V Q:=fun _ S=>d9 (Ae F V S h)
theorem Run.ki {t:Sem α}{Q:α→FM→Aa→Prop}(h:∀s (P:α→Shared→Prop),St c F V s→(∀a s' F' V',St c F' V' s'→Q a F' V'→P a s')→wpAny (Mo c) A t P (fun _ _=>False) s):Run c A t F V Q:=fun s S=>h s _ S fun _ _ F' V' S' q=>Ae F' V' S' q
theorem Run.fu {t:Sem α}{Q:α→FM→Aa→Prop}(h:Run c A t F V Q) {P:α→Shared→Prop}(S:St c F V s) (k:∀a s' F' V',St c F' V' s'→Q a F' V'→P a s'):wpAny (Mo c) A t P E s:=ej (h s S) (fun a s' q=>q.elim fun F' q=>q.elim fun V' q=>k a s' F' V' q.1 q.2) fun _ _ e=>e.elim
theorem Run.bind {m:Sem α}{f:α→Sem β}{Q:β→FM→Aa→Prop}(h:Run c A m F V (fun a F' V'=>Run c A (f a) F' V' Q)):Run c A (m>>=f) F V Q:=
 fun s S=>d8 ((Run.fu h S fun _ s' _ _ S' h'=>h' s' S'))
theorem Run.mono {m:Sem α}{Q Q':α→FM→Aa→Prop}(h:Run c A m F V Q) (k:∀a F' V',Q a F' V'→Q' a F' V'):Run c A m F V Q':=
 fun s S=>(Run.fu h S fun _ _ F' V' S' h'=>Ae F' V' S' (k _ _ _ h'))
theorem Run.of_eq {m m':Sem α}{Q:α→FM→Aa→Prop}(e:m=m') (h:Run c A m' F V Q):Run c A m F V Q:=e▸h
theorem Run.freeze {m:Sem α}{Q:α→FM→Aa→Prop}
  (h:∀F' o,(∀b x,F b=some x→F' b=some x)→F' a=some o→P o→Run c A m F' V Q):Run c A m F ((a,P)::V) Q:=fun s S=>by
 refine EX (S.own.freeze) fun F' o le ha hp O=>?_
 exact h F' o le ha hp s ⟨⟨O,fun b x e=>le b x (S.base b x e),S.gens,S.os⟩,S.tk⟩
theorem Run.rule {tag:String}{Q:Unit→FM→Aa→Prop}(h:Q () F V):Run c A (PySem.rule tag) F V Q:=fun _ S=>wpAny_rule (Ae F V S h)
theorem Run.standAt {Q:Unit→FM→Aa→Prop}(h:Q () F V):Run c A (PySem.standAt p) F V Q:=fun _ S=>wpAny_standAt (Ae F V S h)
theorem Run.holding {m:Sem α}{Q:α→FM→Aa→Prop}(h:Run c A m F V Q):Run c A (PySem.holding vs m) F V Q:=fun s S=>en (h s S)
theorem Run.ite {p:Prop} [Decidable p] {x y:Sem α}{Q:α→FM→Aa→Prop}(h1:p→Run c A x F V Q) (h2:¬p→Run c A y F V Q):Run c A (if p then x else y) F V Q:=by
 split
 ·exact h1 ‹_›
 ·exact h2 ‹_›
theorem Run.call {f:Value}{pos:List Value}{kw:List (Str×Value)}(h:AM c A (.call f ⟨pos,kw⟩) F V Q):Run c A (PySem.call f pos kw) F V Q:=
 fun s S=>wpAny_call (codeAny_mono (h s S) fun r s' ⟨_,F',V',e,S',v,e',q⟩=>by refine e▸?_;refine e'▸?_;exact Ae F' V' S' q)
theorem AA.mono {k:Code}{Q Q':Flow→FM→Aa→Prop}(h:AA c A k F V Q) (m:∀f F' V',Q f F' V'→Q' f F' V'):AA c A k F V Q':=
 fun s S=>codeAny_mono (h s S) fun _ _ qz=>EY qz fun f F' V' e S' q=>Cr f F' V' e S' (m _ _ _ q)
end
noncomputable abbrev Fm:=List (Str×Option Value)
def Cq (ks:List Str) (m:Fm) (o:Obj):Prop:=m.map (·.1)=ks∧ks.Nodup∧∃es ep,o.data= .dict es ep∧StrKeys es∧∀p ∈ m,nsFind es p.1=p.2
structure Loc (env:Env) (L:Addr) (ks:List Str):Prop where
 kind:env.scope.kind= .function
 loc:∀x ∈ ks,env.scope.names.lookup x=some .local
 dbg:∀x ∈ ks,(x==("__debug__":Str))=false
 at_:env.locals=L
section
variable {m m':Fm}{x:Str}
theorem C3 {α β:Type}{a:α}{b:β}{l:List (α×β)}(h:Ad a b l):a ∈ l.map (·.1):=ew (f:=Prod.fst) h.mem
end
section
variable {Q:Flow→FM→Aa→Prop}
noncomputable def Ka (c:Cx) (A:Around) (env:Env) (rest:List Stmt) (Q:Flow→FM→Aa→Prop):Flow→FM→Aa→Prop:=fun f F V=>
 match f with
 | .next=>Run c A (execs rest env) F V Q
 |f=>Q f F V
theorem Run.nil (h:Q .next F V):Run c A (execs [] env) F V Q:=fun _ S=>wpAny_execs_nil (Ae F V S h)
theorem Run.cons {st rest:_}(h:Run c A (exec st env) F V (Ka c A env rest Q)):Run c A (execs (st::rest) env) F V Q:=fun s S=>
 wpAny_execs_cons ((Run.fu h S fun f s' F' V' S' h'=>by induction f<;>first|exact h' s' S'|exact⟨F',V',S',h'⟩))
theorem Run.asg {x p' value p:_}(h:Run c A (eval value env) F V (fun v F1 V1=>Run c A (storeName env x v) F1 V1 (fun _=>Q .next)))
  (hs:autoParam (swapsWith value (some (.Name x p')) p.line env=(Pure.pure false:Sem Bool)) aR):Run c A (exec (.Assign [.Name x p'] value p) env) F V Q:=fun s S=>
 wpAny_Assign_Name ((Run.fu h S fun v s' _ _ S' h'=>h' s' S')) hs
theorem Run.aug {x p' op value p:_}(h:Run c A (loadName env x) F V (fun old F1 V1=>Run c A (eval value env) F1 V1 (fun v F2 V2=>Run c A (inplaceOp op old v) F2 V2 (fun r F3 V3=>Run c A (storeName env x r) F3 V3 (fun _=>Q .next))))):
  Run c A (exec (.AugAssign (.Name x p') op value p) env) F V Q:=fun s S=>
 wpAny_AugAssign_Name ((Run.fu h S fun _ s1 _ _ S1 h1=>(Run.fu h1 S1 fun _ s2 _ _ S2 h2=>(Run.fu h2 S2 fun _ s3 _ _ S3 h3=>h3 s3 S3))))
theorem Run.iff {test body orelse p:_}(h:Run c A (isTrue test env (eval test env)) F V (fun b F1 V1=>(b=true→Run c A (execs body env) F1 V1 Q)∧(b=false→Run c A (execs orelse env) F1 V1 Q))):
  Run c A (exec (.If test body orelse p) env) F V Q:=fun s S=>
 wpAny_If ((Run.fu h S fun b s' _ _ S' h'=>by induction b;exact h'.2 rfl s' S';exact h'.1 rfl s' S'))
theorem Run.OE {e p:_}(h:Run c A (eval e env) F V (fun v=>Q (.ret v))):Run c A (exec (.Return (some e) p) env) F V Q:=fun s S=>wpAny_Return_some (h s S)
theorem Run.JX {p:_}(h:Q (.ret .none) F V):Run c A (exec (.Return none p) env) F V Q:=fun _ S=>wpAny_Return_none (Ae F V S h)
theorem Run.brk {p:_}(h:Q .brk F V):Run c A (exec (.Break p) env) F V Q:=fun _ S=>wpAny_Break (Ae F V S h)
theorem Run.cnt {p:_}(h:Q .cont F V):Run c A (exec (.Continue p) env) F V Q:=fun _ S=>wpAny_Continue (Ae F V S h)
theorem Run.FC {test msg p:_}(h:Run c A (isTrue test env (eval test env)) F V (fun b F1 V1=>b=true∧Q .next F1 V1)):Run c A (exec (.Assert test msg p) env) F V Q:=fun s S=>
 wpAny_Assert_holds ((Run.fu h S fun b s' F' V' S' h'=>⟨h'.1,F',V',S',h'.2⟩))
noncomputable def X5 (c:Cx) (A:Around) (k:Code) (Q:Flow→FM→Aa→Prop):Flow→FM→Aa→Prop:=fun f F V=>
 match f with
 | .next| .cont=>AA c A k F V Q
 | .brk=>Q .next F V
 | .ret v=>Q (.ret v) F V
theorem AA.dZ {test body orelse:_}(h:Run c A (isTrue test env (eval test env)) F V (fun b F1 V1=>(b=true→Run c A (execs body env) F1 V1 (X5 c A (.whileLoop test body orelse env) Q))∧(b=false→Run c A (execs orelse env) F1 V1 Q))):
  AA c A (.whileLoop test body orelse env) F V Q:=fun s S=>by
 refine codeAny_of_tree ?_
 rw[Around.under_of_weight (by rfl) (by rfl)]
 refine(?_:wpAny _ A ((whileTurn test body orelse env).onRaise (fun x=>do noteFrame x env;theTreesLotGoes x)) _ _ s)
 refine wpAny_noted ?_
 refine d8 (ej (h s S) (fun b s₂ qz=>BH qz fun F1 V1 S1 h₂=>?_) fun _ _ h'=>h'.elim)
 induction b with
 |false=>
  exact d8 (ej (h₂.2 rfl s₂ S1) (fun f s₃ qz=>BH qz fun F3 V3 S3 h₃=>d9 (Cr f F3 V3 rfl S3 h₃)) fun _ _ h'=>h'.elim)
 |true=>
  refine d8 (ej (h₂.1 rfl s₂ S1) (fun f s₃ qz=>BH qz fun F3 V3 S3 h₃=>?_) fun _ _ h'=>h'.elim)
  induction f with
  |next=>exact d9 ⟨rfl,h₃ s₃ S3⟩
  |cont=>exact d9 ⟨rfl,h₃ s₃ S3⟩
  |brk=>exact d9 (Cr .next F3 V3 rfl S3 h₃)
  |ret v=>exact d9 (Cr (.ret v) F3 V3 rfl S3 h₃)
theorem Run.runOwn {k:Code}(h:AA c A k F V Q):Run c A (PySem.runOwn k env) F V Q:=fun s S=>
 wpAny_runOwn (by
  refine(show A.mark none=A from rfl)▸?_
  exact codeAny_mono (h s S) fun r s' qz=>EY qz fun f F' V' e S' q=>by refine e▸?_;exact Ae F' V' S' q)
theorem Run.G9 {test body orelse p:_}(h:AA c A (.whileLoop test body orelse env) F V Q):Run c A (exec (.While test body orelse p) env) F V Q:=by
 simp only[exec_While]
 exact .bind (.standAt (.runOwn h))
end
def Ab (vs:List Value) (o:Obj):Prop:=∃n,o={cls:=.type "list",data:=.seq vs.toArray n}
def Dh (vs:List Value) (o:Obj):Prop:=o.cls= .type "tuple"∧∃n,o.data= .seq vs.toArray n
def Tu (F:FM) (a:Addr) (vs:List Value):Prop:=∃o,F a=some o∧Dh vs o
def Le (F F':FM):Prop:=∀b x,F b=some x→F' b=some x
theorem Le.refl (F:FM):Le F F:=fun _ _ e=>e
theorem Le.trans {G H:FM}(a:Le F G) (b:Le G H):Le F H:=fun x y e=>b x y (a x y e)
theorem Tu.le {a vs:_}(x:Tu F a vs) (h:Le F F'):Tu F' a vs:=Ag (x) fun o e p=>⟨o,h _ _ e,p⟩
theorem Jz (t:Tu F a vs) (S:St c F V s):IsTup s.heap a vs.toArray:=AX (t) fun o e hc hd=>⟨o,S.own.fro _ _ e,hc,hd⟩
theorem CD (x:Ad l (Ab vs) V) (S:St c F V s):s.heap.IsList l vs.toArray:=let⟨o,e,n,hd⟩:=S.own.get x;⟨o,e,hd▸rfl,n,hd▸rfl⟩
theorem Nd (x:Ad l (Ab vs) V) (S:StP c F V s):∃n,IsL s.heap l vs.toArray n:=by
 obtain⟨o,e,n,hd⟩:=S.own.get x
 subst hd
 exact⟨n,e⟩
theorem BW (x:Ad l (Ab vs) V) (S:St c F V s):∃n,IsL s.heap l vs.toArray n:=Nd x S.toStP
theorem StP.Fr {vs':List Value}(S:StP c F V s) (x:Aj l (Ab vs) (Ab vs') V V') (f:Array Value→Array Value) (hf:f vs.toArray=vs'.toArray):StP c F V' {s with heap:=s.heap.update l (Obj.mapSeq f),toks:=k}:=by
 refine Exists.elim (Nd x.has S) fun n e=>?_
 refine⟨S.own.put x (Heap.SameBut.update ..) ⟨_,e.update f,_,by rw[hf]⟩,S.base,S.gens,S.os⟩
theorem StP.push (S:StP c F V s) (hp:P o) (hf:autoParam (o.isFreed=false) aR):StP c F ((s.heap.objs.size,P)::V) {s with heap:=s.heap.push o,toks:=k}:=⟨S.own.push hp hf,S.base,S.gens,S.os⟩
theorem Own.push' (O:Own F V h) (o:Obj):Own F V (h.push o):=
 ⟨fun a x e=>eg _ (O.fro a x e),fun p hp=>let⟨a,x,b,e⟩:=O.own p hp;⟨a,x,eg _ b,e⟩,O.nod⟩
theorem StP.push' (S:StP c F V s):StP c F V {s with heap:=s.heap.push o,toks:=k}:=⟨S.own.push' o,S.base,S.gens,S.os⟩
theorem Run.int {i k p:_}(h:∀t,Q (.int i t) F V):Run c A (eval (.Constant (.int i) k p) env) F V Q:=.mk fun s S=>wpAny_Constant_int (Ae F V ⟨S.own,S.base,S.gens,S.os⟩ (h _))
theorem Run.str {x k p:_}(h:∀t,Q (.str x t) F V):Run c A (eval (.Constant (.str x) k p) env) F V Q:=.mk fun s S=>wpAny_Constant_str (Ae F V ⟨S.own,S.base,S.gens,S.os⟩ (h _))
theorem Run.none {k p:_}(h:Q .none F V):Run c A (eval (.Constant .none k p) env) F V Q:=fun s S=>wpAny_Constant_none (Ae F V S h)
theorem Run.bool {b k p:_}(h:Q (.bool b) F V):Run c A (eval (.Constant (.bool b) k p) env) F V Q:=fun s S=>wpAny_Constant_bool (Ae F V S h)
theorem Run.bin {l op r p:_}(h:Run c A (eval l env) F V (fun a F1 V1=>Run c A (eval r env) F1 V1 (fun b F2 V2=>Run c A (binaryOp op a b) F2 V2 Q))):
  Run c A (eval (.BinOp l op r p) env) F V Q:=fun s S=>
 wpAny_BinOp ((Run.fu h S fun _ s1 _ _ S1 h1=>(Run.fu h1 S1 fun _ s2 _ _ S2 h2=>h2 s2 S2)))
theorem Run.dW {op x p:_}(h:Run c A (eval x env) F V (fun a F1 V1=>Run c A (unaryOp op a) F1 V1 Q)):Run c A (eval (.UnaryOp op x p) env) F V Q:=fun s S=>
 wpAny_UnaryOp ((Run.fu h S fun _ s1 _ _ S1 h1=>h1 s1 S1))
theorem Run.cmp {l op r p:_}(h:Run c A (eval l env) F V (fun a F1 V1=>Run c A (eval r env) F1 V1 (fun b F2 V2=>Run c A (compareOp op a b) F2 V2 Q)))
  (hm:autoParam (behindInMarks op r=false) aU):Run c A (eval (.Compare l [op] [r] p) env) F V Q:=fun s S=>
 wpAny_Compare1 ((Run.fu h S fun _ s1 _ _ S1 h1=>(Run.fu h1 S1 fun _ s2 _ _ S2 h2=>h2 s2 S2))) hm
theorem Run.DF {l op r p whole:_}(h:Run c A (eval l env) F V (fun a F1 V1=>Run c A (eval r env) F1 V1 (fun b F2 V2=>Run c A (compareOp op a b) F2 V2 (fun v F3 V3=>∃b,v= .bool b∧QB b F3 V3))))
  (hm:autoParam (behindInMarks op r=false) aU):Run c A (isTrue (.Compare l [op] [r] p) env whole) F V QB:=fun s S=>
 wpAny_isTrue_Compare1 ((Run.fu h S fun _ s1 _ _ S1 h1=>(Run.fu h1 S1 fun _ s2 _ _ S2 h2=>(Run.fu h2 S2 fun _ _ _ _ S3 qz=>Ag qz fun _ e h3=>by
  refine e▸?_;exact wpAny_truthy_bool (Ae _ _ S3 h3))))) hm
theorem Run.Ps {x p whole:_}(h:Run c A (isTrue x env (eval x env)) F V (fun b=>QB (!b))):Run c A (isTrue (.UnaryOp .Not x p) env whole) F V QB:=fun s S=>wpAny_isTrue_Not (h s S)
theorem Run.J8 {op vs p whole:_}(h:Run c A (allTrue op vs env) F V QB):Run c A (isTrue (.BoolOp op vs p) env whole) F V QB:=fun s S=>wpAny_isTrue_BoolOp (h s S)
theorem Run.Kq (h:QB true F V):Run c A (allTrue .And [] env) F V QB:=fun s S=>wpAny_allTrue_And_nil (Ae F V S h)
theorem Run.Zh (h:QB false F V):Run c A (allTrue .Or [] env) F V QB:=fun s S=>wpAny_allTrue_Or_nil (Ae F V S h)
theorem Run.FB {x rest:_}(h:Run c A (isTrue x env (eval x env)) F V (fun b F1 V1=>(b=true→Run c A (allTrue .And rest env) F1 V1 QB)∧(b=false→QB false F1 V1))):
  Run c A (allTrue .And (x::rest) env) F V QB:=fun s S=>wpAny_allTrue_And_cons ((Run.fu h S fun b s1 F1 V1 S1 h1=>by
 induction b
 ·exact Ae F1 V1 S1 (h1.2 rfl)
 ·exact h1.1 rfl s1 S1))
theorem Run.Oi {x rest:_}(h:Run c A (isTrue x env (eval x env)) F V (fun b F1 V1=>(b=false→Run c A (allTrue .Or rest env) F1 V1 QB)∧(b=true→QB true F1 V1))):
  Run c A (allTrue .Or (x::rest) env) F V QB:=fun s S=>wpAny_allTrue_Or_cons ((Run.fu h S fun b s1 F1 V1 S1 h1=>by
 induction b
 ·exact h1.1 rfl s1 S1
 ·exact Ae F1 V1 S1 (h1.2 rfl)))
theorem Run.M5 {test body orelse p:_}(h:Run c A (isTrue test env (eval test env)) F V (fun b F1 V1=>(b=true→Run c A (eval body env) F1 V1 Q)∧(b=false→Run c A (eval orelse env) F1 V1 Q))):
  Run c A (eval (.IfExp test body orelse p) env) F V Q:=fun s S=>
 wpAny_IfExp ((Run.fu h S fun b s1 _ _ S1 h1=>by induction b;exact h1.2 rfl s1 S1;exact h1.1 rfl s1 S1))
section
variable {a b:Int}
theorem Run.Aw (h:∀k,Q (.int (a+b) k) F V):Run c A (binaryOp .Add (.int a t) (.int b u)) F V Q:=.mk fun s S=>PySem.P.add_int (Ae F V ⟨S.own,S.base,S.gens,S.os⟩ (h _))
theorem Run.Wd (h:∀k,Q (.int (a+b) k) F V):Run c A (inplaceOp .Add (.int a t) (.int b u)) F V Q:=.mk fun s S=>PySem.P.iadd_int (Ae F V ⟨S.own,S.base,S.gens,S.os⟩ (h _))
theorem Run.Bh (h:∀k,Q (.int (a - b) k) F V):Run c A (binaryOp .Sub (.int a t) (.int b u)) F V Q:=.mk fun s S=>PySem.P.sub_int (Ae F V ⟨S.own,S.base,S.gens,S.os⟩ (h _))
theorem Run.Yt (h:∀k,Q (.int (a*b) k) F V) (hm:IntMulOk a b:=by mul_fits):Run c A (binaryOp .Mult (.int a t) (.int b u)) F V Q:=.mk fun s S=>PySem.P.mul_int (Ae F V ⟨S.own,S.base,S.gens,S.os⟩ (h _)) hm
theorem Run.aN (h0:0≤a) (h:∀k,Q (.int (a / 2) k) F V):Run c A (binaryOp .RShift (.int a t) (.int 1 u)) F V Q:=.mk fun s S=>wpAny_rshift1_int h0 (Ae F V ⟨S.own,S.base,S.gens,S.os⟩ (h _))
theorem Run.DO (h:Q (.bool (a==b)) F V):Run c A (compareOp .Eq (.int a t) (.int b u)) F V Q:=fun s S=>PySem.P.eq_int (Ae F V S h)
theorem Run.ltI (h:Q (.bool (decide (a<b))) F V):Run c A (compareOp .Lt (.int a t) (.int b u)) F V Q:=fun s S=>PySem.P.lt_int (Ae F V S h)
theorem Run.BV (h:Q (.bool (decide (a>b))) F V):Run c A (compareOp .Gt (.int a t) (.int b u)) F V Q:=fun s S=>PySem.P.gt_int (Ae F V S h)
theorem Run.DQ (h:Q (.bool (decide (a≥b))) F V):Run c A (compareOp .GtE (.int a t) (.int b u)) F V Q:=fun s S=>PySem.P.ge_int (Ae F V S h)
theorem Run.YC (h:∀k,Q (.int (-a) k) F V):Run c A (unaryOp .USub (.int a t)) F V Q:=.mk fun s S=>PySem.P.neg_int (Ae F V ⟨S.own,S.base,S.gens,S.os⟩ (h _))
theorem Run.tB {b:Bool}(h:QB b F V):Run c A (truthy (.bool b)) F V QB:=fun s S=>wpAny_truthy_bool (Ae F V S h)
end
section
variable {x:Str}
theorem Run.AO (h:Q (.bool (x==y)) F V):Run c A (compareOp .Eq (.str x t) (.str y u)) F V Q:=fun s S=>PyProof.Rows.eq_str (Ae F V S h)
theorem Run.Dx (h:Q (.bool (x !=y)) F V):Run c A (compareOp .NotEq (.str x t) (.str y u)) F V Q:=fun s S=>PyProof.Rows.ne_str (Ae F V S h)
theorem Run.Io (h:∀k,Q (.str (x++y) k) F V) (hsz:x.length+y.length≤sizeLine):Run c A (binaryOp .Add (.str x t) (.str y u)) F V Q:=.mk fun s S=>
 PyProof.Rows.add_str (fun t' _=>Ae F V ⟨S.own,S.base,S.gens,S.os⟩ (h t')) hsz
theorem Run.FR (h:Q (.bool !(Builtin.Str.occurrences x y 0 x.length 1).isEmpty) F V):Run c A (compareOp .In (.str y u) (.str x t)) F V Q:=fun s S=>PyProof.Rows.in_str (Ae F V S h)
theorem Run.YO (h:Q (.bool (!(!(Builtin.Str.occurrences x y 0 x.length 1).isEmpty))) F V):Run c A (compareOp .NotIn (.str y u) (.str x t)) F V Q:=fun s S=>PyProof.Rows.notIn_str (Ae F V S h)
end
theorem Run.GN (h:Q (.bool (v== .none)) F V):Run c A (compareOp .Is v .none) F V Q:=fun s S=>is_none (Ae F V S h)
theorem Run.ED {value slice p:_}(h:Run c A (eval value env) F V (fun o F1 V1=>Run c A (eval slice env) F1 V1 (fun i F2 V2=>Run c A (subscriptTail value slice o i) F2 V2 Q))):
  Run c A (eval (.Subscript value slice p) env) F V Q:=fun s S=>
 Subscript_ ((Run.fu h S fun _ s1 _ _ S1 h1=>(Run.fu h1 S1 fun _ s2 _ _ S2 h2=>h2 s2 S2)))
theorem Run.B9 {slice:Expr}{k:Int}(hl:Ad l (Ab vs) V) (hk:k=i) (hf:k<2 ^ 63) (hv:vs[i]? =some v) (h:Q v F V)
  (hs:autoParam (subscripted slice false (.ref l) (.int k t)=operate [.ref l,.int k t] (getItem (.ref l) (.int k t))) aU):
  Run c A (subscriptTail value slice (.ref l) (.int k t)) F V Q:=fun s S=>
 tail_any (CD hl S).typeIs slot_list_getitem.lookup (wpAny_getItem_list (x:=v) (CD hl S) (by lia) hf (by rw[hk];simpa using hv) (Ae F V S h)) hs
theorem Run.JA {slice:Expr}{k:Int}(hl:Ad l (Ab vs) V) (hk:k+vs.length=i) (h0:k<0) (hf: -(2 ^ 63)≤k) (hv:vs[i]? =some v) (h:Q v F V)
  (hs:autoParam (subscripted slice false (.ref l) (.int k t)=operate [.ref l,.int k t] (getItem (.ref l) (.int k t))) aU):
  Run c A (subscriptTail value slice (.ref l) (.int k t)) F V Q:=fun s S=>
 tail_any (CD hl S).typeIs slot_list_getitem.lookup (wpAny_getItem_list_neg (x:=v) (CD hl S) h0 (by simp;lia) hf (by
  have:(k+(vs.toArray.size:Int)).toNat=i:=by simp;exact QD ‹_›
  rw[this];simpa using hv) (Ae F V S h)) hs
theorem Run.Bq {slice:Expr}(hl:Tu F l vs) (hf:(i:Int)<2 ^ 63) (hv:vs[i]? =some v) (h:Q v F V)
  (hs:autoParam (subscripted slice false (.ref l) (.int i t)=operate [.ref l,.int i t] (getItem (.ref l) (.int i t))) aU):
  Run c A (subscriptTail value slice (.ref l) (.int i t)) F V Q:=fun s S=>by
 have lt:i<vs.length:=by
  refine Or.elim (Nat.lt_or_ge i vs.length) (fun q=>?_) fun q=>?_
  ·exact q
  ·replace hv:=(List.getElem?_eq_none q)▸hv;rcases hv with _|_
 exact item_tupleT (Jz hl S) (by lia) hf (j:=i) (by
  dsimp only[seqIndex?]
  simp[show ¬((i:Int)<0) by lia,lt]) hv (Ae F V S h) hs
theorem Run.Nl {slice:Expr}{x:Str}{i:Int}(h1: -(x.length:Int)≤i) (h2:i<x.length) (hr:fitsSsize i=true) (h:∀k,Q (.str (Txt.item x i) k) F V)
  (hs:autoParam (subscripted slice false (.str x t) (.int i u)=operate [.str x t,.int i u] (getItem (.str x t) (.int i u))) aU)
  (ht:autoParam (∀r,letTemporaryGo value (.str x t) r=(Pure.pure ():Sem Unit)) aV):
  Run c A (subscriptTail value slice (.str x t) (.int i u)) F V Q:=.mk fun s S=>item_str hr h1 h2 (fun _=>Ae F V ⟨S.own,S.base,S.gens,S.os⟩ (h _)) hs ht
theorem Run.Q8 {o i pos' value pos:_}(h:Run c A (eval value env) F V (fun v F1 V1=>Run c A (eval o env) F1 V1 (fun ov F2 V2=>Run c A (eval i env) F2 V2 (fun iv F3 V3=>Run c A (setItem ov iv v) F3 V3 (fun _=>QF .next)))))
  (hs:autoParam (swapsWith value (some (.Subscript o i pos')) pos.line env=(Pure.pure false:Sem Bool)) aR):
  Run c A (exec (.Assign [.Subscript o i pos'] value pos) env) F V QF:=fun s S=>
 wpAny_Assign_Subscript ((Run.fu h S fun _ s1 _ _ S1 h1=>(Run.fu h1 S1 fun _ s2 _ _ S2 h2=>(Run.fu h2 S2 fun _ s3 _ _ S3 h3=>h3 s3 S3)))) hs
theorem aG {items:Array Value}{ne:Nat}{k:Int}{QU:Unit→Shared→Prop}(hl:IsL s.heap l items ne) (h0:0≤k) (hfit:k<2 ^ 63) (hn:k<items.size)
  (hQ:QU () {s with heap:=s.heap.update l (Obj.mapSeq (·.setIfInBounds k.toNat v))}):wpAny (model prog w) A (setItem (.ref l) (.int k t) v) QU E s:=by
 have hT:=hl.isList.typeIs
 unfold setItem
 try with_reducible refine en ?_
 first|refine d8 (d9 ?_)|skip
 refine d8 (wpAny_sequenceKey hT (by decide) ?_)
 refine d8 (wpAny_callSpecial?_slot (name:=Str.ofString "__setitem__") hT slot_list_setitem
  (eC slot_list_setitem hT entry_list_setitem ?_ (args_list_setitem _ _ _)))
 refine(?_:wpAny _ _ (Builtin.List.listSubscript? (.int k t)>>=_) _ _ s)
 refine d8 (wpAny_listSubscript_int (fitsIndex_of h0 hfit) ?_)
 clear hfit
 obtain⟨j,rfl⟩:=Int.eq_ofNat_of_zero_le h0
 have hj:j<items.size:=Int.ofNat_lt.mp ‹_›
 have hx':items[j]? =some items[j]:=fh hj
 refine(?_:wpAny _ _ ((seqItemAt l j>>=fun r=>Pure.pure (r.map (j,·)))>>=_) _ _ s)
 refine d8 (d8 (wpAny_seqItemAt hl rfl (d9 ?_)))
 refine(hx')▸?_
 refine(?_:wpAny _ _ (setSeqItemAt l j v>>=_) _ _ s)
 refine d8 (wpAny_setSeqItemAt hl rfl ?_)
 first
  |exact d8 (d9 (d9 (BO .none rfl (d9 hQ))))
  |exact d9 ⟨.none,rfl,d9 hQ⟩
theorem Run.D7 {k:Int}(hl:Aj l (Ab vs) (Ab (vs.set i v)) V V') (hk:k=i) (hf:k<2 ^ 63) (hn:i<vs.length)
  (h:QU () F V'):Run c A (setItem (.ref l) (.int k t) v) F V QU:=.mk fun s S=>by
 refine Exists.elim (BW hl.has S) fun n e=>?_
 refine aG (items:=vs.toArray) e (by lia) hf (by rw[eY];lia) (Ae F V' (S.Fr hl _ ?_) h)
 rw[show k.toNat=i by lia]
 exact List.setIfInBounds_toArray ..
def Rm (n:Nat) (A:Around):Prop:=A.depth+n≤900∧A.units+10*n≤9000∧A.handled=none
theorem Rm.deeper {n A:_}(h:Rm (n+1) A) (env:Env):Rm n (A.deeper env):=by
 refine⟨eb (eH (Nat.add_right_comm _ _ _)) h.1,?_,h.2.2⟩
 refine(?_:A.units+3+10*n≤9000)
 exact eb (by lia) h.2.1
theorem AA.loop {ι:Type}{test:Expr}{Q:Flow→FM→Aa→Prop}(I:ι→FM→Aa→Prop) (μ:ι→Nat)
  (turn:∀i F V,I i F V→Run c A (isTrue test env (eval test env)) F V (fun b F1 V1=>
   (b=true→Run c A (execs body env) F1 V1 (fun f F2 V2=>match f with| .next| .cont=>∃j,μ j<μ i∧I j F2 V2| .brk=>Q .next F2 V2| .ret v=>Q (.ret v) F2 V2))∧
   (b=false→Run c A (execs orelse env) F1 V1 Q))) (i:ι) (hI:I i F V):AA c A (.whileLoop test body orelse env) F V Q:=by
 suffices x:∀n,∀i F V,μ i<n→I i F V→AA c A (.whileLoop test body orelse env) F V Q from x _ i F V (ey _) hI
 intro n
 induction n with
 |zero=>intro i F V h;exact absurd h (Nat.not_lt_zero _)
 |succ n ih=>
  intro i F V hi hI
  refine AA.dZ (Run.mono (turn i F V hI) fun b F1 V1 h=>⟨fun hb=>Run.mono (h.1 hb) fun f F2 V2 h2=>?_,h.2⟩)
  induction f with
  |next=>exact Ag h2 fun j hj hI'=>ih j F2 V2 (ea hj (ex hi)) hI'
  |cont=>exact Ag h2 fun j hj hI'=>ih j F2 V2 (ea hj (ex hi)) hI'
  |brk=>exact h2
  |ret v=>exact h2
def Gl (c:Cx) (x:Str) (v:Value):Prop:=∃o es ep,c.F0 3=some o∧o.data= .dict es ep∧StrKeys es∧nsFind es x=some v
def Bl (c:Cx) (x:Str) (v:Value):Prop:=(∃o es ep,c.F0 3=some o∧o.data= .dict es ep∧StrKeys es∧nsFind es x=none)∧∃o es ep,c.F0 0=some o∧o.data= .dict es ep∧StrKeys es∧nsFind es x=some v
structure Gv (env:Env):Prop where
 kind:env.scope.kind= .function
 gl:env.globals=3
 bl:env.builtins=0
theorem NJ {x:Str}(g:Gv env) (hx:env.scope.names.lookup x=some .globalImplicit):loadName env x=loadGlobal env x:=by
 have hk:env.kindOf x=some .globalImplicit:=hx
 have hb:env.blockKind= .function:=by delta Env.blockKind;rw[g.kind];rfl
 refine(if_neg (by rw[g.kind];exact Bool.false_ne_true)).trans ?_
 rw[hb,hk]
theorem Run.XK {x:Str}(g:Gv env) (hx:env.scope.names.lookup x=some .globalImplicit) (hv:Gl c x v) (h:Q v F V):Run c A (loadName env x) F V Q:=fun s S=>by
 refine Cm hv fun o es ep a b d e=>?_
 rw[NJ g hx]
 exact loadGlobal_global (mg:=fun n=>nsFind es n) (g.gl▸CC o es ep (S.own.fro _ _ (S.base _ _ a)) b d fun _=>rfl) e (Ae F V S h)
theorem Run.XI {x:Str}(g:Gv env) (hx:env.scope.names.lookup x=some .globalImplicit) (hv:Bl c x v) (h:Q v F V):Run c A (loadName env x) F V Q:=fun s S=>by
 refine Cm hv.1 fun o es ep a b d e=>Cm hv.2 fun o' es' ep' a' b' d' e'=>?_
 rw[NJ g hx]
 exact loadGlobal_builtin (mg:=fun n=>nsFind es n) (mb:=fun n=>nsFind es' n) (g.gl▸CC o es ep (S.own.fro _ _ (S.base _ _ a)) b d fun _=>rfl) e (g.bl▸CC o' es' ep' (S.own.fro _ _ (S.base _ _ a')) b' d' fun _=>rfl) e' (Ae F V S h)
theorem Run.XJ {x:Str}{p:_}(g:Gv env) (hx:env.scope.names.lookup x=some .globalImplicit) (hd:(x==("__debug__":Str))=false) (hv:Gl c x v) (h:Q v F V):Run c A (eval (.Name x p) env) F V Q:=fun s S=>
 wpAny_Name (Run.XK g hx hv h s S) hd
theorem Run.XH {x:Str}{p:_}(g:Gv env) (hx:env.scope.names.lookup x=some .globalImplicit) (hd:(x==("__debug__":Str))=false) (hv:Bl c x v) (h:Q v F V):Run c A (eval (.Name x p) env) F V Q:=fun s S=>
 wpAny_Name (Run.XI g hx hv h s S) hd
noncomputable abbrev Itm:=Int×Str
noncomputable def ltB (p q:Itm):Bool:=if p.1=q.1 then(if p.2=q.2 then false else decide (p.2.cps.toList<q.2.cps.toList)) else decide (p.1<q.1)
def It (F:FM) (v:Value) (p:Itm):Prop:=∃a t u,v= .ref a∧Tu F a [.int p.1 t,.str p.2 u]
theorem It.le {F F' v p:_}(h:It F v p) (l:Le F F'):It F' v p:=let⟨a,t,u,e,x⟩:=h;⟨a,t,u,e,x.le l⟩
theorem dM {b:Addr}{n m:Int}{x:Str}{P:Fin→Shared→Prop}(ha:IsTup s.heap a #[.int n t,.str x u]) (hb:IsTup s.heap b #[.int m t',.str y u'])
  (h:P (.done (.ret (.bool (ltB (n,x) (m,y))))) s):wpAny (model prog w) A (Builtin.«tuple.__lt__» ⟨[.ref a,.ref b],[]⟩) P E s:=by
 refine(?_:wpAny _ _ (isInstance (.ref b) (.type "tuple")>>=_) _ _ s)
 refine d8 (wpAny_isInstance (hb.typeIs) isSubtype_tuple_tuple ?_)
 simp only[Bool.not_true,Bool.false_eq_true,if_false]
 refine d8 (tupleItemsOf_ ha ?_)
 refine d8 (tupleItemsOf_ hb ?_)
 refine d8 ?_
 refine(?_:wpAny _ _ (forIn [((Value.int n t),(Value.int m t')),((Value.str x u),(Value.str y u'))] _ _) _ _ s)
 rw[e7]
 refine d8 (d8 (wpAny_eqBool_int ?_))
 by_cases e:n=m
 ·subst e
  rw[show(n==n)=true from eX n]
  simp only[Bool.not_true,Bool.false_eq_true,if_false]
  refine d9 ?_
  refine(?_:wpAny _ _ (forIn [((Value.str x u),(Value.str y u'))] _ _) _ _ s)
  rw[e7]
  refine d8 (d8 (wpAny_eqBool_str ?_))
  by_cases e':x=y
  ·subst e'
   rw[eU rfl]
   simp only[Bool.not_true,Bool.false_eq_true,if_false]
   refine d9 ?_
   refine(?_:wpAny _ _ (forIn [] _ _) _ _ s)
   rw[List.forIn_nil]
   refine d9 ?_
   refine d9 ?_
   have h2:ltB (n,x) (n,x)=false:=by simp[ltB]
   rw[h2] at h
   exact h
  ·rw[eV e']
   simp only[Bool.not_false,if_true]
   refine d8 (wpAny_rule (d8 ?_))
   refine(?_:wpAny _ _ (compareOp .Lt (.str x u) (.str y u')) _ _ _)
   refine PyProof.Rows.lt_str ?_
   refine d8 (d9 (d9 (d9 (d9 ?_))))
   simpa [ltB,e'] using h
 ·rw[show(n==m)=false from beq_eq_false_iff_ne.mpr e]
  simp only[Bool.not_false,if_true]
  refine d8 (wpAny_rule (d8 ?_))
  refine(?_:wpAny _ _ (compareOp .Lt (.int n t) (.int m t')) _ _ _)
  refine PySem.P.lt_int ?_
  refine d8 (d9 (d9 (d9 (d9 ?_))))
  simpa [ltB,e] using h
theorem Run.GX {w:Value}{p q:Itm}(rm:Rm n A) (hv:It F v p) (hw:It F w q) (h:Q (.bool (ltB p q)) F V):Run c A (compareOp .Lt v w) F V Q:=fun s S=>by
 obtain⟨a,t,u,rfl,ha⟩:=hv
 obtain⟨b,t',u',rfl,hb⟩:=hw
 have ha':=Jz ha S
 have hb':=Jz hb S
 refine(?_:wpAny _ _ (richCompare .Lt (.ref a) (.ref b)) _ _ s)
 refine wpAny_richCompare_same_room (op:=.Lt) (T:="tuple") ha'.typeIs hb'.typeIs PySem.F.slot_tuple_lt ?_ (by have:=rm.2.1;refine(?_:A.units<9900);exact CX ‹_› rfl)
 refine eC PySem.F.slot_tuple_lt ha'.typeIs PySem.F.entry_tuple_lt ?_ (PySem.F.args_tuple_lt_2 _ _)
 exact dM ha' hb' ⟨_,rfl,by simp,F,V,S,h⟩
def B5 (W V:Aa):Prop:=∀F h,Own F V h→Own F W h
inductive Dm {α β:Type}(a:α) (b:β):List (α×β)→List (α×β)→Prop
 |head {l:_}:Dm a b ((a,b)::l) l
 |tail {x l l':_}:Dm a b l l'→Dm a b (x::l) (x::l')
theorem Dm.perm {α β:Type}{a:α}{b:β}{l l':_}(h:Dm a b l l'):l.Perm ((a,b)::l'):=by
 induction h with
 |head=>exact .refl _
 |tail _ ih=>exact(ih.cons _).trans (.swap ..)
theorem Own.perm {F V W h:_}(O:Own F V h) (p:V.Perm W):Own F W h:=⟨O.fro,fun q hq=>O.own q (p.symm.subset hq),(p.map _).nodup_iff.mp O.nod⟩
theorem B5.refl {V:_}:B5 V V:=fun _ _ O=>O
inductive Part:Aa→Aa→Prop
 |refl {V:_}:Part V V
 |skip {W V x:_}:Part W V→Part W (x::V)
 |cons {a P W V V':_}:Dm a P V V'→Part W V'→Part ((a,P)::W) V
theorem Part.sub {W V:_}(h:Part W V):∃U,W.Sublist U∧U.Perm V:=by
 induction h with
 |refl=>exact Ak _ (.refl _) (.refl _)
 |skip _ ih=>refine Ag (ih) fun U a b=>?_;exact Ak (_::U) (a.cons _) (b.cons _)
 |cons p _ ih=>refine Ag (ih) fun U a b=>?_;exact Ak (_::U) (a.cons_cons _) ((b.cons _).trans p.perm.symm)
theorem Part.fit {W V:_}(h:Part W V):B5 W V:=fun F hp O=>by
 refine Ag (h.sub) fun U a b=>?_
 exact(O.perm b.symm).sub a
theorem St.fit {s:_}(S:St c F V s) (h:B5 W V):St c F W s:=⟨⟨h _ _ S.own,S.base,S.gens,S.os⟩,S.tk⟩
theorem Run.fit {α:Type}{m:Sem α}{Q:α→FM→Aa→Prop}(x:B5 W V) (h:Run c A m F W Q):Run c A m F V Q:=fun s S=>h s (S.fit x)
theorem AA.fit {k:Code}{Q:Flow→FM→Aa→Prop}(x:B5 W V) (h:AA c A k F W Q):AA c A k F V Q:=fun s S=>h s (S.fit x)
noncomputable def fin (R:Value→FM→Aa→Prop):Flow→FM→Aa→Prop:=fun f F' V'=>∀h,Own F' V' h→∃F1 W,Le F' F1∧Own F1 W h∧R (match f with| .ret v=>v|_=>.none) F1 W
structure Fun (c:Cx) (a:Addr) (fd:FuncData):Prop where
 at_:∃o,c.F0 a=some o∧o.data= .func fd
 cd:∃d ob vs t,fd.code= .ref d∧c.F0 d=some ob∧ob.data= .fields vs∧vs[1]? =some (.str fd.qualname t)
 gl:fd.globals=3
 bl:fd.builtins=0
 co:fd.scope.isCoroutine=false
 gen:fd.scope.isGenerator=false
 kind:fd.scope.kind= .function
 stm:∃b,fd.body= .stmts b
noncomputable def bodyOf (fd:FuncData):List Stmt:=match fd.body with| .stmts b=>b|_=>[]
def Gb (env:Env) (gs:List Str):Prop:=∀x ∈ gs,env.scope.names.lookup x=some .globalImplicit∧(x==("__debug__":Str))=false
theorem Run.lg {x:Str}(g:Gv env) (gb:Gb env gs) (hx:x ∈ gs) (hv:Gl c x v) (h:Q v F V):Run c A (eval (.Name x p) env) F V Q:=Run.XJ g (gb x hx).1 (gb x hx).2 hv h
theorem Run.lb {x:Str}(g:Gv env) (gb:Gb env gs) (hx:x ∈ gs) (hv:Bl c x v) (h:Q v F V):Run c A (eval (.Name x p) env) F V Q:=Run.XH g (gb x hx).1 (gb x hx).2 hv h
noncomputable def Cs (fd:FuncData) (gs:List Str):Bool:=gs.all fun x=>fd.scope.names.lookup x==some .globalImplicit && !(x==("__debug__":Str))
theorem Jj (h:Cs fd gs=true) (e:env.scope=fd.scope):Gb env gs:=fun x hx=>by
 have:=fk h x hx
 refine And.elim (fun e1 e2=>?_) (fi this)
 exact⟨e▸eq_of_beq e1,(Bool.not_eq_true' _).mp (e2)⟩
noncomputable def Fg (fd:FuncData) (ks bs:List Str):Bool:=fd.scope.names.all (fun x=>x.2 != .cell) && decide ks.Nodup && ks.all (fun x=>fd.scope.names.lookup x==some .local && !(x==("__debug__":Str))) && bs.all ks.contains
theorem AM.FN {R:Value→FM→Aa→Prop}(ks gs:List Str) (m:Fm)
  (rm:Rm (n+1) A) (fn:Fun c a fd) (hbind:∀s,St c F V s→BindsTo s fd args binds) (hok:Fg fd ks (binds.map (·.1))=true) (hg:Cs fd gs=true) (hm:m=ks.map fun k=>(k,binds.reverse.lookup k))
  (h:∀L A' env ks,Rm n A'→Loc env L ks→Gv env→Gb env gs→env.code=fd.code→env.qual=fd.qualname++".<locals>."→Run c A' (execs (bodyOf fd) env) F ((L,Cq ks m)::V) (fin R)):
  AM c A (.call (.ref a) args) F V R:=by
 have hnd:ks.Nodup:=by
  have:=(fi (fi (fi hok).1).1).2
  exact ee this
 have hal:∀x ∈ ks,fd.scope.names.lookup x=some .local∧(x==("__debug__":Str))=false:=fun x hx=>by
  have:=fk (fi (fi hok).1).2 x hx
  obtain⟨e1,e2⟩:=fi this
  exact⟨eq_of_beq e1,(Bool.not_eq_true' _).mp (e2)⟩
 have hin:∀x ∈ ks,fd.scope.names.lookup x=some .local:=fun x hx=>(hal x hx).1
 have hdb:∀x ∈ ks,(x==("__debug__":Str))=false:=fun x hx=>(hal x hx).2
 have hb:∀x ∈ binds,x.1 ∈ ks:=fun x hx=>by
  have:=fk (fi hok).2 x.1 (ew hx)
  exact List.contains_iff_mem.mp (this)
 obtain⟨b,hbody⟩:=fn.stm
 refine Ag (fn.at_) fun o h1 h2=>?_
 refine E0 (fn.cd) fun d ob vs t e1 e2 e3 e4=>?_
 intro s S
 have hcell:∀x ∈ fd.scope.names,x.2≠.cell:=fun x hx e=>by
  have:=fk (fi (fi (fi hok).1).1).1 x hx
  rw[e] at this
  exact absurd this (by decide)
 have q:AM c A (.call (.ref a) args) F V R→_:=fun x=>x s S
 refine q ?_
 intro s S
 refine codeAny_call_def (by have:=rm.1;refine(?_:A.depth<1000);exact CX ‹_› rfl) (S.own.fro _ _ (S.base _ _ h1)) h2 (c.lim _ fun a o e=>S.own.fro _ _ (S.base _ _ e)) (Ep d ob vs t e1 (S.own.fro _ _ (S.base _ _ e2)) e3 e4) hbody (hbind s S) hcell (fun x hx=>hin _ (hb _ hx)) ?_ fn.co fn.gen fn.kind
 intro h₀ hns hkeep
 have lt:∀{a:Addr}{x:Obj},s.heap.get? a=some x→a≠s.heap.objs.size:=fun e=>eG (eE e)
 have S':St c F ((s.heap.objs.size,Cq ks m)::V) {s with heap:=h₀,toks:=s.toks+binds.length}:=by
  refine⟨⟨⟨fun a x e=>hkeep _ _ (S.own.fro a x e),fun p hp=>?_,?_⟩,S.base,S.gens,S.os⟩,ea S.tk (Nat.le_add_right ..)⟩
  ·rcases fj hp with rfl|hp
   ·refine Cm (hns) fun o' es ep g1 g2 g3 g4=>?_
    refine⟨?_,o',g1,?_,hnd,es,ep,g2,g3,fun p hp=>?_⟩
    ·cases e:F s.heap.objs.size with
     |none=>rfl
     |some x=>exact absurd rfl (lt (S.own.fro _ _ e))
    ·rw[hm,e8]
     exact List.map_id _
    ·rw[g4]
     rw[hm] at hp
     obtain⟨k, -,rfl⟩:=List.mem_map.mp hp
     rfl
   ·obtain⟨a,x,b,e⟩:=S.own.own p hp
    exact⟨a,x,hkeep _ _ b,e⟩
  ·rw[eP,List.nodup_cons]
   refine⟨fun hm'=>?_,S.own.nod⟩
   refine Ag (List.mem_map.mp hm') fun p hp' e=>?_
   obtain⟨-,x,b, -⟩:=S.own.own p hp'
   exact lt b e
 have hbo:bodyOf fd=b:=by unfold bodyOf;rw[hbody]
 have:=h s.heap.objs.size _ (callEnv fd s.heap.objs.size a) ks (rm.deeper (callEnv fd s.heap.objs.size a)) ⟨fn.kind,hin,hdb,rfl⟩ ⟨fn.kind,fn.gl,fn.bl⟩ (Jj hg rfl) rfl rfl _ S'
 rw[hbo] at this
 exact ej this (fun f s' qz=>BH qz fun F' V' S'' k=>by
  refine Bk (k _ S''.own) fun F1 W le O r=>?_
  exact⟨_,F1,W,rfl,⟨⟨O,Le.trans S''.base le,S''.gens,S''.os⟩,S''.tk⟩,_,rfl,r⟩) fun _ _ e=>e.elim
noncomputable def Kg (w:World):FM:=fun a=>if a=289∨a=395 then none else(hF w.params).get? a
theorem XT (w:World):(hF w.params).noLimitOk=true:=by kernel_rfl
theorem bv (w:World):Kg w cStatics=(hF w.params).get? cStatics:=by kernel_rfl
noncomputable def cx (w:World) (os:OsState):Cx:=⟨w,os,Kg w,fun _ k=>(Heap.NoLimit.of_ok (XT w)).at fun o e=>k _ o ((bv w).trans e)⟩
noncomputable def Bb (o:Obj):FuncData:=match o.data with| .func fd=>fd|_=>default
noncomputable def BC (o:Obj):Array DictEntry:=match o.data with| .dict es _=>es|_=>#[]
noncomputable def keysOk (es:Array DictEntry):Bool:=es.all fun e=>match e.key with| .str _ _=>true|_=>false
theorem Ib {es:Array DictEntry}(h:keysOk es=true):StrKeys es:=fun e he=>by
 have:=(Array.all_eq_true_iff_forall_mem.mp h) e he
 cases hk:e.key with
 |str n t=>exact⟨n,t,rfl⟩
 |_=>rw[hk] at this;contradiction
theorem Ji (w:World):StrKeys (BC (DA w.params)):=Ib (by kernel_rfl)
theorem Ri (w:World):StrKeys (BC (G1 w.params)):=Ib (by kernel_rfl)
theorem Bp {x:Str}(h:nsFind (BC (DA w.params)) x=some v):Gl (cx w os) x v:=
 ⟨DA w.params,BC (DA w.params),_,by kernel_rfl,rfl,Ji w,h⟩
theorem CZ {x:Str}(h0:nsFind (BC (DA w.params)) x=none) (h:nsFind (BC (G1 w.params)) x=some v):Bl (cx w os) x v:=
 ⟨⟨DA w.params,BC (DA w.params),_,by kernel_rfl,rfl,Ji w,h0⟩,G1 w.params,BC (G1 w.params),_,by kernel_rfl,rfl,Ri w,h⟩
theorem ME:Gl (cx w os:_) "heappush" (.ref 308):=Bp (by kernel_rfl)
theorem MD:Gl (cx w os:_) "heappop" (.ref 315):=Bp (by kernel_rfl)
theorem Vl:Gl (cx w os:_) "heapreplace" (.ref 322):=Bp (by kernel_rfl)
theorem MC:Gl (cx w os:_) "_siftdown" (.ref 329):=Bp (by kernel_rfl)
theorem Ve:Gl (cx w os:_) "_siftup" (.ref 336):=Bp (by kernel_rfl)
theorem Jk:Gl (cx w os:_) "_law_one" (.ref 343):=Bp (by kernel_rfl)
theorem Vc:Gl (cx w os:_) "_law_set" (.ref 350):=Bp (by kernel_rfl)
theorem Vb:Gl (cx w os:_) "_law_rows" (.ref 357):=Bp (by kernel_rfl)
theorem MB:Gl (cx w os:_) "_law_fits" (.ref 362):=Bp (by kernel_rfl)
theorem Vd:Gl (cx w os:_) "_law_takes" (.ref 369):=Bp (by kernel_rfl)
theorem U7:Gl (cx w os:_) "_law_glob" (.ref 374):=Bp (by kernel_rfl)
theorem Va:Gl (cx w os:_) "_law_longest" (.ref 381):=Bp (by kernel_rfl)
theorem U9:Gl (cx w os:_) "_law_lacking" (.ref 388):=Bp (by kernel_rfl)
theorem U8:Gl (cx w os:_) "_law_grown" (.ref 393):=Bp (by kernel_rfl)
theorem U5:Gl (cx w os:_) "SequenceMatcher" (.ref 259):=Bp (by kernel_rfl)
theorem Vx:Gl (cx w os:_) "translate" (.ref 275):=Bp (by kernel_rfl)
theorem Vk:Gl (cx w os:_) "escape" (.ref 287):=Bp (by kernel_rfl)
theorem Vh:Gl (cx w os:_) "_translate" (.ref 294):=Bp (by kernel_rfl)
theorem U6:Gl (cx w os:_) "_join_translated_parts" (.ref 301):=Bp (by kernel_rfl)
theorem Vi:Gl (cx w os:_) "_twin_re_1" (.ref 268):=Bp (by kernel_rfl)
theorem Vg:Gl (cx w os:_) "_special_chars_map" (.ref 277):=Bp (by kernel_rfl)
theorem Jl:Bl (cx w os:_) "len" (.builtin "len"):=CZ (by kernel_rfl) (by kernel_rfl)
theorem Jm:Bl (cx w os:_) "range" (.type "range"):=CZ (by kernel_rfl) (by kernel_rfl)
theorem Vp:Bl (cx w os:_) "min" (.builtin "min"):=CZ (by kernel_rfl) (by kernel_rfl)
theorem MI:Bl (cx w os:_) "sum" (.builtin "sum"):=CZ (by kernel_rfl) (by kernel_rfl)
theorem Vv:Bl (cx w os:_) "sorted" (.builtin "sorted"):=CZ (by kernel_rfl) (by kernel_rfl)
theorem Vu:Bl (cx w os:_) "set" (.type "set"):=CZ (by kernel_rfl) (by kernel_rfl)
theorem Vj:Bl (cx w os:_) "enumerate" (.type "enumerate"):=CZ (by kernel_rfl) (by kernel_rfl)
theorem Vt:Bl (cx w os:_) "object" (.type "object"):=CZ (by kernel_rfl) (by kernel_rfl)
theorem Vm:Bl (cx w os:_) "isinstance" (.builtin "isinstance"):=CZ (by kernel_rfl) (by kernel_rfl)
theorem Vw:Bl (cx w os:_) "str" (.type "str"):=CZ (by kernel_rfl) (by kernel_rfl)
section
theorem Bf {a t A:Nat}{s:Stmt}{q:Str→Str}{ln ac:Int}{vs:Option (List String)}{md:Value}{dc:Nat}{df:Value}{an:Option Addr}(h1:(cx w os).F0 A=some (ff a t s q ln ac vs md dc df an)) (h2:(cx w os).F0 (vs.elim (a+3) fun _=>a+5)=some (fc a t s q ln ac vs md dc df an)) (h3:(fS s).isCoroutine=false) (h4:(fS s).isGenerator=false) (h5:(fS s).kind= .function):Fun (cx w os) A (Bb (ff a t s q ln ac vs md dc df an)):=
 ⟨⟨_,h1,rfl⟩,⟨_,_,_,_,rfl,h2,rfl,rfl⟩,rfl,rfl,h3,h4,h5,⟨_,rfl⟩⟩
variable (w:World) (os:OsState)
noncomputable def TW (P:Params):FuncData:=Bb (LP ff)
theorem Jg:Fun (cx w os:_) 329 (TW w.params):=Bf (by kernel_rfl) (by kernel_rfl) rfl rfl rfl
noncomputable def TT (P:Params):FuncData:=Bb (LL ff)
theorem Jf:Fun (cx w os:_) 308 (TT w.params):=Bf (by kernel_rfl) (by kernel_rfl) rfl rfl rfl
noncomputable def TR (P:Params):FuncData:=Bb (LM ff)
theorem Je:Fun (cx w os:_) 315 (TR w.params):=Bf (by kernel_rfl) (by kernel_rfl) rfl rfl rfl
noncomputable def TU (P:Params):FuncData:=Bb (LN ff)
theorem Mm:Fun (cx w os:_) 322 (TU w.params):=Bf (by kernel_rfl) (by kernel_rfl) rfl rfl rfl
noncomputable def T6 (P:Params):FuncData:=Bb (LQ ff)
theorem Ms:Fun (cx w os:_) 336 (T6 w.params):=Bf (by kernel_rfl) (by kernel_rfl) rfl rfl rfl
noncomputable def TQ (P:Params):FuncData:=Bb (LR ff)
theorem HD:Fun (cx w os:_) 343 (TQ w.params):=Bf (by kernel_rfl) (by kernel_rfl) rfl rfl rfl
noncomputable def T5 (P:Params):FuncData:=Bb (LS ff)
theorem Mr:Fun (cx w os:_) 350 (T5 w.params):=Bf (by kernel_rfl) (by kernel_rfl) rfl rfl rfl
noncomputable def TV (P:Params):FuncData:=Bb (LT ff)
theorem Mn:Fun (cx w os:_) 357 (TV w.params):=Bf (by kernel_rfl) (by kernel_rfl) rfl rfl rfl
noncomputable def TJ (P:Params):FuncData:=Bb (LU ff)
theorem Jc:Fun (cx w os:_) 362 (TJ w.params):=Bf (by kernel_rfl) (by kernel_rfl) rfl rfl rfl
noncomputable def T8 (P:Params):FuncData:=Bb (LV ff)
theorem Mv:Fun (cx w os:_) 369 (T8 w.params):=Bf (by kernel_rfl) (by kernel_rfl) rfl rfl rfl
noncomputable def TK (P:Params):FuncData:=Bb (LW ff)
theorem Mh:Fun (cx w os:_) 374 (TK w.params):=Bf (by kernel_rfl) (by kernel_rfl) rfl rfl rfl
noncomputable def TO (P:Params):FuncData:=Bb (LX ff)
theorem Ml:Fun (cx w os:_) 381 (TO w.params):=Bf (by kernel_rfl) (by kernel_rfl) rfl rfl rfl
noncomputable def GD (P:Params):FuncData:=Bb (LY ff)
theorem Mk:Fun (cx w os:_) 388 (GD w.params):=Bf (by kernel_rfl) (by kernel_rfl) rfl rfl rfl
noncomputable def FG (P:Params):FuncData:=Bb (LZ ff)
theorem Mi:Fun (cx w os:_) 393 (FG w.params):=Bf (by kernel_rfl) (by kernel_rfl) rfl rfl rfl
noncomputable def T9 (P:Params):FuncData:=Bb (LH ff)
theorem Mw:Fun (cx w os:_) 275 (T9 w.params):=Bf (by kernel_rfl) (by kernel_rfl) rfl rfl rfl
noncomputable def TI (P:Params):FuncData:=Bb (LI ff)
theorem Mg:Fun (cx w os:_) 287 (TI w.params):=Bf (by kernel_rfl) (by kernel_rfl) rfl rfl rfl
noncomputable def T7 (P:Params):FuncData:=Bb (Hx ff)
theorem Mu:Fun (cx w os:_) 294 (T7 w.params):=Bf (by kernel_rfl) (by kernel_rfl) rfl rfl rfl
noncomputable def TN (P:Params):FuncData:=Bb (LK ff)
theorem Mj:Fun (cx w os:_) 301 (TN w.params):=Bf (by kernel_rfl) (by kernel_rfl) rfl rfl rfl
end
theorem Run.A0 {pos:_}(h:QL [] F V):Run c A (spliced (backTo pos (starEach [] env))) F V QL:=fun _ S=>wpAny_items_nil (Ae F V S h)
theorem Run.AL {pos e rest:_}(h:Run c A (eval e env) F V (fun v F1 V1=>Run c A (spliced (backTo pos (starEach rest env))) F1 V1 (fun vs=>QL (v::vs))))
  (he:autoParam (starEach (e::rest) env=(false,eval e env)::starEach rest env) aR):Run c A (spliced (backTo pos (starEach (e::rest) env))) F V QL:=fun s S=>
 wpAny_items_cons ((Run.fu h S fun _ s1 _ _ S1 h1=>h1 s1 S1)) he
theorem Run.CA {id p args pos:_}(h:Run c A (eval (.Name id p) env) F V (fun f F1 V1=>Run c A (callWith pos f [] (backTo pos (starEach args env)) []) F1 V1 Q)):
  Run c A (eval (.Call (.Name id p) args [] pos) env) F V Q:=fun s S=>by
 simp only[arm_eval_Call_Name']
 exact d8 ((Run.fu h S fun _ s1 _ _ S1 h1=>h1 s1 S1))
theorem Run.Gx {rest:List Expr}{pos:_}(fn:Fun c a fd)
  (h:Run c A (spliced (backTo pos (starEach (e::rest) env))) F V (fun vs F1 V1=>AM c A (.call (.ref a) ⟨first++vs,[]⟩) F1 V1 Q))
  (he:autoParam (starEach (e::rest) env=(false,eval e env)::starEach rest env) aR):
  Run c A (callWith pos (.ref a) first (backTo pos (starEach (e::rest) env)) []) F V Q:=fun s S=>by
 refine Ag (fn.at_) fun o h1 h2=>?_
 have q:=h s S
 simp only[he] at q⊢
 refine callWith_function (o:=o) (fd:=fd) (evalArgs_plain (ej q (fun vs s1 qz=>BH qz fun F1 V1 S1 h1'=>⟨⟨S1.own.fro _ _ (S1.base _ _ h1),h2⟩,Run.call h1' s1 S1⟩) fun _ _ e=>e))
theorem Run.Dp {id:String}{rest:List Expr}{pos:_}(h:Run c A (spliced (backTo pos (starEach (e::rest) env))) F V (fun vs F1 V1=>Run c A (PySem.call (.builtin id) (first++vs)) F1 V1 Q))
  (he:autoParam (starEach (e::rest) env=(false,eval e env)::starEach rest env) aR) (hplain:autoParam ((backTo pos (starEach rest env)).any (·.1)=false) aR):
  Run c A (callWith pos (.builtin id) first (backTo pos (starEach (e::rest) env)) []) F V Q:=fun s S=>
 callWith_method1 ((Run.fu h S fun _ s1 _ _ S1 h1=>h1 s1 S1)) he hplain
theorem Run.Sz {id:String}{pos:_}(h:Run c A (PySem.call (.builtin id) first) F V Q):Run c A (callWith pos (.builtin id) first (backTo pos (starEach [] env)) []) F V Q:=fun s S=>callWith_method0 (h s S)
theorem Run.Es {o:Expr}{args:List Expr}
  (h:Run c A (eval o env) F V (fun ov F1 V1=>∃T id,PlainAttrs T∧Slot T name id∧typeOf (.builtin id)=Pure.pure (.type "method_descriptor")∧
   (∀s,St c F1 V1 s→s.TypeIs ov T∧∀a,ov= .ref a→∃ob,s.heap.get? a=some ob∧ob.dict= .none)∧Run c A (callWith pos (.builtin id) [ov] (backTo pos (starEach args env)) []) F1 V1 Q))
  (hbase:attributeBase o name env (eval o env)=eval o env)
  (hfew:((backTo pos (starEach args env)).all (fun x=> !x.1) && (backToKw pos (keywordEach [] env)).all (fun x=>x.1.isSome)
   && decide (args.length+([]:List Keyword).length+(if ([]:List Keyword).isEmpty then 0 else 1)<30))=true)
  (hline:(apos.endLine==pos.line)=true):Run c A (eval (.Call (.Attribute o name apos) args [] pos) env) F V Q:=fun s S=>
 wpAny_Call_method_lateS hbase hfew hline ((Run.fu h S fun ov s1 F1 V1 S1 qz=>Lq qz fun T id a1 a2 a3 a4 a5=>HM T id a1 a2 a3 ((a4 s1 S1).1) ((a4 s1 S1).2) (a5 s1 S1)))
theorem Run.Yn {id:String}{t:String→Sem Value}(hl:Ad l (Ab vs) V) (slot:Slot "list" name id) (ty:typeOf (.builtin id)=Pure.pure (.type "method_descriptor")) (h:Run c A (t id) F V Q):
  ∃T i,PlainAttrs T∧Slot T name i∧typeOf (.builtin i)=Pure.pure (.type "method_descriptor")∧
   (∀s,St c F V s→s.TypeIs (.ref l) T∧∀a,Value.ref l= .ref a→∃ob,s.heap.get? a=some ob∧ob.dict= .none)∧Run c A (t i) F V Q:=
 (HL ("list") id PySem.F.plainAttrs_list slot ty (fun s S=>⟨(CD hl S).typeIs,fun a e=>by injection e with e;subst e;obtain⟨n,e⟩:=BW hl S;exact⟨_,e,rfl⟩⟩) h)
theorem Run.bAppend (hl:Aj l (Ab vs) (Ab (vs++[v])) V V') (hs:vs.length≤100000) (h:Q .none F V'):Run c A (PySem.call (.builtin "list.append") [.ref l,v]) F V Q:=.mk fun s S=>by
 refine Exists.elim (BW hl.has S) fun n e=>?_
 exact call_meets PySem.F.slot_list_append ⟨_,e,rfl⟩ PySem.F.entry_list_append (PySem.F.args_list_append_2 _ _) (list_append l vs.toArray n v (by rw[eY,eT];exact eb ‹_› (d7 rfl))) ⟨e,F,V',S.Fr hl _ (List.push_toArray ..),h⟩
theorem Run.Rj (hl:Aj l (Ab (vs++[v])) (Ab vs) V V') (hs:vs.length≤100000) (h:Q v F V'):Run c A (PySem.call (.builtin "list.pop") [.ref l]) F V Q:=.mk fun s S=>by
 refine Exists.elim (BW hl.has S) fun n e=>?_
 refine call_meets PySem.F.slot_list_pop ⟨_,e,rfl⟩ PySem.F.entry_list_pop (PySem.F.args_list_pop_1 _) (PySem.MeetsSeq.list_pop_last l (vs++[v]).toArray n v (by simp) (by simp only[eY,eT,eO];simp;exact eb ‹_› (d7 rfl))) ⟨e,F,V',S.Fr hl _ ?_,h⟩
 simp[Array.eraseIdxIfInBounds]
 rw[List.eraseIdx_append_of_length_le (eh _)];simp
theorem Run.A5 (hl:Ad l (Ab vs) V) (hs:vs.length≤100000) (h:∀t,Q (.int vs.length t) F V):Run c A (PySem.call (.builtin "len") [.ref l]) F V Q:=.mk fun s S=>
 call_len_list (CD hl S) (by rw[eY];lia) (Ae F V ⟨S.own,S.base,S.gens,S.os⟩ (by rw[eY];exact h _))
theorem Run.Bv {x:Str}(hs:x.length≤100000) (h:∀t,Q (.int x.length t) F V):Run c A (PySem.call (.builtin "len") [.str x u]) F V Q:=.mk fun s S=>
 PyProof.Rows.len_str (by lia) (Ae F V ⟨S.own,S.base,S.gens,S.os⟩ (h _))
theorem Run.tL (hl:Ad l (Ab vs) V) (hs:vs.length≤100000) (h:QB (!vs.isEmpty) F V):Run c A (truthy (.ref l)) F V QB:=.mk fun s S=>
 wpAny_truthy_list (CD hl S) (by rw[eY];lia) (Ae F V ⟨S.own,S.base,S.gens,S.os⟩ (by rw[List.isEmpty_toArray];exact h))
theorem Run.expr {e pos:_}(g:Gv env) (h:Run c A (eval e env) F V (fun _ F1 V1=>QF .next F1 V1)) (hs:swapsWith e .none pos.line env=Pure.pure false):
  Run c A (exec (.Expr e pos) env) F V QF:=fun s S=>
 wpAny_Expr_any (ej (h s S) (fun _ _ e=>e) fun _ _ e=>e) (by dsimp only[interactive];refine(g.kind)▸?_;rfl) hs
def AI (T:String) (a:Value) (i:Nat) (o:Obj):Prop:=o.cls= .type T∧o.data= .fields #[a,.int i 0]
def Fl (x left step:Int) (o:Obj):Prop:=o={cls:=.type "range_iterator",data:=.fields #[rawInt x,rawInt left,rawInt step]}
theorem StP.put (S:StP c F V s) (x:Aj l P P' V V') (hs:Heap.SameBut l s.heap h') (ho:∃o,h'.get? l=some o∧P' o):StP c F V' {s with heap:=h',toks:=k}:=
 ⟨S.own.put x hs ho,S.base,S.gens,S.os⟩
theorem Own.drop (O:Own F ((l,P)::V) h) (hx:Heap.ExtBut l h h'):Own F V h':=by
 have hl:=(O.own _ (.head _)).1
 have nd:=O.nod
 rw[eP,List.nodup_cons] at nd
 refine⟨fun a o e=>hx a o (fun q=>by simp only[q,hl] at e;contradiction) (O.fro a o e),fun p hp=>?_,nd.2⟩
 obtain⟨a,o,b,e⟩:=O.own p (.tail _ hp)
 exact⟨a,o,hx _ _ (fun q=>nd.1 (by have m:=ew (f:=Prod.fst) hp;simp only[q] at m;exact m)) b,e⟩
theorem Run.YL {x step:Int}(h0:0<left) (h:∀t,QO (some (.int x t)) F ((it,Fl (x+step) (left - 1) step)::V)):
  Run c A (pyNext (.ref it)) F ((it,Fl x left step)::V) QO:=.mk fun s S=>by
 refine Ag (S.own.get .head) fun o ho hd=>?_
 subst hd
 exact wpAny_pyNext_range_item ho h0 fun h' hi' hs'=>Ae F _ (S.put (P':=Fl (x+step) (left - 1) step) .head hs' ⟨_,hi',rfl⟩) (h _)
theorem Run.Te {x step:Int}(rm:Rm n A) (h0:left≤0) (h:QO Option.none F V):
  Run c A (pyNext (.ref it)) F ((it,Fl x left step)::V) QO:=.mk fun s S=>by
 refine Ag (S.own.get .head) fun o ho hd=>?_
 subst hd
 exact wpAny_pyNext_range_end rm.2.2 ho h0 fun h' hx=>Ae F V ⟨S.own.drop hx,S.base,S.gens,S.os⟩ h
theorem Run.YM {x:Str}(hv:x.cps[i]? =some k) (h:∀u,QO (some (.str ⟨#[k]⟩ u)) F ((it,AI "str_ascii_iterator" (.str x t) (i+1))::V)):
  Run c A (pyNext (.ref it)) F ((it,AI "str_ascii_iterator" (.str x t) i)::V) QO:=.mk fun s S=>by
 refine AX (S.own.get .head) fun o ho hc hd=>?_
 refine wpAny_pyNext_ascii_item ⟨o,ho,hc,hd⟩ hv fun h' hi' hs'=>Ae F _ (S.put .head hs' ?_) (h _)
 refine AX (hi') fun o' a b d=>?_
 exact⟨o',a,b,d⟩
theorem Run.Ly {x:Str}(rm:Rm n A) (hv:x.cps.size≤i) (h:QO Option.none F V):
  Run c A (pyNext (.ref it)) F ((it,AI "str_ascii_iterator" (.str x t) i)::V) QO:=.mk fun s S=>by
 refine AX (S.own.get .head) fun o ho hc hd=>?_
 exact wpAny_pyNext_ascii_end rm.2.2 (AE o ho hc hd) (by simpa using hv) fun h' hx=>Ae F V ⟨S.own.drop hx,S.base,S.gens,S.os⟩ h
theorem GO (t:Tu F a vs) (S:St c F V s):s.heap.IsTuple a vs.toArray:=AX (t) fun o e hc hd=>⟨o,S.own.fro _ _ e,hc,hd⟩
theorem Run.WO (hl:Ad l (Ab vs) V) (h:∀it,Q (.ref it) F ((it,AI "list_iterator" (.ref l) 0)::V)):Run c A (pyIter (.ref l)) F V Q:=.mk fun s S=>
 wpAny_pyIter_list (CD hl S) (Ae F _ (S.push (P:=AI "list_iterator" (.ref l) 0) (k:=s.toks) ⟨rfl,rfl⟩) (h _))
theorem Run.Nm {x:Str}(ha:x.cps.all (·<128)=true) (h:∀it,Q (.ref it) F ((it,AI "str_ascii_iterator" (.str x t) 0)::V)):Run c A (pyIter (.str x t)) F V Q:=.mk fun s S=>
 wpAny_pyIter_ascii ha (Ae F _ (S.push (P:=AI "str_ascii_iterator" (.str x t) 0) (k:=s.toks) ⟨rfl,rfl⟩) (h _))
def Fj (a b k:Int) (o:Obj):Prop:=∃t u v,o={cls:=.type "range",data:=.fields #[.int a t,.int b u,.int k v]}
theorem Run.GJ {target iter body orelse pos:_}(h:Run c A (eval iter env) F V (fun x F1 V1=>Run c A (pyIter x) F1 V1 (fun it F2 V2=>AA c A (.forLoop target it body orelse env) F2 V2 QF)))
  (hs:autoParam (∀x,foldedSetIterable iter env x=Pure.pure x) aI):Run c A (exec (.For target iter body orelse pos) env) F V QF:=fun s S=>
 wpAny_For ((Run.fu h S fun _ s1 _ _ S1 h1=>(Run.fu h1 S1 fun _ s2 _ _ S2 h2=>codeAny_mono (h2 s2 S2) fun _ _ qz=>EY qz fun f F' V' e S' q=>by refine e▸?_;exact Ae F' V' S' q))) hs
theorem Run.BA {x pos v:_}(h:Run c A (storeName env x v) F V QU):Run c A (assign (.Name x pos) env v) F V QU:=fun s S=>wpAny_assign_Name (h s S)
theorem VA {x:Str}{it:Value}{Q:Unit→Shared→Prop}(h:Q () s):wpAny (Mo c) A (letOwnedTupleGo (.Name x p) it v) Q E s:=d9 h
theorem Run.tup {elts k pos:_}(h:Run c A (spliced (backTo pos (starEach elts env))) F V (fun vs F1 V1=>vs.length≤1000∧∀a,Q (.ref a) F1 ((a,Dh vs)::V1))):Run c A (eval (.Tuple elts k pos) env) F V Q:=.mk fun s S=>
 wpAny_Tuple ((Run.fu h S fun vs s1 F1 V1 S1 qz=>EW qz fun h1 h2=>⟨by rw[eT];exact eb ‹_› (d7 rfl),F1,_,S1.push (P:=Dh vs) (k:=s1.toks) ⟨rfl,_,rfl⟩,h2 _⟩))
theorem Run.lst {elts pos:_}(h:Run c A (spliced (backTo pos (starEach elts env))) F V (fun vs F1 V1=>vs.length≤1000∧∀a,Q (.ref a) F1 ((a,Ab vs)::V1))):Run c A (eval (.List elts pos) env) F V Q:=.mk fun s S=>
 wpAny_List ((Run.fu h S fun vs s1 F1 V1 S1 qz=>EW qz fun h1 h2=>⟨by rw[eT];exact eb ‹_› (d7 rfl),F1,_,S1.push (P:=Ab vs) (k:=s1.toks) ⟨_,rfl⟩,h2 _⟩))
theorem Run.AY {α:Type}{m:Sem α}{Q:α→FM→Aa→Prop}(h:∀F',Le F F'→Tu F' a vs→Run c A m F' V Q):Run c A m F ((a,Dh vs)::V) Q:=
 Run.freeze fun F' o le ha hp=>h F' le (Ak o ha hp)
theorem Run.H0 (h:QV .none F V):Run c A (evalPart .none env) F V QV:=fun _ S=>d9 (Ae F V S h)
theorem Run.G4 (h:Run c A (eval e env) F V QV):Run c A (evalPart (some e) env) F V QV:=fun s S=>h s S
theorem part_of {i:Option Int}(p:IsPart v i):∃l:Option (Int×Tok),v=partValue l∧l.map (·.1)=i:=by
 induction p with
 |none=>exact⟨.none,rfl,rfl⟩
 |int i t=>exact⟨some (i,t),rfl,rfl⟩
inductive SlT (QV:Value→Prop) (o l u:Value):Prop
 |mk (x t i j:_):o= .str x t→IsPart l i→IsPart u j→x.length≤100000→(∀k,QV (.str (Txt.slice x i j) k))→SlT QV o l u
theorem Run.aZ {lo hi:Option Expr}
  (h:Run c A (eval value env) F V (fun o F1 V1=>Run c A (evalPart lo env) F1 V1 (fun l F2 V2=>Run c A (evalPart hi env) F2 V2 (fun u F3 V3=>SlT (fun v=>Q v F3 V3) o l u))))
  (ht:∀o r,letTemporaryGo value o r=(Pure.pure ():Sem Unit):=by intro _ _;rfl):Run c A (eval (.Subscript value (.Slice lo hi .none p) pos) env) F V Q:=.mk fun s S=>
 wpAny_Subscript_str_slice (Run.fu h S fun o s1 _ _ S1 h1=>Run.fu h1 S1 fun l s2 _ _ S2 h2=>Run.fu h2 S2 fun u s3 F3 V3 S3 q=>q.casesOn fun x t i j e pl pu hx q=>by
  obtain⟨l',rfl,rfl⟩:=part_of pl
  obtain⟨u',rfl,rfl⟩:=part_of pu
  exact Ep x t l' u' e rfl rfl (post_val_or_str ⟨eb (Txt.slice_le x _ _) (by rw[eT];exact eb ‹_› (d7 rfl)),fun t' k=>⟨F3,V3,S3.push' (k:=k),q t'⟩⟩)) ht
def Ki (c:Cx) (F:FM) (V:Aa) (a:Addr) (vs:List Value):Prop:=∀s,St c F V s→s.heap.IsList a vs.toArray
inductive SlQ (L:Addr→List Value→Prop) (QA:Addr→List Value→Prop) (o l u z:Value):Prop
 |mk (a vs i j k:_):o= .ref a→L a vs→IsPart l i→IsPart u j→IsPart z k→k≠some 0→vs.length≤100000→(∀b,QA b (slicePick vs.toArray i j k).toList)→SlQ L QA o l u z
theorem sl2 (S:St c F V s) (l u z:Value) (r:Array Value) {b:Addr}(hb:b=(s.heap.push {cls:=.type "slice",data:=.fields #[l,u,z]}).objs.size):
  StP c F ((b,Ab r.toList)::V) {s with heap:=(s.heap.push {cls:=.type "slice",data:=.fields #[l,u,z]}).push {cls:=.type "list",data:=.seq r}}:=hb▸(S.toStP.push' (k:=s.toks)).push (k:=s.toks) ⟨_,rfl⟩
theorem Run.OX {lo hi:Option Expr}
  (h:Run c A (eval value env) F V (fun o F1 V1=>Run c A (evalPart lo env) F1 V1 (fun l F2 V2=>Run c A (evalPart hi env) F2 V2 (fun u F3 V3=>SlQ (Ki c F3 V3) (fun b ws=>Q (.ref b) F3 ((b,Ab ws)::V3)) o l u .none))))
  (ht:∀o r,letTemporaryGo value o r=(Pure.pure ():Sem Unit):=by intro _ _;rfl):Run c A (eval (.Subscript value (.Slice lo hi .none p) pos) env) F V Q:=.mk fun s S=>
 wpAny_Subscript_list_slice (Run.fu h S fun o s1 _ _ S1 h1=>Run.fu h1 S1 fun l s2 _ _ S2 h2=>Run.fu h2 S2 fun u s3 F3 V3 S3 q=>q.casesOn fun a vs i j k e hl pl pu pz hz hx q=>by
  rcases pz with _|_
  exact⟨a,vs.toArray,i,j,e,hl _ S3,by rw[eY,eT];exact eb ‹_› (d7 rfl),pl,pu,F3,_,sl2 S3 _ _ _ _ (Heap.size_push ..).symm,q _⟩) ht
theorem Run.Ey {n:Int}(h:∀r,Q (.ref r) F ((r,Fj 0 n 1)::V)):Run c A (PySem.call (.type "range") [.int n t]) F V Q:=.mk fun s S=>
 call_range_1 (Ae F _ (S.push (P:=Fj 0 n 1) (k:=s.toks+1+1) ⟨_,_,_,rfl⟩) (h _))
theorem Run.H4 {a b:Int}(h:∀r,Q (.ref r) F ((r,Fj a b 1)::V)):Run c A (PySem.call (.type "range") [.int a t,.int b u]) F V Q:=.mk fun s S=>
 call_range_2 (Ae F _ (S.push (P:=Fj a b 1) (k:=s.toks+1) ⟨_,_,_,rfl⟩) (h _))
theorem Run.SF {rest:List Expr}{pos:_}(h:Run c A (spliced (backTo pos (starEach (e::rest) env))) F V (fun vs F1 V1=>Run c A (PySem.call (.type T) vs) F1 V1 Q))
  (he:autoParam (starEach (e::rest) env=(false,eval e env)::starEach rest env) aR) (hplain:autoParam ((backTo pos (starEach rest env)).any (·.1)=false) aR):
  Run c A (callWith pos (.type T) [] (backTo pos (starEach (e::rest) env)) []) F V Q:=fun s S=>
 PyProof.Rows.callWith_type1 ((Run.fu h S fun _ s1 _ _ S1 h1=>h1 s1 S1)) he hplain
theorem Run.SG {pos:_}(h:Run c A (PySem.call (.type T) []) F V Q):Run c A (callWith pos (.type T) [] (backTo pos (starEach [] env)) []) F V Q:=fun s S=>PyProof.Rows.callWith_type0 (h s S)
theorem Run.H5 {a b k:Int}{v:Tok}(hk:k≠0) (hp:Builtin.divisionGoesByPylong (b - a) k=false) (h:∀r,Q (.ref r) F ((r,Fj a b k)::V)):Run c A (PySem.call (.type "range") [.int a t,.int b u,.int k v]) F V Q:=.mk fun s S=>
 call_range_3 hk (Ae F _ (S.push (P:=Fj a b k) (k:=s.toks) ⟨_,_,_,rfl⟩) (h _)) (.inl hp)
theorem Run.Fb {id:String}{x:Str}{t:String→Sem Value}(slot:Slot "str" name id) (ty:typeOf (.builtin id)=Pure.pure (.type "method_descriptor")) (h:Run c A (t id) F V Q):
  ∃T i,PlainAttrs T∧Slot T name i∧typeOf (.builtin i)=Pure.pure (.type "method_descriptor")∧
   (∀s,St c F V s→s.TypeIs (.str x u) T∧∀a,Value.str x u= .ref a→∃ob,s.heap.get? a=some ob∧ob.dict= .none)∧Run c A (t i) F V Q:=
 (HL ("str") id PySem.F.plainAttrs_str slot ty (fun s _=>⟨typeIs_str _ _ _,fun a e=>by contradiction⟩) h)
section
open PySem PySem.W PySem.Calls PyProof.Rows PySem.Builtin PySem.Builtin.Str
theorem Run.Iz {elts k tpos value pos:_}(h:Run c A (eval value env) F V (fun v F1 V1=>Run c A (assign (.Tuple elts k tpos) env v) F1 V1 (fun _=>QF .next)))
  (hs:swapsWithSole [.Tuple elts k tpos] value pos.line env=Pure.pure false) (hw:swappedStores [.Tuple elts k tpos] value env=Pure.pure .none):
  Run c A (exec (.Assign [.Tuple elts k tpos] value pos) env) F V QF:=fun s S=>
 Assign_Tuple ((Run.fu h S fun _ s1 _ _ S1 h1=>h1 s1 S1)) hs hw
theorem Run.Q9 {elts k tpos value pos:_}(h:Run c A (eval value env) F V (fun v F1 V1=>Run c A (unpackItems v names.length .none) F1 V1 (fun items F2 V2=>Run c A (assignInOrder (names.reverse.map fun n=>bindName env n) items.reverse) F2 V2 (fun _=>QF .next))))
  (hs:swapsWithSole [.Tuple elts k tpos] value pos.line env=Pure.pure false) (hw:swappedStores [.Tuple elts k tpos] value env=Pure.pure (some names)):
  Run c A (exec (.Assign [.Tuple elts k tpos] value pos) env) F V QF:=fun s S=>
 Assign_Tuple_swapped ((Run.fu h S fun _ s1 _ _ S1 h1=>(Run.fu h1 S1 fun _ s2 _ _ S2 h2=>h2 s2 S2))) hs hw
theorem Own.LF (O:Own F V h) (hx:Heap.ExtBut h.objs.size h h'):Own F V h':=by
 have lt:∀{a:Addr}{x:Obj},h.get? a=some x→a≠h.objs.size:=fun e=>eG (eE e)
 exact⟨fun a o e=>hx a o (lt (O.fro a o e)) (O.fro a o e),fun p hp=>let⟨a,o,b,e⟩:=O.own p hp;⟨a,o,hx _ _ (lt b) b,e⟩,O.nod⟩
theorem Run.dY {t:Addr}(rm:Rm k A) (ht:Tu F t vs) (hn:vs.length=n) (h:QL vs F V):Run c A (unpackItems (.ref t) n .none) F V QL:=.mk fun s S=>by
 subst hn
 rw[show vs.length=vs.toArray.size by simp]
 exact wpAny_unpackItems_tuple rm.2.2 (GO ht S) fun h' hx=>Ae F V ⟨S.own.LF hx,S.base,S.gens,S.os⟩ h
theorem Run.Iy {elts k p:_}{t:Addr}(rm:Rm n A) (ht:Tu F t vs) (hn:(assignEach elts env).length=vs.length) (hstar:(assignEach elts env).findIdx? (·.1)= .none)
  (h:Run c A (assignInOrder ((assignEach elts env).map (·.2)) vs) F V QU):Run c A (assign (.Tuple elts k p) env (.ref t)) F V QU:=fun s S=>
 wpAny_assign_Tuple rm.2.2 (GO ht S) hn hstar fun h' hx=>h {s with heap:=h'} ⟨⟨S.own.LF hx,S.base,S.gens,S.os⟩,S.tk⟩
theorem Run.Gj (h:QU () F V):Run c A (assignInOrder [] vs) F V QU:=fun s S=>by
 rcases vs with _|_<;>exact d9 (Ae F V S h)
theorem Run.Ck {f:Value→Sem Unit}{fs:List (Value→Sem Unit)}(h:Run c A (f v) F V (fun _ F1 V1=>Run c A (assignInOrder fs vs) F1 V1 QU)):Run c A (assignInOrder (f::fs) (v::vs)) F V QU:=fun s S=>
 wpAny_assignInOrder_more ((Run.fu h S fun _ s1 _ _ S1 h1=>h1 s1 S1))
theorem Own.keeps (O:Own F V h) (hk:∀b o,h.get? b=some o→h'.get? b=some o):Own F V h':=
 ⟨fun a o e=>hk _ _ (O.fro a o e),fun p hp=>let⟨a,o,b,e⟩:=O.own p hp;⟨a,o,hk _ _ b,e⟩,O.nod⟩
theorem Run.min2 {a b:Int}(rm:Rm n A) (h:∀k,Q (.int (min a b) k) F V):Run c A (PySem.call (.builtin "min") [.int a t,.int b u]) F V Q:=.mk fun s S=>
 min_two_ints rm.2.2 fun h' tk hk=>by
  have S':StP c F V {s with heap:=h',toks:=tk}:=⟨S.own.keeps hk,S.base,S.gens,S.os⟩
  by_cases q:b<a
  ·have e:min a b=b:=Int.min_eq_right (Int.le_of_lt ‹_›)
   rw[e] at h
   simpa only[if_pos q] using ⟨F,V,S',h _⟩
  ·have e:min a b=a:=by lia
   rw[e] at h
   simpa only[if_neg q] using ⟨F,V,S',h _⟩
section
variable {x:Str}
theorem Run.Rd (h:∀k,Q (.int (Txt.find x y) k) F V):Run c A (PySem.call (.builtin "str.find") [.str x t,.str y u]) F V Q:=.mk fun s S=>PySem.SC.find (Ae F V ⟨S.own,S.base,S.gens,S.os⟩ (h _))
theorem Run.KT {ys:List (Str×Tok)}{texts:List Str}(hl:Ad l (Ab (strValues ys)) V) (ht:ys.map (·.1)=texts) (hok:JoinOk x texts=true) (h:∀k,Q (.str (Txt.join x texts) k) F V):
  Run c A (PySem.call (.builtin "str.join") [.str x t,.ref l]) F V Q:=.mk fun s S=>
 PySem.SC.join (CD hl S) ht hok fun t' k=>Ae F V ⟨S.own,S.base,S.gens,S.os⟩ (h _)
end
end
section
open PySem PySem.W PySem.Calls PyProof.Rows PySem.SeqAt PySem.SeqAt PySem.MeetsSeq
theorem Run.E2 {b:Addr}(rm:Rm n A) (hl:Ad l (Ab vs) V) (hb:Ad b (Ab []) V) (h:Q (.bool vs.isEmpty) F V):Run c A (compareOp .Eq (.ref l) (.ref b)) F V Q:=fun s S=>by
 obtain⟨k1,e1⟩:=BW hl S
 obtain⟨k2,e2⟩:=BW hb S
 refine(?_:wpAny _ _ (richCompare .Eq (.ref l) (.ref b)) _ _ s)
 refine wpAny_richCompare_same_room (op:=.Eq) (T:="list") e1.isList.typeIs e2.isList.typeIs PySem.F.slot_list_eq ?_ (by have:=rm.2.1;refine(?_:A.units<9900);exact CX ‹_› rfl)
 induction vs with
 |nil=>exact call_meets PySem.F.slot_list_eq e1.isList.typeIs PySem.F.entry_list_eq (PySem.F.args_list_eq_2 _ _) (list_eqAt l b _ _ k1 k2 _ _ _ _ rfl fun _=>true) ⟨e1,e2,fun j h1=>absurd h1 (Nat.not_lt_zero _),by decide,F,V,S,h⟩
 |cons v vs=>exact call_meets PySem.F.slot_list_eq e1.isList.typeIs PySem.F.entry_list_eq (PySem.F.args_list_eq_2 _ _) (list_eq_lengthsAt l b _ _ k1 k2 _ _ _ _ rfl) ⟨e1,e2,by decide,F,V,S,h⟩
theorem Run.Ff {b:Addr}(rm:Rm n A) (hl:Ad l (Ab vs) V) (hb:Ad b (Ab []) V) (h:Q (.bool (!vs.isEmpty)) F V):Run c A (compareOp .NotEq (.ref l) (.ref b)) F V Q:=fun s S=>by
 obtain⟨k1,e1⟩:=BW hl S
 obtain⟨k2,e2⟩:=BW hb S
 refine(?_:wpAny _ _ (richCompare .NotEq (.ref l) (.ref b)) _ _ s)
 refine wpAny_richCompare_same_room (op:=.NotEq) (T:="list") e1.isList.typeIs e2.isList.typeIs PySem.F.slot_list_ne ?_ (by have:=rm.2.1;refine(?_:A.units<9900);exact CX ‹_› rfl)
 induction vs with
 |nil=>exact call_meets PySem.F.slot_list_ne e1.isList.typeIs PySem.F.entry_list_ne (PySem.F.args_list_ne_2 _ _) (list_neAt l b _ _ k1 k2 _ _ _ _ rfl fun _=>true) ⟨e1,e2,fun j h1=>absurd h1 (Nat.not_lt_zero _),by decide,F,V,S,h⟩
 |cons v vs=>exact call_meets PySem.F.slot_list_ne e1.isList.typeIs PySem.F.entry_list_ne (PySem.F.args_list_ne_2 _ _) (list_ne_lengthsAt l b _ _ k1 k2 _ _ _ _ rfl) ⟨e1,e2,by decide,F,V,S,h⟩
end
def Ls (F:FM) (a:Addr) (vs:List Value):Prop:=∃o,F a=some o∧Ab vs o
theorem Ls.le {a vs:_}(x:Ls F a vs) (h:Le F F'):Ls F' a vs:=Ag (x) fun o e p=>⟨o,h _ _ e,p⟩
theorem DU (x:Ls F l vs) (S:St c F V s):∃n,IsL s.heap l vs.toArray n:=by
 obtain⟨o,e,n,hd⟩:=x
 subst hd
 exact⟨n,S.own.fro _ _ e⟩
theorem Run.DW (hl:Ls F l vs) (hs:vs.length≤100000) (h:∀t,Q (.int vs.length t) F V):Run c A (PySem.call (.builtin "len") [.ref l]) F V Q:=.mk fun s S=>by
 refine Exists.elim (DU hl S) fun n e=>?_
 exact call_len_list e.isList (by rw[eY];lia) (Ae F V ⟨S.own,S.base,S.gens,S.os⟩ (by rw[eY];exact h _))
theorem Run.GP {slice:Expr}{k:Int}(hl:Ls F l vs) (hk:k=i) (hf:k<2 ^ 63) (hv:vs[i]? =some v) (h:Q v F V)
  (hs:autoParam (subscripted slice false (.ref l) (.int k t)=operate [.ref l,.int k t] (getItem (.ref l) (.int k t))) aU):
  Run c A (subscriptTail value slice (.ref l) (.int k t)) F V Q:=fun s S=>by
 refine Exists.elim (DU hl S) fun n e=>?_
 exact tail_any e.isList.typeIs slot_list_getitem.lookup (wpAny_getItem_list (x:=v) e.isList (by lia) hf (by rw[hk];simpa using hv) (Ae F V S h)) hs
theorem Run.WP (hl:Ls F l vs) (h:∀it,Q (.ref it) F ((it,AI "list_iterator" (.ref l) 0)::V)):Run c A (pyIter (.ref l)) F V Q:=.mk fun s S=>by
 refine Exists.elim (DU hl S) fun n e=>?_
 exact wpAny_pyIter_list e.isList (Ae F _ (S.push (P:=AI "list_iterator" (.ref l) 0) (k:=s.toks) ⟨rfl,rfl⟩) (h _))
theorem Run.YJ (hl:Ls F l vs) (hv:vs[i]? =some v) (h:QO (some v) F ((it,AI "list_iterator" (.ref l) (i+1))::V)):
  Run c A (pyNext (.ref it)) F ((it,AI "list_iterator" (.ref l) i)::V) QO:=.mk fun s S=>by
 obtain⟨n,e⟩:=DU hl S
 refine AX (S.own.get .head) fun o ho hc hd=>?_
 refine wpAny_pyNext_list_item (x:=v) (AE o ho hc hd) e.isList (by simpa using hv) fun h' hi' hs'=>Ae F _ (S.put .head hs' ?_) h
 refine AX (hi') fun o' a b d=>?_
 exact⟨o',a,b,d⟩
theorem Run.Td (rm:Rm n A) (hl:Ls F l vs) (hv:vs.length≤i) (h:QO Option.none F V):
  Run c A (pyNext (.ref it)) F ((it,AI "list_iterator" (.ref l) i)::V) QO:=.mk fun s S=>by
 obtain⟨n,e⟩:=DU hl S
 refine AX (S.own.get .head) fun o ho hc hd=>?_
 exact wpAny_pyNext_list_end rm.2.2 (AE o ho hc hd) e.isList (by simpa using hv) fun h' hx=>Ae F V ⟨S.own.drop hx,S.base,S.gens,S.os⟩ h
def RO (v:Option Value) (o:Obj):Prop:=o.data= .cell v
structure Cl (env:Env) (x:Str) (a:Addr):Prop where
 kind:env.scope.names.lookup x=some .cell
 at_:env.cells.lookup x=some a
 dbg:(x==("__debug__":Str))=false
noncomputable def A6 (env:Env):List Str→List Addr→Prop
 |[],[]=>True
 |x::xs,a::as=>Cl env x a∧A6 env xs as
 |_,_=>False
noncomputable def DJ:List Addr→List (Option Value)→Aa→Aa
 |a::as,v::vs,V=>(a,RO v)::DJ as vs V
 |_,_,V=>V
section
variable {x:Str}
end
theorem cellsFrom_some {x:Str}:∀(names:List (Str×NameKind)) (n:Nat) (acc:List (Str×Addr)),((x,NameKind.cell) ∈ names∨(acc.lookup x).isSome=true)→((cellsFrom n names acc).lookup x).isSome=true
 |[],n,acc,h=>by
  rcases h with h|h
  ·contradiction
  ·exact h
 |(y,k)::r,n,acc,h=>by
  dsimp only[cellsFrom]
  split
  ·refine cellsFrom_some r _ _ ?_
   rcases h with h|h
   ·rcases fj h with e|h
    ·injection e with e;subst e
     right;simp
    ·exact .inl h
   ·right
    simp only[List.lookup_cons]
    split
    ·rfl
    ·exact h
  ·rename_i hk
   refine cellsFrom_some r _ _ ?_
   rcases h with h|h
   ·rcases fj h with e|h
    ·cases e;simp at hk
    ·exact .inl h
   ·exact .inr h
noncomputable def Y8 (fd:FuncData) (cs:List Str):Bool:=decide cs.Nodup && cs.all fun x=>fd.scope.names.contains (x,NameKind.cell) && fd.scope.names.lookup x==some .cell && !(x==("__debug__":Str))
noncomputable def FU (fd:FuncData) (ks cs bs:List Str):Bool:=decide ks.Nodup && ks.all (fun x=>fd.scope.names.lookup x==some .local && !(x==("__debug__":Str))) && Y8 fd cs && bs.all (ks++cs).contains && fd.closure.isEmpty
noncomputable def Cb (fd:FuncData) (x:Str):Option NameKind:=fd.scope.names.lookup x
theorem call_cells {R:Result→Shared→Prop}
  (hroom:A.depth<recursionLimit) (ho:s.heap.get? a=some o) (hdata:o.data= .func fd) (hlim:s.heap.NoLimit) (hcd:s.heap.CodeRec fd.code fd.qualname)
  (hbody:fd.body= .stmts body) (hbind:bindArgs fd ⟨vals,[]⟩=Pure.pure binds) (hclo:fd.closure=[])
  (hkind:∀x ∈ binds,fd.scope.names.lookup x.1=some .local∨(fd.scope.names.lookup x.1=some .cell∧((cellsFrom (s.heap.objs.size+1) fd.scope.names []).lookup x.1).isSome=true))
  (h:∀s₁,InCallC s (callEnvC fd s.heap.objs.size a).locals (bindL (callEnvC fd s.heap.objs.size a).kindOf binds fun _=>none) (callEnvC fd s.heap.objs.size a).cells
    (bindC (callEnvC fd s.heap.objs.size a).kindOf binds fun _=>none) s₁→s.toks≤s₁.toks→
   wpAny (model prog w) (A.deeper (callEnvC fd s.heap.objs.size a)) (execs body (callEnvC fd s.heap.objs.size a)) (fun f s'=>R (.ok (.ret (match f with| .ret v=>v|_=>.none))) s')
    (fun e s'=>wpAny (model prog w) (A.deeper (callEnvC fd s.heap.objs.size a)) (leaving (callEnvC fd s.heap.objs.size a) e) (fun _ s''=>R (.error e) s'') (fun e' s''=>R (.error e') s'') s') s₁)
  (hco:autoParam (fd.scope.isCoroutine=false) aR) (hgen:autoParam (fd.scope.isGenerator=false) aR) (hk:autoParam (fd.scope.kind= .function) aR):
  codeAny (model prog w) A (.call (.ref a) ⟨vals,[]⟩) R s:=by
 refine codeAny_call_function hroom ho hdata hco hgen hbody hcd ?_
 rw[hbind,hclo]
 refine d9 (ej (wpAny_toks (wpAny_newFunctionEnv_cells (Q:=fun env s'=>env=callEnvC fd s.heap.objs.size a∧InCallC s (callEnvC fd s.heap.objs.size a).locals (bindL (callEnvC fd s.heap.objs.size a).kindOf binds fun _=>none) (callEnvC fd s.heap.objs.size a).cells
    (bindC (callEnvC fd s.heap.objs.size a).kindOf binds fun _=>none) s') hk hkind fun env he s' x=>⟨he,by subst he;exact x⟩)) (fun env s' ⟨⟨he,x⟩,le⟩=>?_) fun _ _ e=>e.1)
 rw[he]
 exact⟨hlim.keeps x.toInCall.keep,codeAny_func (h s' x le)⟩
theorem AM.HB {R:Value→FM→Aa→Prop}(ks cs gs:List Str) (m:Fm) (ms:List (Option Value))
  (rm:Rm (n+1) A) (fn:Fun c a fd) (hbind:bindArgs fd ⟨vals,[]⟩=(Pure.pure binds:Sem _)) (hok:FU fd ks cs (binds.map (·.1))=true) (hg:Cs fd gs=true)
  (hm:m=ks.map fun k=>(k,bindL (Cb fd) binds (fun _=>none) k)) (hms:ms=cs.map fun k=>bindC (Cb fd) binds (fun _=>none) k)
  (h:∀L A' env ks as,Rm n A'→Loc env L ks→Gv env→Gb env gs→A6 env cs as→env.code=fd.code→env.qual=fd.qualname++".<locals>."→Run c A' (execs (bodyOf fd) env) F ((L,Cq ks m)::DJ as ms V) (fin R)):
  AM c A (.call (.ref a) ⟨vals,[]⟩) F V R:=by
 refine And.elim (fun hok hcl=>?_) (fi hok)
 obtain⟨hok,hbs⟩:=fi hok
 obtain⟨hok,hcs⟩:=fi hok
 obtain⟨hnd,hks⟩:=fi hok
 have hnd:=ee hnd
 have hal:∀x ∈ ks,fd.scope.names.lookup x=some .local∧(x==("__debug__":Str))=false:=fun x hx=>by
  refine And.elim (fun e1 e2=>?_) (fi (fk hks x hx))
  exact⟨eq_of_beq e1,by simpa using e2⟩
 obtain⟨hcnd,hcs⟩:=fi hcs
 have hcnd:=ee hcnd
 have hcal:∀x ∈ cs,(x,NameKind.cell) ∈ fd.scope.names∧fd.scope.names.lookup x=some .cell∧(x==("__debug__":Str))=false:=fun x hx=>by
  refine And.elim (fun e0 e2=>?_) (fi (fk hcs x hx))
  refine And.elim (fun e0 e1=>?_) (fi e0)
  exact⟨by simpa using e0,eq_of_beq e1,by simpa using e2⟩
 have hclo:fd.closure=[]:=by simpa using hcl
 obtain⟨b,hbody⟩:=fn.stm
 refine Ag (fn.at_) fun o h1 h2=>?_
 refine E0 (fn.cd) fun d ob vs t e1 e2 e3 e4=>?_
 intro s S
 have hkind:∀x ∈ binds,fd.scope.names.lookup x.1=some .local∨(fd.scope.names.lookup x.1=some .cell∧((cellsFrom (s.heap.objs.size+1) fd.scope.names []).lookup x.1).isSome=true):=fun x hx=>by
  have:=fk hbs x.1 (ew hx)
  rcases List.mem_append.mp (by simpa using this:x.1 ∈ ks++cs) with q|q
  ·exact .inl (hal _ q).1
  ·exact .inr ⟨(hcal _ q).2.1,cellsFrom_some _ _ _ (.inl (hcal _ q).1)⟩
 refine call_cells (by have:=rm.1;refine(?_:A.depth<1000);lia) (S.own.fro _ _ (S.base _ _ h1)) h2 (c.lim _ fun a o e=>S.own.fro _ _ (S.base _ _ e)) (Ep d ob vs t e1 (S.own.fro _ _ (S.base _ _ e2)) e3 e4) hbody hbind hclo hkind ?_ fn.co fn.gen fn.kind
 intro s₁ X htk
 generalize henv:callEnvC fd s.heap.objs.size a=env at X⊢
 have hkf:env.kindOf=Cb fd:=by refine henv▸?_;rfl
 have hL:env.locals=s.heap.objs.size:=by refine henv▸?_;rfl
 have hec:env.cells=cellsFrom (s.heap.objs.size+1) fd.scope.names []:=by refine henv▸?_;rfl
 have hsc:env.scope=fd.scope:=by refine henv▸?_;rfl
 replace X:=(hkf)▸X
 have lt:∀{a:Addr}{x:Obj},s.heap.get? a=some x→a<s.heap.objs.size:=fun e=>eE e
 have hnone:∀a,s.heap.objs.size≤a→F a=none:=fun a ha=>by
  cases e:F a with
  |none=>rfl
  |some x=>exact absurd (lt (S.own.fro _ _ e)) (Nat.not_lt.mpr ha)
 refine GA (X.toInCall.same) fun hh tk hs1=>?_
 have S1:St c F V s₁:=by
  refine⟨⟨⟨fun a x e=>X.toInCall.keep _ _ (S.own.fro a x e),fun p hp=>?_,S.own.nod⟩,S.base,?_,?_⟩,ea S.tk htk⟩
  ·obtain⟨y,z,e,q⟩:=S.own.own p hp
   exact⟨y,z,X.toInCall.keep _ _ e,q⟩
  ·rw[hs1];exact S.gens
  ·rw[hs1];exact S.os
 have key:∀xs:List Str,xs.Nodup→(∀x ∈ xs,x ∈ cs)→∃as:List Addr,A6 env xs as∧Own F (DJ as (xs.map fun k=>bindC (Cb fd) binds (fun _=>none) k) V) s₁.heap∧∀p ∈ DJ as (xs.map fun k=>bindC (Cb fd) binds (fun _=>none) k) V,p ∈ V∨∃x ∈ xs,env.cells.lookup x=some p.1:=by
  intro xs
  induction xs with
  |nil=>exact fun _ _=>AE ([]) trivial S1.own (fun p hp=>.inl hp)
  |cons x xs ih=>
   intro nd hin
   rw[List.nodup_cons] at nd
   refine AX (ih nd.2 fun y hy=>hin y (.tail _ hy)) fun as i1 i2 i3=>?_
   refine Bj (hcal x (hin x (.head _))) fun g1 g2 g3=>?_
   obtain⟨a,ha⟩:=Option.isSome_iff_exists.mp (cellsFrom_some fd.scope.names (s.heap.objs.size+1) [] (.inl g1))
   have ha':env.cells.lookup x=some a:=by rw[hec];exact ha
   have hla:=X.above x a (mem_of_lookup ha')
   replace hla:=(hL)▸hla
   refine AE (a::as) ⟨⟨hsc▸g2,ha',g3⟩,i1⟩ ⟨i2.fro,fun p hp=>?_,?_⟩ (fun p hp=>?_)
   ·rcases fj hp with rfl|hp
    ·refine Ag (X.cell x a ha') fun o' q1 q2=>?_
     exact⟨hnone _ (ec hla),o',q1,q2⟩
    ·exact i2.own p hp
   ·refine(?_:List.Nodup (a::_))
    rw[List.nodup_cons]
    refine⟨fun hm=>?_,i2.nod⟩
    refine Ag (List.mem_map.mp hm) fun p hp e=>?_
    rcases i3 p hp with hp|⟨y,hy,hy2⟩
    ·obtain⟨_,z,e',q⟩:=S.own.own p hp
     exact absurd (lt e') (Nat.not_lt.mpr (by simp only[e];exact ec hla))
    ·have hxy:x=y:=name_of_addr X.apart (mem_of_lookup ha') (by refine(e)▸?_;exact mem_of_lookup hy2)
     exact nd.1 (hxy▸hy)
   ·rcases fj hp with rfl|hp
    ·exact .inr (Ak x (.head _) ha')
    ·rcases i3 p hp with q|⟨y,hy,hy2⟩
     ·exact .inl q
     ·exact .inr ⟨y,.tail _ hy,hy2⟩
 refine AX (key cs hcnd fun _ hx=>hx) fun as i1 i2 i3=>?_
 rw[←hms] at i2 i3
 have S':St c F ((s.heap.objs.size,Cq ks m)::DJ as ms V) s₁:=by
  refine⟨⟨⟨i2.fro,fun p hp=>?_,?_⟩,S1.base,S1.gens,S1.os⟩,S1.tk⟩
  ·rcases fj hp with rfl|hp
   ·refine Cm (X.toInCall.ns) fun o' es ep g1 g2 g3 g4=>?_
    refine⟨hnone _ (eh _),o',hL▸g1,?_,hnd,es,ep,g2,g3,fun p hp=>?_⟩
    ·simp only[hm,e8]
     exact List.map_id _
    ·rw[g4]
     rw[hm] at hp
     obtain⟨k, -,rfl⟩:=List.mem_map.mp hp
     rfl
   ·exact i2.own p hp
  ·rw[eP,List.nodup_cons]
   refine⟨fun hm'=>?_,i2.nod⟩
   refine Ag (List.mem_map.mp hm') fun p hp e=>?_
   have e:p.1=s.heap.objs.size:=e
   rcases i3 p hp with hp|⟨y,hy,hy2⟩
   ·obtain⟨_,z,e',q⟩:=S.own.own p hp
    exact absurd (lt e') (Nat.not_lt.mpr (by simp only[e];exact eh _))
   ·have:=X.above y p.1 (mem_of_lookup hy2)
    simp only[hL,e] at this
    exact absurd this (Nat.lt_irrefl _)
 have hbo:bodyOf fd=b:=by unfold bodyOf;rw[hbody]
 have:=h s.heap.objs.size (A.deeper env) env ks as (rm.deeper env) ⟨hsc▸fn.kind,fun x hx=>hsc▸(hal x hx).1,fun x hx=>(hal x hx).2,hL⟩ ⟨hsc▸fn.kind,by refine henv▸?_;exact fn.gl,by refine henv▸?_;exact fn.bl⟩ (Jj hg hsc) i1 (by refine henv▸?_;rfl) (by refine henv▸?_;rfl) _ S'
 rw[hbo] at this
 exact ej this (fun f s' qz=>BH qz fun F' V' S'' k=>by
  refine Bk (k _ S''.own) fun F1 W le O r=>?_
  exact⟨_,F1,W,rfl,⟨⟨O,Le.trans S''.base le,S''.gens,S''.os⟩,S''.tk⟩,_,rfl,r⟩) fun _ _ e=>e.elim
theorem IJ (f:Str×NameKind→List (Str×Addr)→Sem (ForInStep (List (Str×Addr))))
  (hf:∀name kind acc,f (name,kind) acc=if (kind== .free)=true then(do let a ←cellOf env name;Pure.pure (ForInStep.yield ((name,a)::acc))) else Pure.pure (ForInStep.yield acc)):
  ∀(names:List (Str×NameKind)) (as:List Addr) (acc:List (Str×Addr)),A6 env ((names.filter fun x=>x.2== .free).map (·.1)) as→
   forIn names acc f=(Pure.pure (((((names.filter fun x=>x.2== .free).map (·.1)).zip as).reverse)++acc):Sem (List (Str×Addr)))
 |[],as,acc,h=>by
  induction as with
  |nil=>rfl
  |cons=>exact h.elim
 |(n,k)::r,as,acc,h=>by
  simp only[e7,hf]
  cases hk:k==NameKind.free with
  |false=>
   rw[List.filter_cons_of_neg (by simp[hk])] at h⊢
   exact IJ f hf r as acc h
  |true=>
   rw[List.filter_cons_of_pos (by simp[hk])] at h⊢
   induction as with
   |nil=>exact h.elim
   |cons a as=>
    refine EW (h) fun h1 h2=>?_
    have e:cellOf env n=Pure.pure a:=by unfold cellOf;rw[h1.at_]
    simp only[if_true,e,pure_bind]
    simp only[IJ f hf r as _ h2]
    simp
theorem So (e:(scope.names.filter fun x=>x.2== .free).map (·.1)=fr) (h:A6 env fr as):closureFor scope env=Pure.pure (fr.zip as).reverse:=by
 subst e
 unfold closureFor
 have q:=IJ (env:=env) (fun x __s=>match x with
     |(name,kind)=>if (kind==NameKind.free)=true then(do let a ←cellOf env name;Pure.pure (ForInStep.yield ((name,a)::__s))) else Pure.pure (ForInStep.yield __s)) (fun n k acc=>rfl) scope.names as [] h
 rw[eJ] at q
 exact(congrArg (fun t=>t>>=fun a=>(Pure.pure a:Sem _)) q).trans (pure_bind _ _)
noncomputable def C7 (scope:Scope) (ks fr gs:List Str):Bool:=
 scope.kind== .function && scope.names.all (fun x=>x.2 != .cell) && decide ks.Nodup && ks.all (fun x=>scope.names.lookup x==some .local && !(x==("__debug__":Str)))
  && scope.names.all (fun x=>x.2 != .local||scope.names.lookup x.1==some .local) && decide ((scope.names.filter fun x=>x.2== .free).map (·.1)=fr) && decide fr.Nodup
  && fr.all (fun x=>scope.names.lookup x==some .free && !(x==("__debug__":Str))) && gs.all (fun x=>scope.names.lookup x==some .globalImplicit && !(x==("__debug__":Str)))
theorem HQ {env:Env}:∀{names:List (Str×NameKind)}{x:Str}{k:NameKind},names.lookup x=some k→
  (names.map fun(n,k)=>if (k==NameKind.free && env.scope.kind== .function && env.kindOf n==some .cell) then(n,NameKind.cell) else(n,k)).lookup x=some (if (k==NameKind.free && env.scope.kind== .function && env.kindOf x==some .cell)=true then .cell else k)
 |[],_,_,h=>by simp at h
 |(n,k')::r,x,k,h=>by
  have ih:=@HQ env r x k
  refine(?_:List.lookup x ((if (k'==NameKind.free && env.scope.kind== .function && env.kindOf n==some .cell)=true then(n,NameKind.cell) else(n,k'))::_)=_)
  cases hx:x==n with
  |true=>
   simp only[List.lookup_cons,hx] at h
   injection h with h;subst h
   have hx:=eq_of_beq hx
   subst hx
   split<;>simp
  |false=>
   simp only[List.lookup_cons,hx] at h
   by_cases hc:(k'==NameKind.free && env.scope.kind== .function && env.kindOf n==some .cell)=true
   ·rw[if_pos hc];simp only[List.lookup_cons,hx];exact ih h
   ·rw[if_neg hc];simp only[List.lookup_cons,hx];exact ih h
theorem X4:∀{xs:List Str}{as:List Addr}{x:Str}{a:Addr},xs.Nodup→(x,a) ∈ xs.zip as→(xs.zip as).reverse.lookup x=some a:=by
 intro xs as x a nd h
 have key:∀(l:List (Str×Addr)),(l.map (·.1)).Nodup→(x,a) ∈ l→l.lookup x=some a:=by
  intro l
  induction l with
  |nil=>intro _ h;contradiction
  |cons p l ih=>
   intro nd h
   rw[eP,List.nodup_cons] at nd
   rcases fj h with e|h'
   ·subst e;simp
   ·obtain⟨y,b⟩:=p
    have:(x==y)=false:=by
     rw[beq_eq_false_iff_ne]
     rintro rfl
     have q:=ew (f:=Prod.fst) h'
     exact nd.1 q
    simp only[List.lookup_cons,this]
    exact ih nd.2 h'
 refine key _ ?_ (List.mem_reverse.mpr h)
 rw[List.map_reverse]
 refine((List.reverse_perm _).nodup_iff).mpr ?_
 have t:∀(xs:List Str) (as:List Addr),((xs.zip as).map (·.1)).Sublist xs:=by
  intro xs
  induction xs with
  |nil=>intro as;exact .slnil
  |cons x xs ih=>
   intro as
   induction as with
   |nil=>exact List.nil_sublist _
   |cons a as=>exact(ih as).cons_cons _
 exact(t xs as).nodup nd
theorem K7:∀{xs as},A6 env xs as→∀x a,(x,a) ∈ xs.zip as→Cl env x a
 |[],[],_,_,_,h=>by contradiction
 |_::_,_::_,h,x,a,hm=>by
  simp only[List.zip_cons_cons] at hm
  refine Or.elim (fj hm) (fun e=>?_) fun hm=>?_
  ·cases e;exact h.1
  ·exact K7 h.2 x a hm
theorem K8:∀{xs:List Str}{as:List Addr},xs.length=as.length→(∀x a,(x,a) ∈ xs.zip as→Cl env x a)→A6 env xs as
 |[],[],_,_=>trivial
 |x::xs,a::as,hl,h=>⟨h x a (.head _),K8 (by simpa using hl) fun y b hm=>h y b (.tail _ hm)⟩
theorem K6:∀{xs:List Str}{as:List Addr},A6 env xs as→xs.length=as.length
 |[],[],_=>rfl
 |_::_,_::_,h=>by simp[K6 h.2]
theorem Hq (g:Gv env) (ca:A6 env fr as) (hok:C7 scope ks fr gs=true):
  closureFor scope env=Pure.pure (fr.zip as).reverse∧scope.kind= .function∧(∀x ∈ scope.names,x.2= .local→scope.names.lookup x.1=some .local)∧(∀x ∈ scope.names,x.2≠.cell)∧ks.Nodup∧
   Loc (compEnvC scope (fr.zip as).reverse C env) C ks∧Gv (compEnvC scope (fr.zip as).reverse C env)∧Gb (compEnvC scope (fr.zip as).reverse C env) gs∧A6 (compEnvC scope (fr.zip as).reverse C env) fr as:=by
 unfold C7 at hok
 refine And.elim (fun hok h9=>?_) (fi hok)
 obtain⟨hok,h8⟩:=fi hok
 obtain⟨hok,h7⟩:=fi hok
 obtain⟨hok,h6⟩:=fi hok
 obtain⟨hok,h5⟩:=fi hok
 obtain⟨hok,h4⟩:=fi hok
 obtain⟨hok,h3⟩:=fi hok
 have h1:=(fi hok).1;have h1:=eq_of_beq h1
 have h3:=ee h3
 have h6:=ee h6
 have h7:=ee h7
 have two:∀{x:Str}{k:NameKind},(scope.names.lookup x==some k && !(x==("__debug__":Str)))=true→scope.names.lookup x=some k∧(x==("__debug__":Str))=false:=fun h=>by
  refine And.elim (fun e1 e2=>?_) (fi h)
  exact⟨eq_of_beq e1,(Bool.not_eq_true' _).mp (e2)⟩
 have hks:∀x ∈ ks,_:=fun x hx=>two (fk h4 x hx)
 have hfr:∀x ∈ fr,_:=fun x hx=>two (fk h8 x hx)
 have hgs:∀x ∈ gs,_:=fun x hx=>two (fk h9 x hx)
 have hk:(compEnvC scope (fr.zip as).reverse C env).scope.kind= .function:=h1
 refine M7 (So h6 ca) h1 (fun x hx hl=>?_) (fun x hx=>?_) h3 ⟨hk,fun x hx=>(HQ (hks x hx).1).trans ?_,fun x hx=>(hks x hx).2,rfl⟩ ⟨hk,g.gl,g.bl⟩ (fun x hx=>⟨(HQ (hgs x hx).1).trans ?_,(hgs x hx).2⟩) ?_
 ·have:=fk h5 x hx
  rw[hl] at this
  exact eq_of_beq (this)
 ·have:=fk ((fi hok).2) x hx
  simpa using this
 ·rfl
 ·rfl
 ·refine K8 (K6 ca) fun x a hm=>?_
  have hc:=K7 ca x a hm
  have hx:x ∈ fr:=(List.of_mem_zip hm).1
  refine⟨(HQ (hfr x hx).1).trans ?_,X4 h7 hm,hc.dbg⟩
  have hkc:env.kindOf x=some .cell:=hc.kind
  rw[g.kind,hkc]
  rfl
def Eg (P:Obj→Prop):Prop:=∀{prog:Program}{w:World}{A:Around}{E:Value→Shared→Prop}{s:Shared}{a:Addr}{Q:Value→Shared→Prop},
 (∃o,s.heap.get? a=some o∧P o)→Q (.ref a) s→wpAny (model prog w) A (pyIter (.ref a)) Q E s
theorem ar:Eg (AI "list_iterator" (.ref l) i):=fun qz h=>AX qz fun o a b d=>wpAny_pyIter_listiter (AE o a b d) h
theorem az {x:Str}:Eg (AI "str_ascii_iterator" (.str x t) i):=fun qz h=>AX qz fun o a b d=>wpAny_pyIter_striter_ascii (AE o a b d) h
theorem au {x step:Int}:Eg (Fl x left step):=fun qz h=>Ag qz fun o a b=>by
 subst b
 exact wpAny_pyIter_rangeiter a h
noncomputable def Gg (ifs:List Expr) (env:Env):Sem Bool:=forIn ifs true fun c r=>if r=true then do let ok ←isTrue c env (eval c env);Pure.pure (ForInStep.yield ok) else Pure.pure (ForInStep.yield r)
theorem Run.dl (h:QB true F V):Run c A (Gg [] env) F V QB:=fun _ S=>d9 (Ae F V S h)
theorem Run.dm (h:Run c A (isTrue e env (eval e env)) F V QB):Run c A (Gg [e] env) F V QB:=fun s S=>by
 unfold Gg
 rw[e7]
 refine d8 (d8 (ej (h s S) (fun b s' h'=>d9 ?_) fun _ _ e=>e))
 dsimp only
 simp only[List.forIn_nil]
 exact d9 h'
def Hd (P:Obj→Prop):Prop:=∀o,P o→∃es ep,o.data= .dict es ep∧StrKeys es
theorem Cq.drop (hP:Hd P) (S:St c F ((C,P)::W) s):∃mm,s.heap.Ns C mm∧∀h',Heap.SameBut C s.heap h'→St c F W {s with heap:=h'}:=by
 refine Ag (S.own.get .head) fun o ho p=>?_
 refine BH (hP o p) fun es ep hd hk=>?_
 exact⟨fun n=>nsFind es n,(CC o es ep ho hd hk (fun _=>rfl)),fun h' hs=>⟨⟨S.own.drop hs.extBut,S.base,S.gens,S.os⟩,S.tk⟩⟩
theorem StP.Y4 (S:StP c F W s) (hks:ks.Nodup) (hC:C=s.heap.objs.size) (hn:h.Ns C fun _=>none)
  (hb:Heap.SameBut C (s.heap.push {cls:=.type "dict",data:=.dict #[]}) h):StP c F ((C,Cq ks (ks.map fun k=>(k,none)))::W) {s with heap:=h,toks:=k}:=by
 have lt:∀{a:Addr}{x:Obj},s.heap.get? a=some x→a≠C:=fun e=>hC▸eG (eE e)
 have keep:∀a x,s.heap.get? a=some x→h.get? a=some x:=fun a x e=>hb.extBut a x (lt e) (eg _ e)
 refine⟨⟨fun a x e=>keep _ _ (S.own.fro a x e),fun p hp=>?_,?_⟩,S.base,S.gens,S.os⟩
 ·rcases fj hp with rfl|hp
  ·refine Cm (hn) fun o' es ep g1 g2 g3 g4=>?_
   refine⟨?_,o',g1,?_,hks,es,ep,g2,g3,fun p hp=>?_⟩
   ·cases e:F C with
    |none=>rfl
    |some x=>exact absurd rfl (lt (S.own.fro _ _ e))
   ·exact(e8).trans (List.map_id _)
   ·rw[g4]
    obtain⟨k, -,rfl⟩:=List.mem_map.mp hp
    rfl
  ·obtain⟨a,x,b,e⟩:=S.own.own p hp
   exact⟨a,x,keep _ _ b,e⟩
 ·rw[eP,List.nodup_cons]
  refine⟨fun hm'=>?_,S.own.nod⟩
  refine Ag (List.mem_map.mp hm') fun p hp' e=>?_
  obtain⟨-,x,b, -⟩:=S.own.own p hp'
  exact lt b e
def Oh (K:Value→FM→Aa→Prop) (r:Option Value) (F:FM) (V:Aa):Prop:=match r with|some v=>K v F V|none=>False
def Og (K:FM→Aa→Prop) (r:Option Value) (F:FM) (V:Aa):Prop:=match r with|none=>K F V|some _=>False
def J6 (it:Addr) (P:Obj→Prop) (J:FM→Aa→Prop) (F:FM) (V:Aa):Prop:=∃W,B5 ((it,P)::W) V∧J F W
inductive ForI (c:Cx) (n:Nat) (it:Addr) (P:Nat→Obj→Prop) (J:Nat→FM→Aa→Prop):Nat→Shared→Prop
 |mk {i F W s:_}:i≤n→J i F W→St c F ((it,P i)::W) s→ForI c n it P J (n - i) s
theorem Run.goN {x:Str}{it:Value}(h:QU () F V):Run c A (letOwnedTupleGo (.Name x p) it v) F V QU:=fun _ S=>d9 (Ae F V S h)
theorem ML {M:Model}{Q:Unit→Shared→Prop}(ho:s.heap.get? it=some o) (hc:o.cls= .type T)
  (hT:["enumerate","zip","dict_itemiterator","dict_reverseitemiterator","odict_iterator","itertools.zip_longest","itertools.pairwise"].contains T=false) (h:Q () s):
  wpAny M A (letOwnedTupleGo (.Tuple elts k p) (.ref it) v) Q E s:=by
 induction v with
 |ref a=>
  refine d8 (wpAny_load ho ?_)
  refine(hc)▸?_
  cases hd:o.data with
  |fields vs=>
   dsimp only
   refine(hT)▸?_
   exact d9 h
  |_=>exact d9 h
 |_=>exact d9 h
theorem Run.MK {x:Value}(hp:Ad it (AI T x i) V)
  (hT:["enumerate","zip","dict_itemiterator","dict_reverseitemiterator","odict_iterator","itertools.zip_longest","itertools.pairwise"].contains T=false) (h:QU () F V):
  Run c A (letOwnedTupleGo (.Tuple elts k p) (.ref it) v) F V QU:=fun _ S=>by
 obtain⟨o,ho,hc, -⟩:=S.own.get hp
 exact ML ho hc hT (Ae F V S h)
theorem AA.ki {k:Code}(h:∀s (R:Result→Shared→Prop),St c F V s→(∀f s' F' V',St c F' V' s'→QF f F' V'→R (.ok f) s')→codeAny (Mo c) A k R s):AA c A k F V QF:=fun s S=>h s _ S fun f _ F' V' S' q=>Cr f F' V' rfl S' q
theorem AA.fu {k:Code}{R:Result→Shared→Prop}(h:AA c A k F V QF) (S:St c F V s) (kk:∀f s' F' V',St c F' V' s'→QF f F' V'→R (.ok f) s'):codeAny (Mo c) A k R s:=codeAny_mono (h s S) fun r s' q=>q.elim fun f q=>q.elim fun F' q=>q.elim fun V' q=>q.1▸kk f s' F' V' q.2.1 q.2.2
theorem AA.Mc {target:Expr}(n:Nat) (P:Nat→Obj→Prop) (J:Nat→FM→Aa→Prop)
  (turn:∀i,i<n→∀F W,J i F W→Run c A (pyNext (.ref it)) F ((it,P i)::W) (Oh fun v F1 V1=>Run c A (letOwnedTupleGo target (.ref it) v) F1 V1 (fun _ F1 V1=>Run c A (assign target env v) F1 V1 (fun _ F2 V2=>
   Run c A (execs body env) F2 V2 (fun f F3 V3=>match f with| .next| .cont=>∃W3,B5 ((it,P (i+1))::W3) V3∧J (i+1) F3 W3| .brk=>QF .next F3 V3| .ret v=>QF (.ret v) F3 V3)))))
  (fin:∀F W,J n F W→Run c A (pyNext (.ref it)) F ((it,P n)::W) (Og fun F1 V1=>Run c A (execs orelse env) F1 V1 QF))
  (hJ:J 0 F W):AA c A (.forLoop target (.ref it) body orelse env) F ((it,P 0)::W) QF:=.ki fun s R S kk=>codeAny_forLoop_any (ForI c n it P J) (fun k s hI=>by
 cases hI with|mk hi hJ S=>
 rename_i i F W
 rcases Nat.lt_or_ge i n with hlt|hge
 ·refine Run.fu (turn i hlt F W hJ) S fun r s1 F1 V1 S1 h1=>?_
  induction r with
  |none=>exact h1.elim
  |some v=>
   refine Run.fu h1 S1 fun _ s2 F2 V2 S2 h2=>Run.fu h2 S2 fun _ s3 F3 V3 S3 h3=>Run.fu h3 S3 fun f s4 F4 V4 S4 h4=>?_
   induction f with
   |next=>exact h4.elim fun W3 q=>⟨n - (i+1),Nat.sub_lt_sub_left hlt (ey i),.mk hlt q.2 (S4.fit q.1)⟩
   |cont=>exact h4.elim fun W3 q=>⟨n - (i+1),Nat.sub_lt_sub_left hlt (ey i),.mk hlt q.2 (S4.fit q.1)⟩
   |brk=>exact kk .next s4 F4 V4 S4 h4
   |ret v=>exact kk (.ret v) s4 F4 V4 S4 h4
 ·have e:i=n:=Nat.le_antisymm hi hge
  subst e
  refine Run.fu (fin F W hJ) S fun r s1 F1 V1 S1 h1=>?_
  induction r with
  |some v=>exact h1.elim
  |none=>exact Run.fu h1 S1 fun f s3 F3 V3 S3 h3=>kk f s3 F3 V3 S3 h3) (n - 0) (.mk (eB _) hJ S)
theorem Run.dk {l op₁ op₂ r₁ r₂ p whole:_}(h:Run c A (eval l env) F V (fun a F1 V1=>Run c A (eval r₁ env) F1 V1 (fun b F2 V2=>Run c A (compareOp op₁ a b) F2 V2 (fun v F3 V3=>∃t,v= .bool t∧(t=false→QB false F3 V3)∧
   (t=true→Run c A (eval r₂ env) F3 V3 (fun d F4 V4=>Run c A (compareOp op₂ b d) F4 V4 (fun v F5 V5=>∃t,v= .bool t∧QB t F5 V5)))))))
  (hm:autoParam (lastMarks [op₁,op₂] [r₁,r₂]=false) aU):Run c A (isTrue (.Compare l [op₁,op₂] [r₁,r₂] p) env whole) F V QB:=fun s S=>by
 refine isTrue_chain (ops:=[]) (rs:=[]) ((Run.fu h S fun _ s1 _ _ S1 h1=>test_link ((Run.fu h1 S1 fun _ s2 _ _ S2 h2=>(Run.fu h2 S2 fun _ s3 F3 V3 S3 qz=>Ag qz fun t e h3=>?_))))) hm
 refine e▸?_
 refine wpAny_truthy_bool ?_
 induction t with
 |false=>exact Ae F3 V3 S3 (h3.1 rfl)
 |true=>exact test_last ((Run.fu (h3.2 rfl) S3 fun _ s4 _ _ S4 h4=>(Run.fu h4 S4 fun _ s5 F5 V5 S5 qz=>Ag qz fun t e h5=>by refine e▸?_;exact wpAny_truthy_bool (Ae F5 V5 S5 h5))))
theorem Run.HP {x:Str}(h:Q (.bool (!(decide (y.cps.toList<x.cps.toList)))) F V):Run c A (compareOp .LtE (.str x t) (.str y u)) F V Q:=fun s S=>PySem.P.le_str (Ae F V S h)
theorem Run.Jo {x:Str}(h:Q (.bool (decide (y.cps.toList<x.cps.toList))) F V):Run c A (compareOp .Gt (.str x t) (.str y u)) F V Q:=fun s S=>PySem.P.gt_str (Ae F V S h)
theorem Run.eqB {x y:Bool}(h:Q (.bool (x==y)) F V):Run c A (compareOp .Eq (.bool x) (.bool y)) F V Q:=fun _ S=>PyProof.Rows.eq_bool (Ae F V S h)
inductive Af {α:Type}(R:Value→α→Prop):List Value→List α→Prop
 |nil:Af R [] []
 |cons {v p vs ps:_}:R v p→Af R vs ps→Af R (v::vs) (p::ps)
section
variable {α:Type}{R R':Value→α→Prop}
theorem Af.mono {vs ps:_}(h:Af R vs ps) (k:∀v p,R v p→R' v p):Af R' vs ps:=by
 induction h with
 |nil=>exact .nil
 |cons a _ ih=>exact .cons (k _ _ a) ih
theorem Af.len {vs ps:_}(h:Af R vs ps):vs.length=ps.length:=by
 induction h with
 |nil=>rfl
 |cons _ _ ih=>simp only[List.length_cons,List.length_cons,ih]
theorem Af.get {vs ps:_}(h:Af R vs ps) {p:_}(e:ps[i]? =some p):∃v,vs[i]? =some v∧R v p:=by
 induction h generalizing i with
 |nil=>contradiction
 |@cons v q vs ps a _ ih=>
  induction i with
  |zero=>obtain rfl:=ed e;exact Ak v rfl a
  |succ i=>exact ih e
theorem Af.app {vs ps vs' ps':_}(h:Af R vs ps) (h':Af R vs' ps'):Af R (vs++vs') (ps++ps'):=by
 induction h with
 |nil=>exact h'
 |cons a _ ih=>exact .cons a ih
theorem Af.snoc {vs ps v p:_}(h:Af R vs ps) (h':R v p):Af R (vs++[v]) (ps++[p]):=h.app (.cons h' .nil)
theorem Af.emp {vs ps:_}(h:Af R vs ps):vs.isEmpty=ps.isEmpty:=by induction h<;>rfl
end
noncomputable abbrev Pair:=Str×Str
noncomputable abbrev Item:=Bool×List Pair
noncomputable abbrev Row:=Str×List Item
def Ii (v:Value) (x:Str):Prop:=∃t,v= .str x t
def Pr (F:FM) (v:Value) (p:Pair):Prop:=∃a t u,v= .ref a∧Tu F a [.str p.1 t,.str p.2 u]
def Cw {α:Type}(R:FM→Value→α→Prop) (F:FM) (v:Value) (xs:List α):Prop:=∃l vs,v= .ref l∧Ls F l vs∧Af (R F) vs xs
def CT (F:FM) (v:Value) (p:Item):Prop:=∃a w,v= .ref a∧Tu F a [.bool p.1,w]∧Cw Pr F w p.2
def Rw (F:FM) (v:Value) (p:Row):Prop:=∃a t w,v= .ref a∧Tu F a [.str p.1 t,w]∧Cw CT F w p.2
theorem Pr.le {F F' v p:_}(h:Pr F v p) (l:Le F F'):Pr F' v p:=FE (h) fun a t u e x=>⟨a,t,u,e,x.le l⟩
theorem Cw.le {α:Type}{R:FM→Value→α→Prop}{F F' v xs:_}(h:Cw R F v xs) (l:Le F F') (k:∀v p,R F v p→R F' v p):Cw R F' v xs:=Bk (h) fun a vs e x y=>(Bg a vs e (x.le l) (y.mono k))
theorem CT.le {F F' v p:_}(h:CT F v p) (l:Le F F'):CT F' v p:=Bk (h) fun a w e x y=>⟨a,w,e,x.le l,y.le l fun _ _ q=>q.le l⟩
theorem Rw.le {F F' v p:_}(h:Rw F v p) (l:Le F F'):Rw F' v p:=EY (h) fun a t w e x y=>⟨a,t,w,e,x.le l,y.le l fun _ _ q=>q.le l⟩
theorem Run.PI {x y:Expr}(h:Run c A (eval x env) F V (fun v F1 V1=>Run c A (truthy v) F1 V1 (fun t F2 V2=>(t=false→Q v F2 V2)∧(t=true→Run c A (eval y env) F2 V2 Q)))):
  Run c A (eval (.BoolOp .And [x,y] p) env) F V Q:=by
 refine(?_:Run c A (boolOp p .And [eval x env,eval y env]) F V Q)
 dsimp only[boolOp]
 refine .bind (h.mono fun v F1 V1 h1=>.bind (.standAt (.bind (.holding (h1.mono fun t F2 V2 h2=>?_)))))
 induction t with
 |false=>exact .pure (h2.1 rfl)
 |true=>exact h2.2 rfl
theorem Run.Zg {x y:Expr}(h:Run c A (eval x env) F V (fun v F1 V1=>Run c A (truthy v) F1 V1 (fun t F2 V2=>(t=true→Q v F2 V2)∧(t=false→Run c A (eval y env) F2 V2 Q)))):
  Run c A (eval (.BoolOp .Or [x,y] p) env) F V Q:=by
 refine(?_:Run c A (boolOp p .Or [eval x env,eval y env]) F V Q)
 dsimp only[boolOp]
 refine .bind (h.mono fun v F1 V1 h1=>.bind (.standAt (.bind (.holding (h1.mono fun t F2 V2 h2=>?_)))))
 induction t with
 |true=>exact .pure (h2.1 rfl)
 |false=>exact h2.2 rfl
theorem Run.Hh {t:Addr}(rm:Rm n A) (ht:Tu F t [v1,v2]) (hs:assignEach [e1,e2] env=[(false,assign e1 env),(false,assign e2 env)])
  (h:Run c A (assign e1 env v1) F V (fun _ F1 V1=>Run c A (assign e2 env v2) F1 V1 QU)):Run c A (assign (.Tuple [e1,e2] k p) env (.ref t)) F V QU:=by
 refine Run.Iy rm ht (by exact congrArg _ (hs)) (by exact congrArg _ (hs)) ?_
 rw[hs]
 exact .Ck (h.mono fun _ _ _ h'=>.Ck (h'.mono fun _ _ _ h''=>.Gj h''))
theorem Run.QY {t:Addr}{v3:Value}(rm:Rm n A) (ht:Tu F t [v1,v2,v3]) (hs:assignEach [e1,e2,e3] env=[(false,assign e1 env),(false,assign e2 env),(false,assign e3 env)])
  (h:Run c A (assign e1 env v1) F V (fun _ F1 V1=>Run c A (assign e2 env v2) F1 V1 (fun _ F2 V2=>Run c A (assign e3 env v3) F2 V2 QU))):Run c A (assign (.Tuple [e1,e2,e3] k p) env (.ref t)) F V QU:=by
 refine Run.Iy rm ht (by exact congrArg _ (hs)) (by exact congrArg _ (hs)) ?_
 rw[hs]
 exact .Ck (h.mono fun _ _ _ h'=>.Ck (h'.mono fun _ _ _ h''=>.Ck (h''.mono fun _ _ _ h'''=>.Gj h''')))
theorem K3 {x:Str}(h:A6 env [x] as):∃a,as=[a]∧Cl env x a:=by
 match as,h with
 |[a],h=>exact Ak a rfl h.1
theorem K4 {x:Str}(h:A6 env [x,y] as):∃a b,as=[a,b]∧Cl env x a∧Cl env y b:=by
 match as,h with
 |[a,b],h=>exact Bg a b rfl h.1 h.2.1
theorem K5 {x:Str}(h:A6 env [x,y,z] as):∃a b c,as=[a,b,c]∧Cl env x a∧Cl env y b∧Cl env z c:=by
 match as,h with
 |[a,b,c],h=>exact CC a b c rfl h.1 h.2.1 h.2.2.1
theorem RQ {x p q:Str}(h:A6 env [x,y,z,p,q] as):∃a b c d e,as=[a,b,c,d,e]∧Cl env x a∧Cl env y b∧Cl env z c∧Cl env p d∧Cl env q e:=by
 match as,h with
 |[a,b,c,d,e],h=>exact Jt a b c d e rfl h.1 h.2.1 h.2.2.1 h.2.2.2.1 h.2.2.2.2.1
section
variable {α β:Type}{a:α}{b b':β}
theorem has0 {l:List (α×β)}:Ad a b ((a,b)::l):=.head
theorem CG {l:List (α×β)}:Aj a b b' ((a,b)::l) ((a,b')::l):=.head
theorem Ai {p0:α×β}{l:List (α×β)}:Ad a b (p0::(a,b)::l):=.tail (.head)
theorem BQ {p0:α×β}{l:List (α×β)}:Aj a b b' (p0::(a,b)::l) (p0::(a,b')::l):=.tail (.head)
theorem Al {p0 p1:α×β}{l:List (α×β)}:Ad a b (p0::p1::(a,b)::l):=.tail (.tail (.head))
theorem put2 {p0 p1:α×β}{l:List (α×β)}:Aj a b b' (p0::p1::(a,b)::l) (p0::p1::(a,b')::l):=.tail (.tail (.head))
theorem Ay {p0 p1 p2:α×β}{l:List (α×β)}:Ad a b (p0::p1::p2::(a,b)::l):=.tail (.tail (.tail (.head)))
theorem put3 {p0 p1 p2:α×β}{l:List (α×β)}:Aj a b b' (p0::p1::p2::(a,b)::l) (p0::p1::p2::(a,b')::l):=.tail (.tail (.tail (.head)))
theorem Az {p0 p1 p2 p3:α×β}{l:List (α×β)}:Ad a b (p0::p1::p2::p3::(a,b)::l):=.tail (.tail (.tail (.tail (.head))))
theorem BF {p0 p1 p2 p3:α×β}{l:List (α×β)}:Aj a b b' (p0::p1::p2::p3::(a,b)::l) (p0::p1::p2::p3::(a,b')::l):=.tail (.tail (.tail (.tail (.head))))
theorem Ax {p0 p1 p2 p3 p4:α×β}{l:List (α×β)}:Ad a b (p0::p1::p2::p3::p4::(a,b)::l):=.tail (.tail (.tail (.tail (.tail (.head)))))
theorem Br {p0 p1 p2 p3 p4:α×β}{l:List (α×β)}:Aj a b b' (p0::p1::p2::p3::p4::(a,b)::l) (p0::p1::p2::p3::p4::(a,b')::l):=.tail (.tail (.tail (.tail (.tail (.head)))))
theorem AG {p0 p1 p2 p3 p4 p5:α×β}{l:List (α×β)}:Ad a b (p0::p1::p2::p3::p4::p5::(a,b)::l):=.tail (.tail (.tail (.tail (.tail (.tail (.head))))))
theorem Db {p0 p1 p2 p3 p4 p5:α×β}{l:List (α×β)}:Aj a b b' (p0::p1::p2::p3::p4::p5::(a,b)::l) (p0::p1::p2::p3::p4::p5::(a,b')::l):=.tail (.tail (.tail (.tail (.tail (.tail (.head))))))
theorem BM {p0 p1 p2 p3 p4 p5 p6:α×β}{l:List (α×β)}:Ad a b (p0::p1::p2::p3::p4::p5::p6::(a,b)::l):=.tail (.tail (.tail (.tail (.tail (.tail (.tail (.head)))))))
theorem D5 {p0 p1 p2 p3 p4 p5 p6:α×β}{l:List (α×β)}:Aj a b b' (p0::p1::p2::p3::p4::p5::p6::(a,b)::l) (p0::p1::p2::p3::p4::p5::p6::(a,b')::l):=.tail (.tail (.tail (.tail (.tail (.tail (.tail (.head)))))))
theorem BN {p0 p1 p2 p3 p4 p5 p6 p7:α×β}{l:List (α×β)}:Ad a b (p0::p1::p2::p3::p4::p5::p6::p7::(a,b)::l):=.tail BM
theorem put8 {p0 p1 p2 p3 p4 p5 p6 p7:α×β}{l:List (α×β)}:Aj a b b' (p0::p1::p2::p3::p4::p5::p6::p7::(a,b)::l) (p0::p1::p2::p3::p4::p5::p6::p7::(a,b')::l):=.tail D5
theorem AT {p0 p1 p2 p3 p4 p5 p6 p7 p8:α×β}{l:List (α×β)}:Ad a b (p0::p1::p2::p3::p4::p5::p6::p7::p8::(a,b)::l):=.tail BN
theorem CH {p0 p1 p2 p3 p4 p5 p6 p7 p8:α×β}{l:List (α×β)}:Aj a b b' (p0::p1::p2::p3::p4::p5::p6::p7::p8::(a,b)::l) (p0::p1::p2::p3::p4::p5::p6::p7::p8::(a,b')::l):=.tail put8
theorem AQ {p0 p1 p2 p3 p4 p5 p6 p7 p8 p9:α×β}{l:List (α×β)}:Ad a b (p0::p1::p2::p3::p4::p5::p6::p7::p8::p9::(a,b)::l):=.tail AT
theorem FY {p0 p1 p2 p3 p4 p5 p6 p7 p8 p9:α×β}{l:List (α×β)}:Aj a b b' (p0::p1::p2::p3::p4::p5::p6::p7::p8::p9::(a,b)::l) (p0::p1::p2::p3::p4::p5::p6::p7::p8::p9::(a,b')::l):=.tail CH
theorem AN {p0 p1 p2 p3 p4 p5 p6 p7 p8 p9 p10:α×β}{l:List (α×β)}:Ad a b (p0::p1::p2::p3::p4::p5::p6::p7::p8::p9::p10::(a,b)::l):=.tail AQ
theorem Da {p0 p1 p2 p3 p4 p5 p6 p7 p8 p9 p10:α×β}{l:List (α×β)}:Aj a b b' (p0::p1::p2::p3::p4::p5::p6::p7::p8::p9::p10::(a,b)::l) (p0::p1::p2::p3::p4::p5::p6::p7::p8::p9::p10::(a,b')::l):=.tail FY
theorem HG {p0 p1 p2 p3 p4 p5 p6 p7 p8 p9 p10 p11:α×β}{l:List (α×β)}:Ad a b (p0::p1::p2::p3::p4::p5::p6::p7::p8::p9::p10::p11::(a,b)::l):=.tail AN
theorem G5 {p0 p1 p2 p3 p4 p5 p6 p7 p8 p9 p10 p11:α×β}{l:List (α×β)}:Aj a b b' (p0::p1::p2::p3::p4::p5::p6::p7::p8::p9::p10::p11::(a,b)::l) (p0::p1::p2::p3::p4::p5::p6::p7::p8::p9::p10::p11::(a,b')::l):=.tail Da
theorem M0 {p0 p1 p2 p3 p4 p5 p6 p7 p8 p9 p10 p11 p12:α×β}{l:List (α×β)}:Ad a b (p0::p1::p2::p3::p4::p5::p6::p7::p8::p9::p10::p11::p12::(a,b)::l):=.tail HG
theorem Ou {p0 p1 p2 p3 p4 p5 p6 p7 p8 p9 p10 p11 p12:α×β}{l:List (α×β)}:Aj a b b' (p0::p1::p2::p3::p4::p5::p6::p7::p8::p9::p10::p11::p12::(a,b)::l) (p0::p1::p2::p3::p4::p5::p6::p7::p8::p9::p10::p11::p12::(a,b')::l):=.tail G5
theorem Jp {p0 p1 p2 p3 p4 p5 p6 p7 p8 p9 p10 p11 p12 p13:α×β}{l:List (α×β)}:Ad a b (p0::p1::p2::p3::p4::p5::p6::p7::p8::p9::p10::p11::p12::p13::(a,b)::l):=.tail M0
theorem Ov {p0 p1 p2 p3 p4 p5 p6 p7 p8 p9 p10 p11 p12 p13:α×β}{l:List (α×β)}:Aj a b b' (p0::p1::p2::p3::p4::p5::p6::p7::p8::p9::p10::p11::p12::p13::(a,b)::l) (p0::p1::p2::p3::p4::p5::p6::p7::p8::p9::p10::p11::p12::p13::(a,b')::l):=.tail Ou
theorem M1 {p0 p1 p2 p3 p4 p5 p6 p7 p8 p9 p10 p11 p12 p13 p14:α×β}{l:List (α×β)}:Ad a b (p0::p1::p2::p3::p4::p5::p6::p7::p8::p9::p10::p11::p12::p13::p14::(a,b)::l):=.tail Jp
theorem Ow {p0 p1 p2 p3 p4 p5 p6 p7 p8 p9 p10 p11 p12 p13 p14:α×β}{l:List (α×β)}:Aj a b b' (p0::p1::p2::p3::p4::p5::p6::p7::p8::p9::p10::p11::p12::p13::p14::(a,b)::l) (p0::p1::p2::p3::p4::p5::p6::p7::p8::p9::p10::p11::p12::p13::p14::(a,b')::l):=.tail Ov
theorem HH {p0 p1 p2 p3 p4 p5 p6 p7 p8 p9 p10 p11 p12 p13 p14 p15:α×β}{l:List (α×β)}:Ad a b (p0::p1::p2::p3::p4::p5::p6::p7::p8::p9::p10::p11::p12::p13::p14::p15::(a,b)::l):=.tail M1
theorem Ox {p0 p1 p2 p3 p4 p5 p6 p7 p8 p9 p10 p11 p12 p13 p14 p15:α×β}{l:List (α×β)}:Aj a b b' (p0::p1::p2::p3::p4::p5::p6::p7::p8::p9::p10::p11::p12::p13::p14::p15::(a,b)::l) (p0::p1::p2::p3::p4::p5::p6::p7::p8::p9::p10::p11::p12::p13::p14::p15::(a,b')::l):=.tail Ow
theorem DT {p0 p1 p2 p3 p4 p5 p6 p7 p8 p9 p10 p11 p12 p13 p14 p15 p16:α×β}{l:List (α×β)}:Ad a b (p0::p1::p2::p3::p4::p5::p6::p7::p8::p9::p10::p11::p12::p13::p14::p15::p16::(a,b)::l):=.tail HH
theorem Oy {p0 p1 p2 p3 p4 p5 p6 p7 p8 p9 p10 p11 p12 p13 p14 p15 p16:α×β}{l:List (α×β)}:Aj a b b' (p0::p1::p2::p3::p4::p5::p6::p7::p8::p9::p10::p11::p12::p13::p14::p15::p16::(a,b)::l) (p0::p1::p2::p3::p4::p5::p6::p7::p8::p9::p10::p11::p12::p13::p14::p15::p16::(a,b')::l):=.tail Ox
theorem HI {p0 p1 p2 p3 p4 p5 p6 p7 p8 p9 p10 p11 p12 p13 p14 p15 p16 p17:α×β}{l:List (α×β)}:Ad a b (p0::p1::p2::p3::p4::p5::p6::p7::p8::p9::p10::p11::p12::p13::p14::p15::p16::p17::(a,b)::l):=.tail DT
theorem ZG {p0 p1 p2 p3 p4 p5 p6 p7 p8 p9 p10 p11 p12 p13 p14 p15 p16 p17:α×β}{l:List (α×β)}:Aj a b b' (p0::p1::p2::p3::p4::p5::p6::p7::p8::p9::p10::p11::p12::p13::p14::p15::p16::p17::(a,b)::l) (p0::p1::p2::p3::p4::p5::p6::p7::p8::p9::p10::p11::p12::p13::p14::p15::p16::p17::(a,b')::l):=.tail Oy
end
section
variable {α:Type}
theorem AK {a:α}{l:List α}:a ∈ a::l:=eI
theorem Bx {a p0:α}{l:List α}:a ∈ p0::a::l:=.tail _ AK
theorem Ce {a p0 p1:α}{l:List α}:a ∈ p0::p1::a::l:=.tail _ Bx
theorem D0 {a p0 p1 p2:α}{l:List α}:a ∈ p0::p1::p2::a::l:=.tail _ Ce
theorem JL {a p0 p1 p2 p3:α}{l:List α}:a ∈ p0::p1::p2::p3::a::l:=.tail _ D0
theorem Ys {a p0 p1 p2 p3 p4:α}{l:List α}:a ∈ p0::p1::p2::p3::p4::a::l:=.tail _ JL
end
section
open PySem PySem.W PySem.Calls PyProof.Rows PySem.Builtin PySem.Builtin.Str
noncomputable abbrev cl (x:Str):List Nat:=x.cps.toList
noncomputable def ch (c:Nat):Str:=⟨#[c]⟩
noncomputable def tx (l:List Nat):Str:=⟨l.toArray⟩
theorem EF (x:Str):tx (cl x)=x:=by induction x;rfl
theorem DL (l:List Nat):cl (tx l)=l:=rfl
theorem Gw (x:Str):(cl x).length=x.length:=by simp[Str.length]
theorem Av (l:List Nat):(tx l).length=l.length:=by simp[tx,Str.length]
theorem Gh (a b:List Nat):tx a++tx b=tx (a++b):=by
 refine(?_:Str.mk (a.toArray++b.toArray)=_)
 simp[tx]
theorem tx_inj {a b:List Nat}(h:tx a=tx b):a=b:=congrArg cl h
theorem Kc (a b:List Nat):(tx a==tx b)=(a==b):=by
 rw[Bool.eq_iff_iff,beq_iff_eq,beq_iff_eq]
 exact⟨tx_inj,congrArg tx⟩
theorem B8 (a b:Nat):(ch a==ch b)=(a==b):=by
 simp only[show ch a=tx [a] from rfl,show ch b=tx [b] from rfl,Kc]
 simp
def D (x:Str) (k:Nat) (r:List Nat):Prop:=(cl x).drop k=r∧k≤x.length
theorem D.len {x k r:_}(h:D x k r):x.length=k+r.length:=by
 have:=congrArg List.length h.1
 rw[List.length_drop,Gw] at this
 have:=h.2
 lia
theorem D.zero (x:Str):D x 0 (cl x):=⟨rfl,eB _⟩
theorem D.next {x k c r:_}(h:D x k (c::r)):D x (k+1) r:=by
 refine⟨?_,by have:=h.len;simp at this;lia⟩
 rw[←List.drop_drop,h.1];rfl
theorem D.skip {x k r:_}(h:D x k r) (m:Nat) (hm:m≤r.length):D x (k+m) (r.drop m):=by
 refine⟨?_,by have:=h.len;lia⟩
 rw[←List.drop_drop,h.1]
theorem D.get {x k c r:_}(h:D x k (c::r)):x.cps[k]? =some c:=by
 have e:x.cps[k]? =(cl x)[k]? :=by simp
 rw[e,←Nat.add_zero k,←List.getElem?_drop,h.1]
 rfl
theorem D.item {x k c r:_}(h:D x k (c::r)):Txt.item x k=ch c:=by
 have hl:=h.len
 simp only[List.length_cons] at hl
 have e:Txt.charAt x (k:Int)=some c:=by
  have e2:seqIndex? (k:Int) x.length=some k:=by
   dsimp only[seqIndex?]
   simp[show ¬((k:Int)<0) by lia,show k<x.length by lia]
  unfold Txt.charAt
  rw[e2]
  exact h.get
 unfold Txt.item
 rw[e]
 rfl
noncomputable def clip (v:Option Int) (d:Nat) (n:Nat):Nat:=match v with|none=>d|some i=>(max 0 (min (if i<0 then i+n else i) n)).toNat
theorem La (v:Option Int) (d n:Nat):(match v with|none=>(d:Int)|some i=>max 0 (min (if i<0 then i+n else i) n))=((clip v d n:Nat):Int):=by
 induction v with
 |none=>rfl
 |some i=>exact(Int.toNat_of_nonneg (Int.le_max_left ..)).symm
theorem bp (lo hi:Option Int) (n:Nat):strSliceIndices lo hi 1 n=(List.range (clip hi n n - clip lo 0 n)).map fun k=>clip lo 0 n+k:=by
 have e:strSliceIndices lo hi 1 n=sliceRange (clip lo 0 n:Nat) (clip hi n n:Nat) 1:=by
  rw[←La,←La]
  rcases lo with _|_<;>rcases hi with _|_<;>rfl
 rw[e]
 generalize clip lo 0 n=a
 generalize clip hi n n=b
 unfold sliceRange
 simp only[show((1:Int)>0)=True from by decide,if_true]
 have e3:(if (a:Int)<b then((b:Int) - a+1 - 1) / 1 else 0).toNat=b - a:=by
  split
  ·rw[Int.ediv_one];exact QG
  ·lia
 simp only[e3]
 exact List.map_congr_left fun k _=>QI
theorem Lc (v:Option Int) (h:d≤n):clip v d n≤n:=by
 induction v with
 |none=>exact h
 |some i=>
  have:max 0 (min (if i<0 then i+n else i) (n:Int))≤n:=Int.max_le.mpr ⟨er _,Int.min_le_right ..⟩
  refine(?_:(max 0 (min (if i<0 then i+n else i) (n:Int))).toNat≤n)
  exact Qz
theorem EB (x:Str) (lo hi:Option Int):Txt.slice x lo hi=tx (((cl x).drop (clip lo 0 x.length)).take (clip hi x.length x.length - clip lo 0 x.length)):=by
 have ha:=Lc lo (eB x.length)
 have hb:=Lc hi (eh x.length)
 unfold Txt.slice
 rw[bp]
 generalize clip lo 0 x.length=a at*
 generalize clip hi x.length x.length=b at*
 rw[eM,List.length_range]
 split
 ·rename_i hq
  have hl:b - a=x.length:=ee (hq)
  obtain rfl:a=0:=by lia
  simp only[List.drop_zero,List.take_of_length_le (by rw[Gw];exact eH (Eq.symm ‹_›)),EF]
 ·refine(?_:tx _=tx _)
  congr 1
  rcases Nat.le_total a b with q|q
  ·have:=StrLaws.picks (cl x) (b - a) a (by rw[Gw];exact QH ‹_› ‹_›)
   simp only[←this]
   congr 1
   funext k
   simp
  ·rw[Nat.sub_eq_zero_of_le q];simp
theorem Hp (k d n:Nat):clip (some (k:Int)) d n=min k n:=by
 refine(?_:(max 0 (min (if (k:Int)<0 then(k:Int)+n else k) (n:Int))).toNat=_)
 rw[if_neg (Int.not_lt.mpr (er k))]
 refine Or.elim (Nat.le_total k n) (fun h=>?_) fun h=>?_
 ·rw[Int.min_eq_left (Int.ofNat_le.mpr h),Int.max_eq_right (er k),Nat.min_eq_left h];rfl
 ·rw[Int.min_eq_right (Int.ofNat_le.mpr h),Int.max_eq_right (er n),Nat.min_eq_right h];rfl
theorem Lb (d n:Nat):clip (some (-1)) d n=n - 1:=by
 induction n with
 |zero=>rfl
 |succ n=>
  refine(?_:(max 0 (min (if (-1:Int)<0 then(-1:Int)+((n+1:Nat):Int) else -1) ((n+1:Nat):Int))).toNat=_)
  rw[if_pos (by decide),show(-1:Int)+((n+1:Nat):Int)=(n:Int) by dsimp only[Int.natCast_add,Int.add_comm];exact Int.add_sub_cancel (n:Int) 1,Int.min_eq_left (Int.ofNat_le.mpr (Nat.le_succ n)),Int.max_eq_right (er n)]
  rfl
theorem D.slice {x k r:_}(h:D x k r) (m:Nat) {i:Int}(hi:i=k) (hj:j=k+m):Txt.slice x (some i) (some j)=tx (r.take m):=by
 rw[hi,hj,EB,show(k:Int)+m=((k+m:Nat):Int) from rfl,Hp,Hp,Nat.min_eq_left h.2,h.1,h.len,Nat.add_min_add_left,Nat.add_sub_cancel_left,←List.take_eq_take_min]
noncomputable def DB:List Nat→Option (Nat×List Nat)
 |[]=>none
 |92::r=>(match r with|[]=>none|c::r=>some (c,r))
 |c::r=>some (c,r)
noncomputable def FX (p:Nat×Nat):Pair:=(ch p.1,ch p.2)
noncomputable def pPairs:Nat→List (Nat×Nat)→List Nat→Option (List (Nat×Nat)×List Nat)
 |0,_,_=>none
 |f+1,acc,r=>match r with
  |[]=>none
  |c::r'=>if (!acc.isEmpty && c==93)=true then some (acc,r') else match DB (c::r') with
   |none=>none
   |some (lo,r1)=>match r1 with
    |[]=>none
    |d::r2=>if (d==45)=true then(match DB r2 with|none=>none|some (hi,r3)=>pPairs f (acc++[(lo,hi)]) r3) else pPairs f (acc++[(lo,lo)]) (d::r2)
noncomputable def FV:List Nat→Option ((Bool×List (Nat×Nat))×List Nat)
 |[]=>none
 |c::r=>match pPairs 20 [] (if (c==94)=true then r else c::r) with
  |none=>none
  |some (ps,r')=>some ((c==94,ps),r')
noncomputable def B3:Nat→List (Bool×List (Nat×Nat))→List Nat→Option (List (Bool×List (Nat×Nat)))
 |0,_,_=>none
 |f+1,its,r=>if r.length≤3 then some its else match r with
  |[]=>none
  |c::r'=>if (r.take 6==[40,63,62,46,42,63])=true∨(r.take 2==[46,42])=true∨(c==41)=true∨(c==46)=true then none
   else if (c==91)=true then(match FV r' with|none=>none|some (it,r'')=>B3 f (its++[it]) r'')
   else if c ∈ [94,36,42,43,63,123,125,124,40] then none
   else match DB r with|none=>none|some (d,r'')=>B3 f (its++[(false,[(d,d)])]) r''
noncomputable def Bq (p:Bool×List (Nat×Nat)):Item:=(p.1,p.2.map FX)
end
inductive Sp|any|int (i:Int)|str (x:Str)|val (v:Value)|sat (P:Value→Prop)
noncomputable def Sp.ok:Sp→Option Value→Prop
 | .any,_=>True
 | .int i,o=>∃t,o=some (.int i t)
 | .str x,o=>∃t,o=some (.str x t)
 | .val v,o=>o=some v
 | .sat P,o=>∃v,o=some v∧P v
noncomputable def Sp.sure:Sp→Bool
 | .any=>false
 |_=>true
theorem Sp.some_of {s:Sp}{o:Option Value}(h:s.ok o) (hs:s.sure=true):∃v,o=some v:=by
 induction s with
 |any=>contradiction
 |int i=>obtain⟨t,e⟩:=h;exact⟨_,e⟩
 |str i=>obtain⟨t,e⟩:=h;exact⟨_,e⟩
 |val v=>exact⟨_,h⟩
 |sat P=>refine Ag (h) fun v e _=>?_;exact⟨v,e⟩
def Sp.fm (s:Sp) (P:Value→Prop):Prop:=match s with
 | .any=>∀v,P v
 | .int i=>∀t,P (.int i t)
 | .str y=>∀t,P (.str y t)
 | .val v=>P v
 | .sat Q=>∀v,Q v→P v
theorem Sp.BJ {s:Sp}{P:Value→Prop}(o:s.ok (some v)) (h:s.fm P):P v:=by
 induction s with
 |any=>exact h v
 |int i=>exact o.elim fun t e=>ed e▸h t
 |str y=>exact o.elim fun t e=>ed e▸h t
 |val w=>exact(ed o:v=w)▸h
 |sat Q=>exact o.elim fun w q=>(ed q.1).symm▸h w q.2
theorem Sp.G3 {P:Value→Value→Prop}(o1:s1.ok (some v1)) (o2:s2.ok (some v2)) (h:s1.fm fun a=>s2.fm fun b=>P a b):P v1 v2:=Sp.BJ o2 (Sp.BJ (P:=fun a=>s2.fm fun b=>P a b) o1 h)
noncomputable abbrev Sm:=List (Str×Sp)
def AJ (ks:List Str) (m:Sm) (o:Obj):Prop:=m.map (·.1)=ks∧ks.Nodup∧∃es ep,o.data= .dict es ep∧StrKeys es∧∀p ∈ m,p.2.ok (nsFind es p.1)
structure Cc where
 w:World
 os:OsState
 A:Around
 env:Env
 L:Addr
 ks:List Str
noncomputable abbrev Cc.fo (x:Cc):Cx:=cx x.w x.os
structure Ok (x:Cc) (n:Nat) (gs:List Str):Prop where
 rm:Rm n x.A
 lo:Loc x.env x.L x.ks
 gv:Gv x.env
 gb:Gb x.env gs
noncomputable abbrev full (x:Cc) (m:Sm) (V:Aa):Aa:=(x.L,AJ x.ks m)::V
theorem Ad.app {α β:Type}{a:α}{b:β}{l k:_}(h:Ad a b l):Ad a b (l++k):=by
 induction h with
 |head=>exact .head
 |tail _ ih=>exact .tail ih
theorem Aj.app {α β:Type}{a:α}{b b':β}{l l' k:_}(h:Aj a b b' l l'):Aj a b b' (l++k) (l'++k):=by
 induction h with
 |head=>exact .head
 |tail _ ih=>exact .tail ih
def Sb (W V:Aa):Prop:=∃U,(W++U).Perm V
theorem Sb.refl {V:_}:Sb V V:=⟨[],by rw[eJ]⟩
theorem Sb.trans {U V W:_}(a:Sb U V) (b:Sb V W):Sb U W:=by
 obtain⟨X,p⟩:=a
 obtain⟨Y,q⟩:=b
 exact⟨X++Y,by rw[←fa];exact(p.append_right Y).trans q⟩
theorem Sb.cons {V W y:_}(a:Sb V W):Sb (y::V) (y::W):=BZ (a) fun X p=>⟨X,p.cons y⟩
theorem Sb.perm {V W:_}(p:V.Perm W):Sb V W:=⟨[],by rw[eJ];exact p⟩
theorem Sb.fit {V W:_}(a:Sb V W):B5 V W:=fun _ _ O=>by
 refine Exists.elim (a) fun X p=>?_
 exact(O.perm p.symm).sub (List.sublist_append_left ..)
theorem Sb.skip {V W y:_}(a:Sb V W):Sb V (y::W):=BZ (a) fun X p=>⟨y::X,List.perm_middle.trans (p.cons y)⟩
theorem Sb.app {V W K:_}(a:Sb V W):Sb (V++K) (W++K):=by
 refine Exists.elim (a) fun X p=>?_
 refine⟨X,?_⟩
 rw[fa]
 refine((List.perm_append_comm (l₁:=K) (l₂:=X)).append_left V).trans ?_
 rw[←fa]
 exact p.append_right K
theorem Part.sb {W V:_}(h:Part W V):Sb W V:=by
 induction h with
 |refl=>exact .refl
 |skip _ ih=>exact ih.skip
 |cons p _ ih=>exact ih.cons.trans (.perm p.perm.symm)
def Ev (x:Cc) (F:FM) (m:Sm) (V:Aa) (e:Expr) (s:Sp):Prop:=∀K Vf,Sb (full x m (V++K)) Vf→Run x.fo x.A (eval e x.env) F Vf (fun v F' V'=>F'=F∧Sb (full x m (V++K)) V'∧s.ok (some v))
def Tb (x:Cc) (F:FM) (m:Sm) (V:Aa) (e:Expr) (b:Bool):Prop:=∀K Vf,Sb (full x m (V++K)) Vf→Run x.fo x.A (isTrue e x.env (eval e x.env)) F Vf (fun v F' V'=>F'=F∧Sb (full x m (V++K)) V'∧v=b)
def Rx (x:Cc) (F:FM) (m:Sm) (V:Aa) (e:Expr) (Q:Value→FM→Aa→Prop):Prop:=∀K Vf,Sb (full x m (V++K)) Vf→Run x.fo x.A (eval e x.env) F Vf (fun v F' V'=>Le F F'∧∃W,Sb (full x m (W++K)) V'∧Q v F' W)
def Tx (x:Cc) (F:FM) (m:Sm) (V:Aa) (e:Expr) (Q:Bool→FM→Aa→Prop):Prop:=∀K Vf,Sb (full x m (V++K)) Vf→Run x.fo x.A (isTrue e x.env (eval e x.env)) F Vf (fun v F' V'=>Le F F'∧∃W,Sb (full x m (W++K)) V'∧Q v F' W)
def R (x:Cc) (t:List Stmt) (F:FM) (m:Sm) (V:Aa) (Q:Flow→FM→Sm→Aa→Prop):Prop:=∀K Vf,Sb (full x m (V++K)) Vf→Run x.fo x.A (execs t x.env) F Vf (fun f F' V'=>Le F F'∧∃m' W,Sb (full x m' (W++K)) V'∧Q f F' m' W)
def RV (c:Cx) (A:Around) (k:Code) (F:FM) (V:Aa) (Q:Value→FM→Aa→Prop):Prop:=∀K,AM c A k F (V++K) (fun v F' V'=>Le F F'∧∃W,Sb (W++K) V'∧Q v F' W)
def RC (c:Cx) (A:Around) (t:Sem Value) (F:FM) (V:Aa) (Q:Value→FM→Aa→Prop):Prop:=∀K,Run c A t F (V++K) (fun v F' V'=>Le F F'∧∃W,Sb (W++K) V'∧Q v F' W)
section
variable {s:Sp}{b:Bool}
theorem Ev.mk (h:∀K,Run x.fo x.A (eval e x.env) F (full x m (V++K)) (fun v F' V'=>F'=F∧Sb (full x m (V++K)) V'∧s.ok (some v))):Ev x F m V e s:=fun K _ ft=>Run.fit ft.fit (h K)
theorem Ev.ki (h:∀K Vf (Q:Value→FM→Aa→Prop),Sb (full x m (V++K)) Vf→(∀V' v,Sb (full x m (V++K)) V'→s.ok (some v)→Q v F V')→Run x.fo x.A (eval e x.env) F Vf Q):Ev x F m V e s:=fun K Vf ft=>h K Vf _ ft fun _ _ f o=>BO rfl f o
theorem Ev.fu (h:Ev x F m V e s) {K:Aa}(ft:Sb (full x m (V++K)) Vf) (k:∀V' v,Sb (full x m (V++K)) V'→s.ok (some v)→Q v F V'):Run x.fo x.A (eval e x.env) F Vf Q:=(h K Vf ft).mono fun v _ V' q=>q.1▸k V' v q.2.1 q.2.2
theorem Tb.ki (h:∀K Vf (Q:Bool→FM→Aa→Prop),Sb (full x m (V++K)) Vf→(∀V',Sb (full x m (V++K)) V'→Q b F V')→Run x.fo x.A (isTrue e x.env (eval e x.env)) F Vf Q):Tb x F m V e b:=fun K Vf ft=>h K Vf _ ft fun _ f=>BO rfl f rfl
theorem Tb.fu (h:Tb x F m V e b) {K:Aa}{Q:Bool→FM→Aa→Prop}(ft:Sb (full x m (V++K)) Vf) (k:∀V',Sb (full x m (V++K)) V'→Q b F V'):Run x.fo x.A (isTrue e x.env (eval e x.env)) F Vf Q:=(h K Vf ft).mono fun _ _ V' q=>q.1▸q.2.2▸k V' q.2.1
theorem Rx.ki (h:∀K Vf (Q':Value→FM→Aa→Prop),Sb (full x m (V++K)) Vf→(∀v F' V' W,Le F F'→Sb (full x m (W++K)) V'→Q v F' W→Q' v F' V')→Run x.fo x.A (eval e x.env) F Vf Q'):Rx x F m V e Q:=fun K Vf ft=>h K Vf _ ft fun _ _ _ W le f q=>⟨le,W,f,q⟩
theorem Rx.fu (h:Rx x F m V e Q) {K:Aa}(ft:Sb (full x m (V++K)) Vf) (k:∀v F' V' W,Le F F'→Sb (full x m (W++K)) V'→Q v F' W→Q' v F' V'):Run x.fo x.A (eval e x.env) F Vf Q':=(h K Vf ft).mono fun v F' V' q=>q.2.elim fun W r=>k v F' V' W q.1 r.1 r.2
theorem Rx.to {K:Aa}(h:Rx x F m V e (fun v F' W=>∀V',Sb (full x m (W++K)) V'→Q' v F' V')) (ft:Sb (full x m (V++K)) Vf):Run x.fo x.A (eval e x.env) F Vf Q':=h.fu ft fun _ _ V' _ _ f q=>q V' f
theorem RV.to {k:Code}{K:Aa}(h:RV c A k F V (fun v F' W=>∀V',Sb (W++K) V'→Q' v F' V')):AM c A k F (V++K) Q':=AA.mono (h K) fun _ _ V' q=>q.elim fun v q=>Ak v q.1 (q.2.2.elim fun _ r=>r.2 V' r.1)
theorem Tx.ki (h:∀K Vf (Q':Bool→FM→Aa→Prop),Sb (full x m (V++K)) Vf→(∀v F' V' W,Le F F'→Sb (full x m (W++K)) V'→QB v F' W→Q' v F' V')→Run x.fo x.A (isTrue e x.env (eval e x.env)) F Vf Q'):Tx x F m V e QB:=fun K Vf ft=>h K Vf _ ft fun _ _ _ W le f q=>⟨le,W,f,q⟩
theorem Tx.fu (h:Tx x F m V e QB) {K:Aa}{Q':Bool→FM→Aa→Prop}(ft:Sb (full x m (V++K)) Vf) (k:∀v F' V' W,Le F F'→Sb (full x m (W++K)) V'→QB v F' W→Q' v F' V'):Run x.fo x.A (isTrue e x.env (eval e x.env)) F Vf Q':=(h K Vf ft).mono fun v F' V' q=>q.2.elim fun W r=>k v F' V' W q.1 r.1 r.2
theorem R.ki {t:List Stmt}{Q:Flow→FM→Sm→Aa→Prop}(h:∀K Vf (Q':Flow→FM→Aa→Prop),Sb (full x m (V++K)) Vf→(∀f F' V' m' W,Le F F'→Sb (full x m' (W++K)) V'→Q f F' m' W→Q' f F' V')→Run x.fo x.A (execs t x.env) F Vf Q'):R x t F m V Q:=fun K Vf ft=>h K Vf _ ft fun _ _ _ m W le f q=>⟨le,m,W,f,q⟩
theorem R.fu {t:List Stmt}{Q:Flow→FM→Sm→Aa→Prop}(h:R x t F m V Q) {K:Aa}{Q':Flow→FM→Aa→Prop}(ft:Sb (full x m (V++K)) Vf) (k:∀f F' V' m' W,Le F F'→Sb (full x m' (W++K)) V'→Q f F' m' W→Q' f F' V'):Run x.fo x.A (execs t x.env) F Vf Q':=(h K Vf ft).mono fun v F' V' q=>q.2.elim fun m' q2=>q2.elim fun W r=>k v F' V' m' W q.1 r.1 r.2
theorem RC.fu {t:Sem Value}(h:RC c A t F V Q) {K:Aa}(k:∀v F' V' W,Le F F'→Sb (W++K) V'→Q v F' W→Q' v F' V'):Run c A t F (V++K) Q':=(h K).mono fun v F' V' q=>q.2.elim fun W r=>k v F' V' W q.1 r.1 r.2
theorem Rx.ev (h:Ev x F m V e s) (k:∀v,s.ok (some v)→Q v F V):Rx x F m V e Q:=.ki fun K Vf Q' ft kk=>h.fu ft fun V1 v f o=>kk v F V1 V (Le.refl _) f (k v o)
theorem Tx.tb (h:Tb x F m V e b) (k:QB b F V):Tx x F m V e QB:=.ki fun K Vf Q ft kk=>h.fu ft fun V1 f=>kk b F V1 V (Le.refl _) f k
theorem AJ.ns (ho:h.get? L=some o) (y:AJ ks m o):∃mm,h.Ns L mm∧∀p ∈ m,p.2.ok (mm p.1):=by
 obtain⟨-, -,es,ep,hd,hk,hm⟩:=y
 exact⟨fun n=>nsFind es n,(CC o es ep ho hd hk (fun _=>rfl)),hm⟩
theorem Ev.nm (ok:Ok x n gs) (h:Ad id_ s m) (hs:autoParam (s.sure=true) aR):Ev x F m V (.Name id_ p) s:=.mk fun K st S=>by
 refine Ag (S.own.get .head) fun o ho y=>?_
 refine Ag (y.ns ho) fun mm hn hm=>?_
 have q:=hm _ h.mem
 obtain⟨v,hv⟩:=Sp.some_of q hs
 simp only[hv] at q
 have hk:id_ ∈ x.ks:=y.1▸C3 h
 exact wpAny_Name (wpAny_loadName_local ok.lo.kind (ok.lo.loc _ hk) (ok.lo.at_▸hn) hv (Dt F _ S rfl Sb.refl q)) (ok.lo.dbg _ hk)
theorem Run.NA (lo:Loc env L ks) (h:Ad id_ s m) (hs:autoParam (s.sure=true) aR) (hQ:∀v,s.ok (some v)→Q v F ((L,AJ ks m)::V)):Run c A (loadName env id_) F ((L,AJ ks m)::V) Q:=fun st S=>by
 refine Ag (S.own.get .head) fun o ho y=>?_
 refine Ag (y.ns ho) fun mm hn hm=>?_
 have q:=hm _ h.mem
 obtain⟨v,hv⟩:=Sp.some_of q hs
 simp only[hv] at q
 have hk:id_ ∈ ks:=y.1▸C3 h
 exact wpAny_loadName_local lo.kind (lo.loc _ hk) (lo.at_▸hn) hv (Ae F _ S (hQ v q))
theorem Run.D9 (lo:Loc env L ks) (hx:Aj id_ s0 s m m') (hv:s.ok (some v)) (h:QU () F ((L,AJ ks m')::V)):Run c A (storeName env id_ v) F ((L,AJ ks m)::V) QU:=.mk fun st S=>by
 refine Ag (S.own.get .head) fun o ho y=>?_
 refine Ag (y.ns ho) fun mm hn hm=>?_
 have kx:id_ ∈ ks:=y.1▸C3 hx.has
 have e:env.locals=L:=lo.at_
 refine wpAny_storeName_local (env:=env) (lo.loc _ kx) (e▸hn) (fun h' hn' hs'=>Ae F _ ⟨S.own.put .head (e▸hs') ?_,S.base,S.gens,S.os⟩ h) (by exact(lo.kind)▸rfl)
 refine Cm (hn') fun o' es' ep' ho' hd' hk' hm'=>?_
 refine⟨o',e▸ho',hx.keys.trans y.1,y.2.1,es',ep',hd',hk',fun q hq=>?_⟩
 rw[hm']
 refine(?_:q.2.ok (if q.1=id_ then some v else mm q.1))
 rcases hx.mem (y.1▸y.2.1) q hq with rfl|⟨hq,hne⟩
 ·refine(if_pos rfl)▸?_;exact hv
 ·rw[if_neg hne];exact hm _ hq
def Ar (s:Sp) (o:Obj):Prop:=∃ov,o.data= .cell ov∧s.ok ov
theorem Ev.ce (ok:Ok x n gs) (cl:Cl x.env id_ a) (h:Ad a (Ar s) V) (hs:autoParam (s.sure=true) aR):Ev x F m V (.Name id_ p) s:=.mk fun K st S=>by
 obtain⟨o,ho,ov,hd,hv⟩:=S.own.get h.app.tail
 obtain⟨v,e⟩:=Sp.some_of hv hs
 subst e
 exact wpAny_Name (wpAny_loadName_cell ok.gv.kind cl.kind cl.at_ (Ak o ho hd) (Dt F _ S rfl Sb.refl hv)) cl.dbg
theorem Run.J5 (g:Gv env) (cl:Cl env id_ a) (hp:Aj a (Ar s0) (Ar s) V V') (hv:s.ok (some v)) (h:QU () F V'):Run c A (storeName env id_ v) F V QU:=.mk fun st S=>by
 obtain⟨o,ho,ov,hd, -⟩:=S.own.get hp.has
 refine wpAny_storeName_cell g.kind cl.kind cl.at_ ⟨o,ho,hd⟩ fun h' hc' hs'=>Ae F V' ⟨S.own.put hp hs' ?_,S.base,S.gens,S.os⟩ h
 refine Ag (hc') fun o' e1 e2=>?_
 exact⟨o',e1,_,e2,hv⟩
theorem Ev.int {i k:_}:Ev x F m V (.Constant (.int i) k p) (.int i):=.mk fun _=>Run.int fun t=>⟨rfl,Sb.refl,t,rfl⟩
theorem Ev.str {y k:_}:Ev x F m V (.Constant (.str y) k p) (.str y):=.mk fun _=>Run.str fun t=>⟨rfl,Sb.refl,t,rfl⟩
theorem Ev.none {k:_}:Ev x F m V (.Constant .none k p) (.val .none):=.mk fun _=>Run.none (BO rfl Sb.refl rfl)
theorem Ev.bool {k:_}:Ev x F m V (.Constant (.bool b) k p) (.val (.bool b)):=.mk fun _=>Run.bool (BO rfl Sb.refl rfl)
theorem Ev.gl (ok:Ok x n gs) (hx:id_ ∈ gs) (hv:Gl x.fo id_ v):Ev x F m V (.Name id_ p) (.val v):=.mk fun _=>Run.lg ok.gv ok.gb hx hv (BO rfl Sb.refl rfl)
theorem Ev.bl (ok:Ok x n gs) (hx:id_ ∈ gs) (hv:Bl x.fo id_ v):Ev x F m V (.Name id_ p) (.val v):=.mk fun _=>Run.lb ok.gv ok.gb hx hv (BO rfl Sb.refl rfl)
def Aq (op:Operator) (s1 s2 s3:Sp):Prop:=∀(c:Cx) (A:Around) (F:FM) (V:Aa) (v1 v2:Value) (Q:Value→FM→Aa→Prop),s1.ok (some v1)→s2.ok (some v2)→(∀v,s3.ok (some v)→Q v F V)→Run c A (binaryOp op v1 v2) F V Q
theorem Aq.of {op}(h:∀(c:Cx) (A:Around) (F:FM) (V:Aa) (Q:Value→FM→Aa→Prop),(∀v,s3.ok (some v)→Q v F V)→s1.fm fun v1=>s2.fm fun v2=>Run c A (binaryOp op v1 v2) F V Q):Aq op s1 s2 s3:=fun c A F V _ _ Q o1 o2 q=>Sp.G3 (P:=fun v1 v2=>Run c A (binaryOp op v1 v2) F V Q) o1 o2 (h c A F V Q q)
theorem Ev.bin {op}(h1:Ev x F m V e1 s1) (h2:Ev x F m V e2 s2) (hb:Aq op s1 s2 s3):Ev x F m V (.BinOp e1 op e2 p) s3:=.ki fun K Vf Q ft kk=>.bin (h1.fu ft fun V1 v1 f1 o1=>h2.fu f1 fun V2 v2 f2 o2=>hb _ _ _ _ v1 v2 _ o1 o2 fun v=>kk V2 v f2)
theorem Aq.Aw {i:Int}:Aq .Add (.int i) (.int j) (.int (i+j)):=.of fun _ _ _ _ _ h t u=>Run.Aw fun k=>h _ ⟨k,rfl⟩
theorem Aq.Bh {i:Int}:Aq .Sub (.int i) (.int j) (.int (i - j)):=.of fun _ _ _ _ _ h t u=>Run.Bh fun k=>h _ ⟨k,rfl⟩
theorem Aq.Io {i j:Str}(hi:i.length≤100000) (hj:j.length≤100000):Aq .Add (.str i) (.str j) (.str (i++j)):=.of fun _ _ _ _ _ h t u=>Run.Io (fun k=>h _ ⟨k,rfl⟩) (by simp only[eT];lia)
theorem Ev.neg {i:Int}(h1:Ev x F m V e1 (.int i)):Ev x F m V (.UnaryOp .USub e1 p) (.int (-i)):=.ki fun K Vf Q ft kk=>.dW (h1.fu ft fun V1 v1 f1 o1=>Sp.BJ (s:=.int i) (P:=fun v=>Run x.fo x.A (unaryOp .USub v) F V1 Q) o1 fun t=>Run.YC fun k=>kk V1 _ f1 ⟨k,rfl⟩)
def Ac (op:CmpOp) (s1 s2:Sp) (b:Bool):Prop:=∀(c:Cx) (A:Around) (F:FM) (V:Aa) (v1 v2:Value) (Q:Value→FM→Aa→Prop),s1.ok (some v1)→s2.ok (some v2)→Q (.bool b) F V→Run c A (compareOp op v1 v2) F V Q
theorem Ac.of {op}(h:∀(c:Cx) (A:Around) (F:FM) (V:Aa) (Q:Value→FM→Aa→Prop),Q (.bool b) F V→s1.fm fun v1=>s2.fm fun v2=>Run c A (compareOp op v1 v2) F V Q):Ac op s1 s2 b:=fun c A F V _ _ Q o1 o2 q=>Sp.G3 (P:=fun v1 v2=>Run c A (compareOp op v1 v2) F V Q) o1 o2 (h c A F V Q q)
theorem Ev.cmp {op}(h1:Ev x F m V e1 s1) (h2:Ev x F m V e2 s2) (hb:Ac op s1 s2 b) (hm:autoParam (behindInMarks op e2=false) aU):Ev x F m V (.Compare e1 [op] [e2] p) (.val (.bool b)):=.ki fun K Vf Q ft kk=>.cmp (h1.fu ft fun V1 v1 f1 o1=>h2.fu f1 fun V2 v2 f2 o2=>hb _ _ _ _ v1 v2 _ o1 o2 (kk V2 _ f2 rfl)) hm
theorem Tb.cmp {op}(h1:Ev x F m V e1 s1) (h2:Ev x F m V e2 s2) (hb:Ac op s1 s2 b) (hm:autoParam (behindInMarks op e2=false) aU):Tb x F m V (.Compare e1 [op] [e2] p) b:=.ki fun K Vf Q ft kk=>.DF (h1.fu ft fun V1 v1 f1 o1=>h2.fu f1 fun V2 v2 f2 o2=>hb _ _ _ _ v1 v2 _ o1 o2 (Ak b rfl (kk V2 f2))) hm
theorem Tb.Sr {op1 op2:CmpOp}(h1:Ev x F m V e1 s1) (h2:Ev x F m V e2 s2) (h3:Ev x F m V e3 s3) (hb1:Ac op1 s1 s2 b1) (hb2:Ac op2 s2 s3 b2) (hm:autoParam (lastMarks [op1,op2] [e2,e3]=false) aU):
  Tb x F m V (.Compare e1 [op1,op2] [e2,e3] p) (b1 && b2):=.ki fun K Vf Q ft kk=>.dk (h1.fu ft fun V1 v1 f1 o1=>h2.fu f1 fun V2 v2 f2 o2=>hb1 _ _ _ _ v1 v2 _ o1 o2 (AE b1 rfl (fun q=>by subst q;exact kk V2 f2) (fun q=>by subst q;exact h3.fu f2 fun V3 v3 f3 o3=>hb2 _ _ _ _ v2 v3 _ o2 o3 ⟨b2,rfl,kk V3 f3⟩))) hm
section
variable {i:Int}
theorem Ac.DO:Ac .Eq (.int i) (.int j) (i==j):=.of fun _ _ _ _ _ h t u=>Run.DO h
theorem Ac.ltI:Ac .Lt (.int i) (.int j) (decide (i<j)):=.of fun _ _ _ _ _ h t u=>Run.ltI h
theorem Ac.BV:Ac .Gt (.int i) (.int j) (decide (i>j)):=.of fun _ _ _ _ _ h t u=>Run.BV h
theorem Ac.DQ:Ac .GtE (.int i) (.int j) (decide (i≥j)):=.of fun _ _ _ _ _ h t u=>Run.DQ h
theorem Ac.AO:Ac .Eq (.str y) (.str z) (y==z):=.of fun _ _ _ _ _ h t u=>Run.AO h
theorem Ac.Dx:Ac .NotEq (.str y) (.str z) (y !=z):=.of fun _ _ _ _ _ h t u=>Run.Dx h
theorem Ac.HP:Ac .LtE (.str y) (.str z) (!(decide (z.cps.toList<y.cps.toList))):=.of fun _ _ _ _ _ h t u=>Run.HP h
theorem Ac.Jo:Ac .Gt (.str y) (.str z) (decide (z.cps.toList<y.cps.toList)):=.of fun _ _ _ _ _ h t u=>Run.Jo h
theorem Ac.FR:Ac .In (.str y) (.str z) (Txt.contains z y):=.of fun _ _ _ _ _ h t u=>Run.FR h
theorem Ac.N5:Ac .NotIn (.str y) (.str z) (!Txt.contains z y):=.of fun _ _ _ _ _ h t u=>Run.YO h
theorem Ac.eqB {a:Bool}:Ac .Eq (.val (.bool a)) (.val (.bool b)) (a==b):=.of fun _ _ _ _ _ h=>Run.eqB h
theorem Ac.GN:Ac .Is (.val v) (.val .none) (v== .none):=.of fun _ _ _ _ _ h=>Run.GN h
theorem Ac.Nf:Ac .Is (.int i) (.val .none) false:=.of fun _ _ _ _ _ h t=>Run.GN h
end
theorem Tb.not (h:Tb x F m V e b):Tb x F m V (.UnaryOp .Not e p) (!b):=.ki fun K Vf Q ft kk=>.Ps (h.fu ft fun V1 f=>kk V1 f)
theorem Tb.and (h1:Tb x F m V e1 b1) (h2:b1=true→Tb x F m V e2 b2):Tb x F m V (.BoolOp .And [e1,e2] p) (b1 && b2):=.ki fun K Vf Q ft kk=>.J8 (.FB (h1.fu ft fun V1 f=>⟨fun q=>by
 subst q
 exact .FB ((h2 rfl).fu f fun V2 f2=>⟨fun q=>by subst q;exact .Kq (kk V2 f2),fun q=>by subst q;exact kk V2 f2⟩),fun q=>by subst q;exact kk V1 f⟩))
theorem Tb.or (h1:Tb x F m V e1 b1) (h2:b1=false→Tb x F m V e2 b2):Tb x F m V (.BoolOp .Or [e1,e2] p) (b1||b2):=.ki fun K Vf Q ft kk=>.J8 (.Oi (h1.fu ft fun V1 f=>⟨fun q=>by
 subst q
 exact .Oi ((h2 rfl).fu f fun V2 f2=>⟨fun q=>by subst q;exact .Zh (kk V2 f2),fun q=>by subst q;exact kk V2 f2⟩),fun q=>by subst q;exact kk V1 f⟩))
def Bz (s:Sp) (b:Bool):Prop:=∀(c:Cx) (A:Around) (F:FM) (V:Aa) (v:Value) (Q:Bool→FM→Aa→Prop),s.ok (some v)→Q b F V→Run c A (truthy v) F V Q
theorem Bz.of (h:∀(c:Cx) (A:Around) (F:FM) (V:Aa) (Q:Bool→FM→Aa→Prop),Q b F V→s.fm fun v=>Run c A (truthy v) F V Q):Bz s b:=fun c A F V _ Q o q=>Sp.BJ (P:=fun v=>Run c A (truthy v) F V Q) o (h c A F V Q q)
theorem Bz.bool:Bz (.val (.bool b)) b:=.of fun _ _ _ _ _ h=>Run.tB h
theorem Bz.none:Bz (.val .none) false:=.of fun _ _ F V _ h=>fun st S=>PyProof.Rows.truthy_none (Ae F V S h)
theorem Tb.val (h:Ev x F m V e s) (ht:Bz s b) (he:autoParam (isTrue e x.env (eval e x.env)=(do let v ←eval e x.env;PySem.standAt e.pos;PySem.holding [v] (truthy v))) aR):Tb x F m V e b:=.ki fun K Vf Q ft kk=>
 .of_eq he (.bind (h.fu ft fun V1 v f d=>.bind (.standAt (.holding (ht _ _ _ _ v _ d (kk V1 f))))))
theorem Ev.ite (h:Tb x F m V e b) (h1:b=true→Ev x F m V e1 s) (h2:b=false→Ev x F m V e2 s):Ev x F m V (.IfExp e e1 e2 p) s:=.ki fun K Vf Q ft kk=>
 .M5 (h.fu ft fun V1 f=>⟨fun q=>(h1 q).fu f kk,fun q=>(h2 q).fu f kk⟩)
end
noncomputable def C9 (e:Expr):Bool:= !Nat.beq e.ctorIdx 26
noncomputable def notStar (e:Expr):Bool:= !Nat.beq e.ctorIdx 22
theorem EE {o i:Value}(h:C9 e=true):subscripted e false o i=operate [o,i] (getItem o i):=by
 rcases e with _|_<;>first|rfl|contradiction
theorem NF {r:Value}:letTemporaryGo e (.str y t) r=(Pure.pure ():Sem Unit):=by
 rcases e with _|_<;>rfl
theorem AD (h:notStar e=true):starEach (e::es) env=(false,eval e env)::starEach es env:=by
 rcases e with _|_<;>first|rfl|contradiction
noncomputable def A7:List Sp→List Value→Prop
 |[],[]=>True
 |s::ss,v::vs=>s.ok (some v)∧A7 ss vs
 |_,_=>False
noncomputable def CL:List Sp→(List Value→Prop)→Prop
 |[],P=>P []
 |s::ss,P=>s.fm fun v=>CL ss fun vs=>P (v::vs)
theorem A7.fm {P:List Value→Prop}(o:A7 ss vs) (h:CL ss P):P vs:=by
 induction ss generalizing vs P with
 |nil=>cases vs with|nil=>exact h|cons=>exact o.elim
 |cons s ss ih=>cases vs with|nil=>exact o.elim|cons v vs=>exact ih (P:=fun vs=>P (v::vs)) o.2 (Sp.BJ (P:=fun v=>CL ss fun vs=>P (v::vs)) o.1 h)
noncomputable def AZ (x:Cc) (F:FM) (m:Sm) (V:Aa):List Expr→List Sp→Prop
 |[],[]=>True
 |e::es,s::ss=>notStar e=true∧Ev x F m V e s∧AZ x F m V es ss
 |_,_=>False
theorem A7.nil {vs:_}(h:A7 [] vs):vs=[]:=by cases vs with|nil=>rfl|cons=>exact h.elim
theorem A7.cons {s ss vs:_}(h:A7 (s::ss) vs):∃v r,vs=v::r∧s.ok (some v)∧A7 ss r:=by cases vs with|nil=>cases h|cons v r=>exact Bg v r rfl h.1 h.2
theorem A7.len:∀{ss vs},A7 ss vs→vs.length=ss.length
 |[],[],_=>rfl
 |_::_,_::_,h=>by simp[A7.len h.2]
theorem A7.one {s vs:_}(h:A7 [s] vs):∃v,vs=[v]∧s.ok (some v):=by
 refine Bk (h.cons) fun v r e a b=>?_;have e':=b.nil;refine e'▸?_;exact Ak v e a
theorem A7.two {s s' vs:_}(h:A7 [s,s'] vs):∃v v',vs=[v,v']∧s.ok (some v)∧s'.ok (some v'):=by
 refine Bk (h.cons) fun v r e a b=>?_;refine Ag (b.one) fun v' e' d=>?_;subst e';exact Bg v v' e a d
theorem A7.three {s s' s'' vs:_}(h:A7 [s,s',s''] vs):∃v v' v'',vs=[v,v',v'']∧s.ok (some v)∧s'.ok (some v')∧s''.ok (some v''):=by
 refine Bk (h.cons) fun v r e a b=>?_;refine Bk (A7.two b) fun v' v'' e' d g=>?_;subst e';exact CC v v' v'' e a d g
def up {α:Type}(Q:α→FM→Aa→Prop) (a:α) (F:FM) (V:Aa):Prop:=∀h,Own F V h→∃F1 V1,Le F F1∧Own F1 V1 h∧Q a F1 V1
theorem Run.up {α:Type}{t:Sem α}{Q:α→FM→Aa→Prop}(h:Run c A t F V (up Q)):Run c A t F V Q:=fun s S=>
 (Run.fu h S fun a s' F' V' S' k=>by
  obtain⟨F1,V1,le,O,q⟩:=k _ S'.own
  exact⟨F1,V1,⟨⟨O,Le.trans S'.base le,S'.gens,S'.os⟩,S'.tk⟩,q⟩)
theorem up.one {α:Type}{Q:α→FM→Aa→Prop}{a:α}(h:Q a F V):up Q a F V:=fun _ O=>Bg F V (Le.refl _) O h
theorem up.AY {α:Type}{Q:α→FM→Aa→Prop}{a:α}{b:Addr}(h:∀F1 o,Le F F1→F1 b=some o→P o→up Q a F1 V):up Q a F ((b,P)::V):=fun hp O=>by
 refine EX (O.freeze) fun F' o le ha hp' O'=>?_
 refine Bk (h F' o le ha hp' hp O') fun F1 W le1 O1 r=>?_
 exact Bg F1 W (Le.trans le le1) O1 r
noncomputable def Fw (x:Cc) (F:FM) (m:Sm) (V:Aa):Option Expr→Option Int→Prop
 |none,none=>True
 |some e,some i=>Ev x F m V e (.int i)
 |_,_=>False
section
variable {s:Sp}{b:Bool}
theorem Ev.kI {i:Int}(h:Ev x F m V e (.int i)) {K:Aa}(ft:Sb (full x m (V++K)) Vf) (k:∀V' t,Sb (full x m (V++K)) V'→Q (.int i t) F V'):Run x.fo x.A (eval e x.env) F Vf Q:=h.fu ft fun V' v f o=>Sp.BJ (s:=.int i) (P:=fun v=>Q v F V') o fun t=>k V' t f
theorem Ev.kS (h:Ev x F m V e (.str y)) {K:Aa}(ft:Sb (full x m (V++K)) Vf) (k:∀V' t,Sb (full x m (V++K)) V'→Q (.str y t) F V'):Run x.fo x.A (eval e x.env) F Vf Q:=h.fu ft fun V' v f o=>Sp.BJ (s:=.str y) (P:=fun v=>Q v F V') o fun t=>k V' t f
theorem Ev.kV (h:Ev x F m V e (.val v)) {K:Aa}(ft:Sb (full x m (V++K)) Vf) (k:∀V',Sb (full x m (V++K)) V'→Q v F V'):Run x.fo x.A (eval e x.env) F Vf Q:=h.fu ft fun V' w f o=>Sp.BJ (s:=.val v) (P:=fun v=>Q v F V') o (k V' f)
theorem AZ.nil:AZ x F m V [] []:=trivial
theorem AZ.cons {es ss:_}(h:Ev x F m V e s) (hs:AZ x F m V es ss) (hn:autoParam (notStar e=true) aR):AZ x F m V (e::es) (s::ss):=BO hn h hs
theorem AZ.run (h:AZ x F m V es ss) (pos:Pos) (K Vf:Aa) (ft:Sb (full x m (V++K)) Vf):Run x.fo x.A (spliced (backTo pos (starEach es x.env))) F Vf (fun vs F' V'=>F'=F∧Sb (full x m (V++K)) V'∧A7 ss vs):=by
 induction es generalizing ss Vf with
 |nil=>
  induction ss with
  |nil=>exact Run.A0 ⟨rfl,ft,trivial⟩
  |cons=>induction h
 |cons e es ih=>
  induction ss with
  |nil=>exact h.elim
  |cons s ss=>
   refine Bj (h) fun hn h hs=>?_
   exact Run.AL (h.fu ft fun V1 v f1 o1=>(ih hs V1 f1).mono fun vs _ V2 q=>C4 q.1 q.2.1 o1 q.2.2) (AD hn)
theorem AZ.fu (h:AZ x F m V es ss) {K:Aa}{Q:List Value→FM→Aa→Prop}(ft:Sb (full x m (V++K)) Vf) (k:∀V' vs,Sb (full x m (V++K)) V'→A7 ss vs→Q vs F V'):Run x.fo x.A (spliced (backTo pos (starEach es x.env))) F Vf Q:=(h.run pos K Vf ft).mono fun vs _ V' q=>q.1▸k V' vs q.2.1 q.2.2
theorem Uf (h:k<N) (hl:N<10000):fitsSsize (k:Int)=true:=by unfold fitsSsize;simp only[Bool.not_eq_true',Bool.or_eq_false_iff,decide_eq_false_iff_not];lia
theorem MA (hv:vs[k]? =some v):k<vs.length:=(List.getElem?_eq_some_iff.mp hv).1
theorem Ev.Bn {c:Nat}{i:Int}(h1:Ev x F m V e1 (.str y)) (h2:Ev x F m V e2 (.int i)) (hd:D y k (c::r)) (hi:i=k) (hl:y.length<10000) (hp:autoParam (C9 e2=true) aR):
  Ev x F m V (.Subscript e1 e2 p) (.str (ch c)):=by
 subst hi
 have hk:k<y.length:=hd.len▸Nat.lt_add_of_pos_right (eA _)
 refine .ki fun K Vf Q ft kk=>.ED (h1.kS ft fun V1 t f1=>h2.kI f1 fun V2 u f2=>Run.Nl (by simp+arith) (Int.ofNat_le.mpr ‹_›) (Uf hk hl) (fun k2=>kk V2 _ f2 ⟨k2,?_⟩) (EE hp) (fun _=>NF))
 rw[hd.item]
theorem Ev.GP {i:Int}(h1:Ev x F m V e1 (.val (.ref l))) (h2:Ev x F m V e2 (.int i)) (hl:Ls F l vs) (hv:vs[k]? =some v) (hi:i=k) (hb:vs.length≤100000) (ho:s.ok (some v)) (hp:autoParam (C9 e2=true) aR):
  Ev x F m V (.Subscript e1 e2 p) s:=.ki fun K Vf Q ft kk=>.ED (h1.kV ft fun V1 f1=>h2.kI f1 fun V2 u f2=>Run.GP hl hi (by have:=MA hv;lia) hv (kk V2 _ f2 ho) (EE hp))
theorem Ev.B9 {i:Int}(h1:Ev x F m V e1 (.val (.ref l))) (h2:Ev x F m V e2 (.int i)) (hl:Ad l (Ab vs) V) (hv:vs[k]? =some v) (hi:i=k) (hb:vs.length≤100000) (ho:s.ok (some v)) (hp:autoParam (C9 e2=true) aR):
  Ev x F m V (.Subscript e1 e2 p) s:=.ki fun K Vf Q ft kk=>.ED (h1.kV ft fun V1 f1=>h2.kI f1 fun V2 u f2=>Run.fit f2.fit (Run.B9 (Ad.tail hl.app) hi (by have:=MA hv;lia) hv (kk _ _ Sb.refl ho) (EE hp)))
theorem Ev.JA (h1:Ev x F m V e1 (.val (.ref l))) (h2:Ev x F m V e2 (.int (-1))) (hl:Ad l (Ab (vs++[v])) V) (hb:vs.length≤10000) (ho:s.ok (some v)) (hp:autoParam (C9 e2=true) aR):
  Ev x F m V (.Subscript e1 e2 p) s:=.ki fun K Vf Q ft kk=>.ED (h1.kV ft fun V1 f1=>h2.kI f1 fun V2 u f2=>Run.fit f2.fit (Run.JA (i:=vs.length) (Ad.tail hl.app) (by rw[eO];simp;simp+arith) (er _) (er _) (by simp) (kk _ _ Sb.refl ho) (EE hp)))
theorem Ev.Bq {i:Int}(h1:Ev x F m V e1 (.val (.ref l))) (h2:Ev x F m V e2 (.int i)) (hl:Tu F l vs) (hv:vs[k]? =some v) (hi:i=k) (ho:s.ok (some v)) (hk:k<1000:=by decide) (hp:autoParam (C9 e2=true) aR):
  Ev x F m V (.Subscript e1 e2 p) s:=by
 subst hi
 exact .ki fun K Vf Q ft kk=>.ED (h1.kV ft fun V1 f1=>h2.kI f1 fun V2 u f2=>Run.Bq hl (by lia) hv (kk V2 _ f2 ho) (EE hp))
theorem Fw.run {o:Option Expr}{i:Option Int}(h:Fw x F m V o i):∀K Vf,Sb (full x m (V++K)) Vf→Run x.fo x.A (evalPart o x.env) F Vf (fun v F' V'=>F'=F∧Sb (full x m (V++K)) V'∧IsPart v i):=fun K Vf ft=>by
 match o,i,h with
 |none,none,_=>exact Run.H0 ⟨rfl,ft,.none⟩
 |some e,some i,h=>exact Run.G4 (Ev.kI h ft fun V1 t f1=>⟨rfl,f1,.int _ _⟩)
theorem Fw.fu {o:Option Expr}{i:Option Int}(h:Fw x F m V o i) {K:Aa}(ft:Sb (full x m (V++K)) Vf) (k:∀V' v,Sb (full x m (V++K)) V'→IsPart v i→Q v F V'):Run x.fo x.A (evalPart o x.env) F Vf Q:=(h.run K Vf ft).mono fun v _ V' q=>q.1▸k V' v q.2.1 q.2.2
theorem Ev.sl {lo hi:Option Expr}{i j:Option Int}(h1:Ev x F m V (.Name id_ q) (.str y)) (h2:Fw x F m V lo i) (h3:Fw x F m V hi j) (hy:y.length≤10000):
  Ev x F m V (.Subscript (.Name id_ q) (.Slice lo hi Option.none p) pos) (.str (Txt.slice y i j)):=.ki fun K Vf Q ft kk=>.aZ (h1.kS ft fun V1 t f1=>h2.fu f1 fun V2 v2 f2 o2=>h3.fu f2 fun V3 v3 f3 o3=>⟨y,t,i,j,rfl,o2,o3,eb ‹_› (d7 rfl),fun k=>kk V3 _ f3 ⟨k,rfl⟩⟩) (by intro _ _;rfl)
theorem Fc {K:Aa}(f:Sb (full x m (V++K)) Vf):Sb (V++((x.L,AJ x.ks m)::K)) Vf:=(Sb.perm List.perm_middle).trans f
theorem Fd {K:Aa}(f:Sb (V++((x.L,AJ x.ks m)::K)) Vf):Sb (full x m (V++K)) Vf:=(Sb.perm List.perm_middle.symm).trans f
theorem RV.fu {k:Code}{K:Aa}(h:RV x.fo x.A k F V Q) (f:Sb (full x m (V++K)) Vf):AM x.fo x.A k F Vf (fun v F' V'=>Le F F'∧∃W,Sb (full x m (W++K)) V'∧Q v F' W):=
 AA.fit (Fc f).fit (AA.mono (h _) fun _ _ _ q=>q.elim fun v q=>AE v q.1 q.2.1 (q.2.2.elim fun W r=>⟨W,Fd r.1,r.2⟩))
theorem Rx.fn (ok:Ok x n gs) (hx:id_ ∈ gs) (hv:Gl x.fo id_ (.ref a)) (fn:Fun x.fo a fd) (he:AZ x F m V (e::es) ss)
  (h:∀vs,A7 ss vs→RV x.fo x.A (.call (.ref a) ⟨vs,[]⟩) F V Q):Rx x F m V (.Call (.Name id_ p) (e::es) [] pos) Q:=fun K Vf ft=>by
 refine .CA (Run.lg ok.gv ok.gb hx hv (Run.Gx fn (he.fu ft fun V1 vs f1 o1=>(h vs o1).fu f1) (AD ?_)))
 rcases es with _|_<;>rcases ss with _|_<;>first|exact he.1|exact he.elim
theorem plain_any (h:∀e ∈ es,notStar e=true):(backTo pos (starEach es env)).any (·.1)=false:=by
 induction es with
 |nil=>rfl
 |cons e es ih=>
  refine(AD (h e (.head _)))▸?_
  have:=ih fun y hy=>h y (.tail _ hy)
  exact this
theorem AZ.star (h:AZ x F m V es ss):∀e ∈ es,notStar e=true:=by
 induction es generalizing ss with
 |nil=>intro e he;contradiction
 |cons e es ih=>
  induction ss with
  |nil=>exact h.elim
  |cons s ss=>
   refine Bj (h) fun hn h hs=>?_
   intro y hy
   rcases fj hy with rfl|hy
   ·exact hn
   ·exact ih hs y hy
theorem RC.run {t:Sem Value}{K:Aa}(h:RC x.fo x.A t F V Q) (f:Sb (full x m (V++K)) Vf):Run x.fo x.A t F Vf (fun v F' V'=>Le F F'∧∃W,Sb (full x m (W++K)) V'∧Q v F' W):=
 Run.fit (Fc f).fit (h.fu fun v F' V' W le ft q=>⟨le,W,Fd ft,q⟩)
theorem Rx.bi (ok:Ok x n gs) (hx:id_ ∈ gs) (hv:Bl x.fo id_ (.builtin fid)) (he:AZ x F m V (e::es) ss)
  (h:∀vs,A7 ss vs→RC x.fo x.A (PySem.call (.builtin fid) vs) F V Q):Rx x F m V (.Call (.Name id_ p) (e::es) [] pos) Q:=fun K Vf ft=>by
 have hs:=he.star
 exact .CA (Run.lb ok.gv ok.gb hx hv (Run.Dp (he.fu ft fun V1 vs f1 o1=>(h vs o1).run f1) (AD (hs e (.head _))) (plain_any fun y hy=>hs y (.tail _ hy))))
theorem Rx.ty (ok:Ok x n gs) (hx:id_ ∈ gs) (hv:Bl x.fo id_ (.type T)) (he:AZ x F m V (e::es) ss)
  (h:∀vs,A7 ss vs→RC x.fo x.A (PySem.call (.type T) vs) F V Q):Rx x F m V (.Call (.Name id_ p) (e::es) [] pos) Q:=fun K Vf ft=>by
 have hs:=he.star
 exact .CA (Run.lb ok.gv ok.gb hx hv (Run.SF (he.fu ft fun V1 vs f1 o1=>(h vs o1).run f1) (AD (hs e (.head _))) (plain_any fun y hy=>hs y (.tail _ hy))))
theorem Rx.Pv (ok:Ok x n gs) (hx:id_ ∈ gs) (hv:Bl x.fo id_ (.type T)) (h:RC x.fo x.A (PySem.call (.type T) []) F V Q):Rx x F m V (.Call (.Name id_ p) [] [] pos) Q:=fun K Vf ft=>
 .CA (Run.lb ok.gv ok.gb hx hv (Run.SG (h.run ft)))
theorem RC.pure {t:Sem Value}(s:Sp) (h:∀(V:Aa) (Q:Value→FM→Aa→Prop),(∀v,s.ok (some v)→Q v F V)→Run x.fo x.A t F V Q) (k:∀v,s.ok (some v)→Q v F V):RC x.fo x.A t F V Q:=fun K=>h _ _ fun v hv=>⟨Le.refl _,V,Sb.refl,k v hv⟩
theorem Ev.rx (h:∀Q:Value→FM→Aa→Prop,(∀v,s.ok (some v)→Q v F V)→Rx x F m V e Q):Ev x F m V e s:=.ki fun K Vf Q ft kk=>
 (h (fun v F' W=>∀V',Sb (full x m (W++K)) V'→Q v F' V') (fun v hv V' f=>kk V' v f hv)).fu ft fun v F' V' W _ f q=>q V' f
theorem Rx.BI (ok:Ok x n gs) (hx:id_ ∈ gs) (hv:Gl x.fo id_ (.ref a)) (fn:Fun x.fo a fd) (he:AZ x F m V (e::es) ss) (h:CL ss fun vs=>RV x.fo x.A (.call (.ref a) ⟨vs,[]⟩) F V Q):Rx x F m V (.Call (.Name id_ p) (e::es) [] pos) Q:=.fn ok hx hv fn he fun _ o=>o.fm (P:=fun vs=>RV x.fo x.A (.call (.ref a) ⟨vs,[]⟩) F V Q) h
theorem Rx.Hk (ok:Ok x n gs) (hx:id_ ∈ gs) (hv:Bl x.fo id_ (.builtin fid)) (he:AZ x F m V (e::es) ss) (h:CL ss fun vs=>RC x.fo x.A (PySem.call (.builtin fid) vs) F V Q):Rx x F m V (.Call (.Name id_ p) (e::es) [] pos) Q:=.bi ok hx hv he fun _ o=>o.fm (P:=fun vs=>RC x.fo x.A (PySem.call (.builtin fid) vs) F V Q) h
theorem Rx.Id (ok:Ok x n gs) (hx:id_ ∈ gs) (hv:Bl x.fo id_ (.type T)) (he:AZ x F m V (e::es) ss) (h:CL ss fun vs=>RC x.fo x.A (PySem.call (.type T) vs) F V Q):Rx x F m V (.Call (.Name id_ p) (e::es) [] pos) Q:=.ty ok hx hv he fun _ o=>o.fm (P:=fun vs=>RC x.fo x.A (PySem.call (.type T) vs) F V Q) h
theorem Ev.Bv (ok:Ok x n gs) (hx:Str.ofString "len" ∈ gs) (h:Ev x F m V e (.str y)) (hy:y.length≤100000) (hn:autoParam (notStar e=true) aR):Ev x F m V (.Call (.Name (Str.ofString "len") p) [e] [] pos) (.int y.length):=
 .rx fun Q hQ=>.Hk ok hx Jl (.cons h .nil hn) fun t=>.pure (.int y.length) (fun V Q hQ=>Run.Bv hy fun t=>hQ _ ⟨t,rfl⟩) hQ
theorem Ev.DW (ok:Ok x n gs) (hx:Str.ofString "len" ∈ gs) (h:Ev x F m V e (.val (.ref l))) (hl:Ls F l vs) (hy:vs.length≤100000) (hn:autoParam (notStar e=true) aR):Ev x F m V (.Call (.Name (Str.ofString "len") p) [e] [] pos) (.int vs.length):=
 .rx fun Q hQ=>.Hk ok hx Jl (.cons h .nil hn)<| .pure (.int _) (fun V Q hQ=>Run.DW hl hy fun t=>hQ _ ⟨t,rfl⟩) hQ
theorem Ev.A5 (ok:Ok x n gs) (hx:Str.ofString "len" ∈ gs) (h:Ev x F m V e (.val (.ref l))) (hl:Ad l (Ab vs) V) (hy:vs.length≤100000) (hn:autoParam (notStar e=true) aR):Ev x F m V (.Call (.Name (Str.ofString "len") p) [e] [] pos) (.int vs.length):=
 .rx fun Q hQ=>.Hk ok hx Jl (.cons h .nil hn) fun K=>Run.A5 hl.app hy fun t=>⟨Le.refl _,V,Sb.refl,hQ _ ⟨t,rfl⟩⟩
theorem Rx.Fb (slot:Slot "str" name fid) (ty:typeOf (.builtin fid)=Pure.pure (.type "method_descriptor")) (h1:Ev x F m V e1 (.str y)) (he:AZ x F m V (e::es) ss)
  (h:∀u vs,A7 ss vs→RC x.fo x.A (PySem.call (.builtin fid) (.str y u::vs)) F V Q) (hbase:autoParam (attributeBase e1 name x.env (eval e1 x.env)=eval e1 x.env) aU)
  (hfew:autoParam (((backTo pos (starEach (e::es) x.env)).all (fun x=> !x.1) && (backToKw pos (keywordEach [] x.env)).all (fun x=>x.1.isSome) && decide ((e::es).length+([]:List Keyword).length+(if ([]:List Keyword).isEmpty then 0 else 1)<30))=true) aU)
  (hline:autoParam ((apos.endLine==pos.line)=true) aU):Rx x F m V (.Call (.Attribute e1 name apos) (e::es) [] pos) Q:=fun K Vf ft=>by
 have hs:=he.star
 exact .Es (h1.kS ft fun V1 u f1=>Run.Fb (t:=fun i=>callWith pos (.builtin i) [.str y u] (backTo pos (starEach (e::es) x.env)) []) slot ty (Run.Dp (he.fu f1 fun V2 vs f2 o1=>(h u vs o1).run f2) (AD (hs e (.head _))) (plain_any fun y hy=>hs y (.tail _ hy)))) hbase hfew hline
theorem Ev.find (h1:Ev x F m V e1 (.str y)) (h2:Ev x F m V e2 (.str z)) (hn:autoParam (notStar e2=true) aR) (hbase:autoParam (attributeBase e1 (Str.ofString "find") x.env (eval e1 x.env)=eval e1 x.env) aU)
  (hfew:autoParam (((backTo pos (starEach [e2] x.env)).all (fun x=> !x.1) && (backToKw pos (keywordEach [] x.env)).all (fun x=>x.1.isSome) && decide ([e2].length+([]:List Keyword).length+(if ([]:List Keyword).isEmpty then 0 else 1)<30))=true) aU)
  (hline:autoParam ((apos.endLine==pos.line)=true) aU):Ev x F m V (.Call (.Attribute e1 (Str.ofString "find") apos) [e2] [] pos) (.int (Txt.find y z)):=
 .rx fun Q hQ=>.Fb PySem.F.slot_str_find PySem.F.type_str_find h1 (.cons h2 .nil hn) (fun u vs o=>o.fm (P:=fun vs=>RC x.fo x.A (PySem.call (.builtin _) (.str y u::vs)) F V Q) fun t=>.pure (.int _) (fun V Q hQ=>Run.Rd fun t=>hQ _ ⟨t,rfl⟩) hQ) hbase hfew hline
theorem Rx.tup (he:AZ x F m V es ss) (h:∀F' a vs,Le F F'→Tu F' a vs→A7 ss vs→Q (.ref a) F' V) (hl:ss.length≤1000:=by exact d7 rfl):Rx x F m V (.Tuple es k pos) Q:=.ki fun K Vf Q' ft kk=>.up (.tup (he.fu ft fun V1 vs f1 o1=>⟨o1.len▸hl,fun b=>up.AY fun F2 o le ho hp=>up.one (kk _ F2 V1 V le f1 (h F2 b vs le (Ak o ho hp) o1))⟩))
theorem Rx.lst (he:AZ x F m V es ss) (h:∀a vs,A7 ss vs→Q (.ref a) F ((a,Ab vs)::V)) (hl:ss.length≤1000:=by exact d7 rfl):Rx x F m V (.List es pos) Q:=.ki fun K Vf Q' ft kk=>.lst (he.fu ft fun V1 vs f1 o1=>⟨o1.len▸hl,fun b=>kk _ F _ ((b,Ab vs)::V) (Le.refl _) ((Sb.perm (.swap ..)).trans f1.cons) (h b vs o1)⟩)
end
noncomputable def BK:Flow→Value
 | .ret v=>v
 |_=>.none
def En (Q:Value→FM→Aa→Prop) (v:Value) (F:FM) (W:Aa):Prop:=∀K,up (fun v F1 V1=>∃W1,Sb (W1++K) V1∧Q v F1 W1) v F (W++K)
def CJ (x:Cc) (rest:List Stmt) (Q:Flow→FM→Sm→Aa→Prop) (f:Flow) (F:FM) (m:Sm) (V:Aa):Prop:=match f with
 | .next=>R x rest F m V Q
 |f=>Q f F m V
def CR (x:Cc) (rest:List Stmt) (Q:Flow→FM→Sm→Aa→Prop) (J:FM→Sm→Aa→Prop) (f:Flow) (F:FM) (m:Sm) (V:Aa):Prop:=match f with
 | .next=>J F m V
 | .cont=>J F m V
 | .brk=>R x rest F m V Q
 | .ret v=>Q (.ret v) F m V
theorem Own.imp (O:Own F ((a,P)::V) h) (k:∀o,P o→P' o):Own F ((a,P')::V) h:=by
 refine⟨O.fro,fun p hp=>?_,O.nod⟩
 rcases fj hp with rfl|hp
 ·obtain⟨y,o,e,q⟩:=O.own _ (.head _)
  exact⟨y,o,e,k o q⟩
 ·exact O.own p (.tail _ hp)
theorem En.one {v F W:_}(h:Q v F W):En Q v F W:=fun K=>up.one (Ak W Sb.refl h)
theorem En.AY {v F W b P:_}(h:∀F1 o,Le F F1→F1 b=some o→P o→En Q v F1 W):En Q v F ((b,P)::W):=fun K=>up.AY fun F1 o le e p=>h F1 o le e p K
theorem En.fx {v F W b vs:_}(h:∀F1,Le F F1→Ls F1 b vs→En Q v F1 W):En Q v F ((b,Ab vs)::W):=.AY fun F1 o le e p=>h F1 le (Ak o e p)
theorem En.sb {v F W W':_}(s:Sb W W') (h:En Q v F W):En Q v F W':=fun K hp O=>h K hp (s.app.fit _ _ O)
section
variable {s:Sp}{b:Bool}{Q:Flow→FM→Sm→Aa→Prop}
theorem R.go {t:List Stmt}{K:Aa}{Q':Flow→FM→Aa→Prop}(h:R x t F1 m V Q) (le:Le F F1) (ft:Sb (full x m (V++K)) Vf) (kk:∀f F' V' m' W,Le F F'→Sb (full x m' (W++K)) V'→Q f F' m' W→Q' f F' V'):Run x.fo x.A (execs t x.env) F1 Vf Q':=h.fu ft fun f F' V' m' W le'=>kk f F' V' m' W (Le.trans le le')
theorem R.mono {t:List Stmt}{Q':Flow→FM→Sm→Aa→Prop}(h:R x t F m V Q') (k:∀f F' m' W,Le F F'→Q' f F' m' W→Q f F' m' W):R x t F m V Q:=.ki fun K Vf Q' ft kk=>h.fu ft fun f F' V' m' W le f1 q=>kk f F' V' m' W le f1 (k _ _ _ _ le q)
theorem R.AY {t:List Stmt}{b:Addr}(h:∀F1 o,Le F F1→F1 b=some o→P o→R x t F1 m V Q):R x t F m ((b,P)::V) Q:=.ki fun K Vf Q' ft kk=>Run.fit (W:=(b,P)::(full x m (V++K))) ((Sb.perm (.swap ..)).trans ft).fit (Run.freeze fun F1 o le e hp=>(h F1 o le e hp).go le Sb.refl kk)
theorem R.Ds {t:List Stmt}{b:Addr}(h:∀F1,Le F F1→Ls F1 b vs→R x t F1 m V Q):R x t F m ((b,Ab vs)::V) Q:=.AY fun F1 o le e p=>h F1 le (Ak o e p)
theorem R.sb {t:List Stmt}(sb:Sb W V) (h:R x t F m W Q):R x t F m V Q:=fun K Vf ft=>h K Vf ((Sb.cons sb.app).trans ft)
theorem R.nil (h:Q .next F m V):R x [] F m V Q:=fun _ _ ft=>Run.nil ⟨Le.refl _,m,V,ft,h⟩
theorem R.cons {st:Stmt}{Q':Flow→FM→Sm→Aa→Prop}(h:∀K Vf,Sb (full x m (V++K)) Vf→Run x.fo x.A (exec st x.env) F Vf (fun f F' V'=>Le F F'∧∃m' W,Sb (full x m' (W++K)) V'∧Q' f F' m' W))
  (k:∀f F' m' W,Le F F'→Q' f F' m' W→CJ x rest Q f F' m' W):R x (st::rest) F m V Q:=.ki fun K Vf Q1 ft kk=>Run.cons ((h K Vf ft).mono fun f F' V' q=>q.2.elim fun m' q2=>q2.elim fun W r=>by
 have:=k f F' m' W q.1 r.2
 induction f with
 |next=>exact(show R x rest F' m' W Q from this).go q.1 r.1 kk
 |_=>exact kk _ F' V' m' W q.1 r.1 this)
theorem R.Fq {t:List Stmt}{K:Aa}{Q':Flow→FM→Aa→Prop}(h:R x t F1 m V (CJ x rest Q)) (le:Le F F1) (ft:Sb (full x m (V++K)) Vf) (kk:∀f F' V' m' W,Le F F'→Sb (full x m' (W++K)) V'→Q f F' m' W→Q' f F' V'):
  Run x.fo x.A (execs t x.env) F1 Vf (Ka x.fo x.A x.env rest Q'):=h.fu ft fun f F' V' m' W le' f' q=>by
 induction f with
 |next=>exact(show R x rest F' m' W Q from q).go (Le.trans le le') f' kk
 |_=>exact kk _ F' V' m' W (Le.trans le le') f' q
theorem R.asg (ok:Ok x n gs) (h:Rx x F m V e Qv) (k:∀v F' W,Le F F'→Qv v F' W→∃s s0 m',s.ok (some v)∧Aj id_ s0 s m m'∧R x rest F' m' W Q)
  (hs:autoParam (swapsWith e (some (.Name id_ p')) p.line x.env=(Pure.pure false:Sem Bool)) aU):R x (.Assign [.Name id_ p'] e p::rest) F m V Q:=.ki fun K Vf Q' ft kk=>Run.cons (Run.asg (h.fu ft fun v F1 V1 W le f1 q=>(k v F1 W le q).elim fun s q=>q.elim fun s0 q=>q.elim fun m' q=>Run.fit f1.fit (Run.D9 ok.lo q.2.1 q.1 (q.2.2.go le Sb.refl kk))) hs)
theorem R.AC (ok:Ok x n gs) (h:Ev x F m V e s) (hp:Aj id_ s0 s m m') (k:R x rest F m' V Q)
  (hs:autoParam (swapsWith e (some (.Name id_ p')) p.line x.env=(Pure.pure false:Sem Bool)) aU):R x (.Assign [.Name id_ p'] e p::rest) F m V Q:=.ki fun K Vf Q' ft kk=>Run.cons (Run.asg (h.fu ft fun V1 v f1 hv=>Run.fit f1.fit (Run.D9 ok.lo hp hv (k.fu Sb.refl kk))) hs)
theorem R.KN (ok:Ok x n gs) (cl:Cl x.env id_ a) (h:Ev x F m V e s) (hp:Aj a (Ar s0) (Ar s) V V') (k:R x rest F m V' Q)
  (hs:autoParam (swapsWith e (some (.Name id_ p')) p.line x.env=(Pure.pure false:Sem Bool)) aU):R x (.Assign [.Name id_ p'] e p::rest) F m V Q:=.ki fun K Vf Q' ft kk=>Run.cons (Run.asg (h.fu ft fun V1 v f1 hv=>Run.fit f1.fit (Run.J5 ok.gv cl (Aj.tail hp.app) hv (k.fu Sb.refl kk))) hs)
theorem R.ret (h:Rx x F m V e Qv) (k:∀v F' W,Le F F'→Qv v F' W→Q (.ret v) F' m W):R x (.Return (some e) p::rest) F m V Q:=.ki fun K Vf Q' ft kk=>.cons (.OE (h.fu ft fun v F1 V1 W le f1 q=>kk (.ret v) F1 V1 m W le f1 (k v F1 W le q)))
theorem R.H3 (h:Ev x F m V e s) (k:∀v,s.ok (some v)→Q (.ret v) F m V):R x (.Return (some e) p::rest) F m V Q:=.ki fun K Vf Q' ft kk=>.cons (.OE (h.fu ft fun V1 v f1 o=>kk (.ret v) F V1 m V (Le.refl _) f1 (k v o)))
theorem R.JX (k:Q (.ret .none) F m V):R x (.Return none p::rest) F m V Q:=fun _ _ ft=>.cons (.JX ⟨Le.refl _,m,V,ft,k⟩)
theorem R.brk (k:Q .brk F m V):R x (.Break p::rest) F m V Q:=fun _ _ ft=>.cons (.brk ⟨Le.refl _,m,V,ft,k⟩)
theorem R.cnt (k:Q .cont F m V):R x (.Continue p::rest) F m V Q:=fun _ _ ft=>.cons (.cnt ⟨Le.refl _,m,V,ft,k⟩)
theorem R.iff {Qb:Bool→FM→Aa→Prop}(h:Tx x F m V e Qb) (k:∀b F' W,Le F F'→Qb b F' W→(b=true→R x body F' m W (CJ x rest Q))∧(b=false→R x orelse F' m W (CJ x rest Q))):R x (.If e body orelse p::rest) F m V Q:=.ki fun K Vf Q' ft kk=>.cons (.iff (h.fu ft fun b F1 V1 W le f1 q=>⟨fun hb=>((k b F1 W le q).1 hb).Fq le f1 kk,fun hb=>((k b F1 W le q).2 hb).Fq le f1 kk⟩))
theorem R.BE (h:Tb x F m V e b) (k1:b=true→R x body F m V (CJ x rest Q)) (k2:b=false→R x orelse F m V (CJ x rest Q)):R x (.If e body orelse p::rest) F m V Q:=.ki fun K Vf Q' ft kk=>.cons (.iff (h.fu ft fun V1 f1=>⟨fun hb=>(k1 hb).Fq (Le.refl _) f1 kk,fun hb=>(k2 hb).Fq (Le.refl _) f1 kk⟩))
theorem R.FC {msg:Option Expr}(h:Tb x F m V e true) (k:R x rest F m V Q):R x (.Assert e msg p::rest) F m V Q:=.ki fun K Vf Q' ft kk=>.cons (.FC (h.fu ft fun V1 f1=>⟨rfl,k.fu f1 kk⟩))
theorem R.next (h:R x rest F m V Q):CJ x rest Q .next F m V:=h
theorem R.aug {i:Int}(ok:Ok x n gs) (h1:Ad id_ (.int i) m) (h2:Ev x F m V e (.int j)) (hp:Aj id_ (.int i) (.int (i+j)) m m') (k:R x rest F m' V Q):R x (.AugAssign (.Name id_ p') .Add e p::rest) F m V Q:=.ki fun K Vf Q' ft kk=>.cons (.aug (Run.fit ft.fit (Run.NA ok.lo h1 rfl fun v hv=>Sp.BJ (s:=.int i) (P:=fun v=>Run x.fo x.A (eval e x.env) F (full x m (V++K)) (fun w F2 V2=>Run x.fo x.A (inplaceOp .Add v w) F2 V2 fun r F3 V3=>Run x.fo x.A (storeName x.env id_ r) F3 V3 fun _=>Ka x.fo x.A x.env rest Q' .next)) hv fun t=>
  h2.kI Sb.refl fun V1 u f1=>Run.Wd fun t'=>Run.fit f1.fit (Run.D9 ok.lo hp ⟨t',rfl⟩ (k.fu Sb.refl kk)))))
theorem R.expr (ok:Ok x n gs) (h:Rx x F m V e Qv) (k:∀v F' W,Le F F'→Qv v F' W→R x rest F' m W Q) (hs:autoParam (swapsWith e none p.line x.env=(Pure.pure false:Sem Bool)) aU):
  R x (.Expr e p::rest) F m V Q:=.ki fun K Vf Q' ft kk=>.cons (.expr ok.gv (h.fu ft fun v F1 V1 W le f1 q=>(k v F1 W le q).go le f1 kk) hs)
theorem Run.C1 {K:Aa}(ok:Ok x n gs) (h:Ad id_ (.val v) m) (ft:Sb (full x m (V++K)) Vf) (k:Q' v F (full x m (V++K))):Run x.fo x.A (eval (.Name id_ p) x.env) F Vf Q':=Run.fit ft.fit fun st S=>by
 have hk:id_ ∈ x.ks:=S.own.get (.head)|>.elim fun o y=>y.2.1▸C3 h
 exact wpAny_Name (Run.NA (Q:=Q') ok.lo h rfl (fun w hw=>(ed hw).symm▸k) st S) (ok.lo.dbg _ hk)
theorem Run.Hw {K:Aa}(ok:Ok x n gs) (h:Ad id_ (.val v) m):Run x.fo x.A (eval (.Name id_ p) x.env) F (full x m (V++K)) (fun w F1 V1=>w=v∧F1=F∧V1=full x m (V++K)):=Run.C1 ok h Sb.refl (BO rfl rfl rfl)
end
def Au (x:Cc) (id_:Str) (v:Value) (m:Sm) (W:Aa) (m1:Sm) (W1:Aa):Prop:=∀F K (Q:Unit→FM→Aa→Prop),Q () F (full x m1 (W1++K))→Run x.fo x.A (storeName x.env id_ v) F (full x m (W++K)) Q
def AS (c:Cx) (F:FM) (xv:Value) (n:Nat) (item:Nat→Value→Prop):Prop:=∀(A:Around) (k:Nat) (V:Aa),Rm k A→Run c A (pyIter xv) F V (fun itv F1 V1=>F1=F∧∃(it:Addr) (P:Nat→Obj→Prop),itv= .ref it∧V1=(it,P 0)::V∧(∀i,Eg (P i))∧
 (∀i F' W (Q:Option Value→FM→Aa→Prop),Le F F'→i<n→(∀v,item i v→Q (some v) F' ((it,P (i+1))::W))→Run c A (pyNext (.ref it)) F' ((it,P i)::W) Q)∧
 (∀F' W (Q:Option Value→FM→Aa→Prop),Le F F'→Q none F' W→Run c A (pyNext (.ref it)) F' ((it,P n)::W) Q)∧
 (∀i elts k p v F' W (Q:Unit→FM→Aa→Prop),Q () F' ((it,P i)::W)→Run c A (letOwnedTupleGo (.Tuple elts k p) (.ref it) v) F' ((it,P i)::W) Q))
theorem AS.fx (h:Ls F l vs):AS c F (.ref l) vs.length (fun i v=>vs[i]? =some v):=fun A k V rm=>
 Run.WP h fun it=>⟨rfl,it,AI "list_iterator" (.ref l),rfl,rfl,fun _=>ar,
  fun i F' W Q le hi hq=>Run.YJ (h.le le) (eN hi) (hq _ (eN hi)),fun F' W Q le hq=>Run.Td rm (h.le le) (eh _) hq,
  fun i elts k p v F' W Q hq=>Run.MK .head (by decide) hq⟩
theorem AS.str (ha:y.cps.all (·<128)=true):AS c F (.str y t) y.cps.size (fun i v=>∃k,y.cps[i]? =some k∧(Sp.str (ch k)).ok (some v)):=fun A k V rm=>
 Run.Nm ha fun it=>⟨rfl,it,AI "str_ascii_iterator" (.str y t),rfl,rfl,fun _=>az,
  fun i F' W Q le hi hq=>Run.YM (fh hi) fun u=>hq _ ⟨_,fh hi,u,rfl⟩,fun F' W Q le hq=>Run.Ly rm (eh _) hq,
  fun i elts k p v F' W Q hq=>Run.MK .head (by decide) hq⟩
def Rg (F:FM) (r:Addr) (a b k:Int):Prop:=∃o,F r=some o∧Fj a b k o
theorem AS.rg {r:Addr}{a b k:Int}(h:Rg F r a b k) (hs:Builtin.Range.small a b k=true) (hN:Builtin.Range.rangeSize a b k=N):AS c F (.ref r) N (fun i v=>(Sp.int (a+i*k)).ok (some v)):=fun A kk V rm s S=>by
 obtain⟨o,ho,t,u,v,e⟩:=h
 subst e
 refine wpAny_pyIter_range (S.own.fro _ _ ho) hs ⟨F,_,⟨S.push (P:=Fl a (Builtin.Range.rangeSize a b k) k) (k:=s.toks) rfl,S.tk⟩,rfl,_,fun i=>Fl (a+i*k) (N - i) k,rfl,?_,fun _=>au,?_,?_,?_⟩
 ·rw[hN];simp
 ·intro i F' W Q le hi hq
  refine Run.YL (QR ‹_›) fun t=>?_
  have:=hq (.int (a+i*k) t) ⟨t,rfl⟩
  dsimp only at this
  simp only[show a+((i+1:Nat):Int)*k=a+i*k+k from by rw[show((i+1:Nat):Int)=(i:Int)+1 from rfl,Int.add_mul];lia,show(N:Int) - ((i+1:Nat):Int)=(N:Int) - i - 1 by lia] at this
  exact this
 ·intro F' W Q le hq
  exact Run.Te rm (by lia) hq
 ·intro i elts kk p v F' W Q hq s S
  refine Ag (S.own.get .head) fun o ho hd=>?_
  subst hd
  exact ML ho rfl (by decide) (Ae _ _ S hq)
section
variable {s:Sp}{b:Bool}{Q:Flow→FM→Sm→Aa→Prop}
theorem Au.loc (ok:Ok x n gs) (hv:s.ok (some v)) (hp:Aj id_ s0 s m m1):Au x id_ v m W m1 W:=fun _ _ _ h=>Run.D9 ok.lo hp hv h
theorem Au.Hm (ok:Ok x n gs) (cl:Cl x.env id_ a) (hv:s.ok (some v)) (hp:Aj a (Ar s0) (Ar s) W W1):Au x id_ v m W m W1:=fun _ _ _ h=>Run.J5 ok.gv cl (Aj.tail hp.app) hv h
theorem Au.fC (ok:Ok x n gs) (hp:Aj id_ s0 (.val v) m m1):Au x id_ v m W m1 W:=.loc (s:=.val v) ok rfl hp
theorem Au.fy (ok:Ok x n gs) (hp:Aj id_ s0 (.str y) m m1):Au x id_ (.str y t) m W m1 W:=.loc (s:=.str y) ok ⟨t,rfl⟩ hp
theorem Au.fq {i:Int}(ok:Ok x n gs) (hp:Aj id_ s0 (.int i) m m1):Au x id_ (.int i t) m W m1 W:=.loc (s:=.int i) ok ⟨t,rfl⟩ hp
inductive WhT (x:Cc) (K:Aa) (F:FM) (J:FM→Sm→Aa→Prop):FM→Aa→Prop
 |mk {F1 V1 m W:_}:Sb (full x m (W++K)) V1→Le F F1→J F1 m W→WhT x K F J F1 V1
theorem R.G9 {ι:Type}{Qb:ι→FM→Sm→Aa→Bool→FM→Aa→Prop}(I:ι→FM→Sm→Aa→Prop) (μ:ι→Nat)
  (turn:∀i F' m V,Le F F'→I i F' m V→∃Qb,Tx x F' m V e Qb∧∀b F1 W,Le F' F1→Qb b F1 W→(b=true→R x body F1 m W (CR x rest Q (fun F2 m2 V2=>∃j,μ j<μ i∧I j F2 m2 V2)))∧(b=false→R x rest F1 m W Q))
  (i:ι) (hI:I i F m V):R x (.While e body [] p::rest) F m V Q:=.ki fun K Vf Q' ft kk=>Run.cons (Run.G9 (AA.loop (fun i F1 V1=>WhT x K F (I i) F1 V1) μ (fun i F1 V1 L=>by
 induction L with|mk f1 le hI=>
 exact(turn i F1 _ _ le hI).elim fun Qb q=>q.1.fu f1 fun b F2 V2 W2 le2 f2 q'=>have leF:=Le.trans le le2
  ⟨fun hb=>((q.2 b F2 W2 le2 q').1 hb).fu f2 fun f F3 V3 m3 W3 le3 f3 q3=>by
   induction f with
   |next=>exact Ag q3 fun j hj q3=>⟨j,hj,.mk f3 (Le.trans leF le3) q3⟩
   |cont=>exact Ag q3 fun j hj q3=>⟨j,hj,.mk f3 (Le.trans leF le3) q3⟩
   |brk=>exact(show R x rest F3 m3 W3 Q from q3).go (Le.trans leF le3) f3 kk
   |ret v=>exact kk _ F3 V3 m3 W3 (Le.trans leF le3) f3 q3,
  fun hb=>Run.nil (((q.2 b F2 W2 le2 q').2 hb).go leF f2 kk)⟩) i (.mk ft (Le.refl _) hI)))
theorem R.d1 {ι:Type}(I:ι→FM→Sm→Aa→Prop) (μ:ι→Nat)
  (turn:∀i F' m V,Le F F'→I i F' m V→∃b,Tb x F' m V e b∧(b=true→R x body F' m V (CR x rest Q (fun F2 m2 V2=>∃j,μ j<μ i∧I j F2 m2 V2)))∧(b=false→R x rest F' m V Q))
  (i:ι) (hI:I i F m V):R x (.While e body [] p::rest) F m V Q:=
 .G9 (Qb:=fun _ F0 _ W0 _ F1 W=>F1=F0∧W=W0) I μ (fun i F' m V le hI=>Ag (turn i F' m V le hI) fun b ht k=>Ak (fun b' F1 W=>b'=b∧F1=F'∧W=V) (.tb ht ⟨rfl,rfl,rfl⟩) (fun b' F1 W _ q=>Bj q fun e1 e2 e3=>by subst e1 e2 e3;exact k)) i hI
inductive FoT (x:Cc) (K:Aa) (F:FM) (J:FM→Sm→Aa→Prop):FM→Aa→Prop
 |mk {F1 m W:_}:Le F F1→J F1 m W→FoT x K F J F1 (full x m (W++K))
theorem R.GJ {target iter:Expr}(rm:Rm n x.A) (N:Nat) (item:Nat→Value→Prop) (J:Nat→FM→Sm→Aa→Prop) (h:Rx x F m V iter Qi)
  (hi:∀xv F' W,Le F F'→Qi xv F' W→AS x.fo F' xv N item∧J 0 F' m W)
  (turn:∀i F' m' W v,i<N→Le F F'→J i F' m' W→item i v→∃m1 W1,(∀it P K (Q:Unit→FM→Aa→Prop),(∀v (Q:Unit→FM→Aa→Prop),Q () F' ((it,P)::full x m' (W++K))→Run x.fo x.A (letOwnedTupleGo target (.ref it) v) F' ((it,P)::full x m' (W++K)) Q)→
    Q () F' (full x m1 (W1++((it,P)::K)))→Run x.fo x.A (letOwnedTupleGo target (.ref it) v) F' ((it,P)::full x m' (W++K)) (fun _ F1 V1=>Run x.fo x.A (assign target x.env v) F1 V1 Q))∧
   R x body F' m1 W1 (CR x rest Q (J (i+1))))
  (hgo:(∃a q,target= .Name a q)∨∃elts k q,target= .Tuple elts k q)
  (fin:∀F' m' W,Le F F'→J N F' m' W→R x rest F' m' W Q)
  (hs:autoParam (∀v,foldedSetIterable iter x.env v=Pure.pure v) aI):R x (.For target iter body [] pos::rest) F m V Q:=.ki fun K Vf Q' ft kk=>Run.cons (Run.GJ (h.fu ft fun xv F1 V1 W le f1 q=>(hi xv F1 W le q).elim fun hit hJ=>(hit x.A n V1 rm).mono fun itv F2 V2 q=>q.elim fun e2 q=>IO q fun it P e3 e4 hself hnext hend hgt=>by
 subst e2 e3 e4
 refine AA.fit (W:=(it,P 0)::full x m (W++K)) f1.cons.fit (AA.Mc N P (fun i F3 W3=>FoT x K F2 (J i) F3 W3) (fun i hi' F3 W3 L=>?_) (fun F3 W3 L=>?_) (.mk (Le.refl _) hJ))
 ·induction L with|mk le3 hJ'=>
  rename_i m3 W4
  exact hnext i F3 _ _ le3 hi' fun v hv=>(BH (turn i F3 m3 W4 v hi' (Le.trans le le3) hJ' hv) fun m1 W1 ha hb=>ha it (P (i+1)) K _ (fun v Q hq=>by
   rcases hgo with ⟨a,q,e⟩|⟨elts,k,q,e⟩
   ·refine e▸?_;exact Run.goN hq
   ·refine e▸?_;exact hgt (i+1) _ _ _ _ _ _ _ hq) (hb.fu Sb.refl fun f F5 V5 m5 W5 le5 f5 q5=>by
   have f6:Sb ((it,P (i+1))::full x m5 (W5++K)) V5:=(Sb.perm (List.perm_middle (l₁:=(x.L,AJ x.ks m5)::W5)).symm).trans f5
   induction f with
   |next=>exact⟨_,f6.fit,.mk (Le.trans le3 le5) q5⟩
   |cont=>exact⟨_,f6.fit,.mk (Le.trans le3 le5) q5⟩
   |brk=>exact(show R x rest F5 m5 W5 Q from q5).go (Le.trans le (Le.trans le3 le5)) ((Sb.skip Sb.refl).trans f6) kk
   |ret v=>exact kk _ F5 V5 m5 W5 (Le.trans le (Le.trans le3 le5)) ((Sb.skip Sb.refl).trans f6) q5))
 ·induction L with|mk le3 hJ'=>
  exact hend F3 _ _ le3 (Run.nil ((fin F3 _ _ (Le.trans le le3) hJ').go (Le.trans le le3) Sb.refl kk))) hs)
theorem R.Uz {iter:Expr}(ok:Ok x n gs) (N:Nat) (item:Nat→Value→Prop) (J:Nat→FM→Sm→Aa→Prop) (h:Rx x F m V iter Qi)
  (hi:∀xv F' W,Le F F'→Qi xv F' W→AS x.fo F' xv N item∧J 0 F' m W)
  (turn:∀i F' m' W v,i<N→Le F F'→J i F' m' W→item i v→∃m1 W1,Au x id_ v m' W m1 W1∧R x body F' m1 W1 (CR x rest Q (J (i+1))))
  (fin:∀F' m' W,Le F F'→J N F' m' W→R x rest F' m' W Q)
  (hs:autoParam (∀v,foldedSetIterable iter x.env v=Pure.pure v) aI):R x (.For (.Name id_ p') iter body [] pos::rest) F m V Q:=
 .GJ ok.rm N item J h hi (fun i F' m' W v a1 a2 a3 a4=>BH (turn i F' m' W v a1 a2 a3 a4) fun m1 W1 hst hb=>Ae m1 W1 (fun it P K Q hg hq=>Run.goN (Run.BA (Run.fit (W:=full x m' (W++((it,P)::K))) (Sb.perm (List.perm_middle (l₁:=(x.L,AJ x.ks m')::W))).fit (hst _ _ _ hq)))) hb) (.inl ⟨_,_,rfl⟩) fin hs
theorem R.UA {iter:Expr}(ok:Ok x n gs) (N:Nat) (item:Nat→Value→Prop) (J:Nat→FM→Sm→Aa→Prop) (h:Rx x F m V iter Qi)
  (hi:∀xv F' W,Le F F'→Qi xv F' W→AS x.fo F' xv N item∧J 0 F' m W)
  (turn:∀i F' m' W v,i<N→Le F F'→J i F' m' W→item i v→∃t v1 v2 m1 W1 m2 W2,v= .ref t∧Tu F' t [v1,v2]∧Au x ida v1 m' W m1 W1∧Au x idb v2 m1 W1 m2 W2∧R x body F' m2 W2 (CR x rest Q (J (i+1))))
  (fin:∀F' m' W,Le F F'→J N F' m' W→R x rest F' m' W Q)
  (hs:autoParam (∀v,foldedSetIterable iter x.env v=Pure.pure v) aI):R x (.For (.Tuple [.Name ida pa,.Name idb pb] k tp) iter body [] pos::rest) F m V Q:=
 .GJ ok.rm N item J h hi (fun i F' m' W v a1 a2 a3 a4=>Lw (turn i F' m' W v a1 a2 a3 a4) fun t v1 v2 m1 W1 m2 W2 e ht h1 h2 hb=>Ae m2 W2 (fun it P K Q hg hq=>hg _ _ (e▸Run.Hh ok.rm ht rfl (Run.BA (Run.fit (W:=full x m' (W++((it,P)::K))) (Sb.perm (List.perm_middle (l₁:=(x.L,AJ x.ks m')::W))).fit (h1 _ _ _ (Run.BA (h2 _ _ _ hq))))))) hb) (.inr ⟨_,_,_,rfl⟩) fin hs
end
noncomputable def EL:Sm→List (Str×Value)→Prop
 |[],_=>True
 |p::m,binds=>p.2.ok (binds.reverse.lookup p.1)∧EL m binds
theorem EL.mem (h:EL m binds):∀p ∈ m,p.2.ok (binds.reverse.lookup p.1):=by
 induction m with
 |nil=>exact fun _ hp=>absurd hp List.not_mem_nil
 |cons q m ih=>exact fun p hp=>(fj hp).elim (fun e=>e.symm▸h.1) (ih h.2 p)
noncomputable def Ee:Sm→(Str→Option Value)→Prop
 |[],_=>True
 |p::m,f=>p.2.ok (f p.1)∧Ee m f
theorem Ee.mem {f:Str→Option Value}(h:Ee m f):∀p ∈ m,p.2.ok (f p.1):=by
 induction m with
 |nil=>exact fun _ hp=>absurd hp List.not_mem_nil
 |cons q m ih=>exact fun p hp=>(fj hp).elim (fun e=>e.symm▸h.1) (ih h.2 p)
theorem AJ.of {ks':List Str}{binds:List (Str×Value)}{f:Str→Option Value}(h:Cq ks' (ks.map fun k=>(k,f k)) o) (hm:m.map (·.1)=ks) (hv:∀p ∈ m,p.2.ok (f p.1)):AJ ks' m o:=by
 obtain⟨h1,h2,es,ep,h3,h4,h5⟩:=h
 have e:ks=ks':=by simp only[←h1,e8];exact(List.map_id ks).symm
 refine⟨hm.trans e,h2,es,ep,h3,h4,fun p hp=>?_⟩
 have hk:p.1 ∈ ks:=hm▸ew hp
 have:=h5 (p.1,f p.1) (List.mem_map.mpr ⟨p.1,hk,rfl⟩)
 simp only[this]
 exact hv p hp
theorem En.fin {f:Flow}{K:Aa}(le:Le F F') (sb:Sb (full x m' (W++K)) V') (h:En Q (BK f) F' W):fin (fun v F' V'=>Le F F'∧∃W,Sb (W++K) V'∧Q v F' W) f F' V':=fun hp O=>by
 obtain⟨F1,V1,le1,O1,W1,sb1,q⟩:=h K hp (((Sb.skip Sb.refl).trans sb).fit _ _ O)
 refine⟨F1,V1,le1,O1,Le.trans le le1,W1,sb1,?_⟩
 cases f<;>exact q
theorem RV.FN (ks gs:List Str) (m:Sm) (rm:Rm (n+1) A) (fn:Fun (cx w os) a fd) (hbind:∀s:Shared,(∀a o,(cx w os).F0 a=some o→s.heap.get? a=some o)→BindsTo s fd args binds) (hok:Fg fd ks (binds.map (·.1))=true) (hg:Cs fd gs=true)
  (hm:m.map (·.1)=ks) (hv:EL m binds) (h:∀x:Cc,Ok x n gs→x.w=w→x.os=os→R x (bodyOf fd) F m V (fun f F' _ W=>En Q (BK f) F' W)):RV (cx w os) A (.call (.ref a) args) F V Q:=fun K=>
 AM.FN ks gs _ rm fn (fun s S=>hbind s fun a o e=>S.own.fro _ _ (S.base _ _ e)) hok hg rfl fun L A' env ks' rm' lo gv gb _ _=>by
  refine Run.fit (W:=(L,AJ ks' m)::(V++K)) (fun _ _ O=>O.imp fun o ho=>AJ.of (binds:=binds) ho hm hv.mem) ?_
  exact(h ⟨w,os,A',env,L,ks'⟩ ⟨rm',lo,gv,gb⟩ rfl rfl K _ Sb.refl).mono fun f F' V' q=>q.2.elim fun m' r=>r.elim fun W r=>r.2.fin q.1 r.1
theorem RV.fn (ks gs:List Str) (m:Sm) (rm:Rm (n+1) A) (fn:Fun (cx w os) a fd) (hbind:bindArgs fd args=(Pure.pure binds:Sem _)) (hok:Fg fd ks (binds.map (·.1))=true) (hg:Cs fd gs=true)
  (hm:m.map (·.1)=ks) (hv:EL m binds) (h:∀x:Cc,Ok x n gs→x.w=w→x.os=os→R x (bodyOf fd) F m V (fun f F' _ W=>En Q (BK f) F' W)):RV (cx w os) A (.call (.ref a) args) F V Q:=
 RV.FN ks gs m rm fn (fun _ _=>.of_eq hbind) hok hg hm hv h
noncomputable def Ej:List Addr→List Sp→Aa→Aa
 |a::as,s::ss,V=>(a,Ar s)::Ej as ss V
 |_,_,V=>V
noncomputable def Ed:List Sp→List (Option Value)→Prop
 |s::ss,v::vs=>s.ok v∧Ed ss vs
 |[],[]=>True
 |_,_=>False
theorem K1 {K:Aa}:∀(as:List Addr) (ss:List Sp) (vs:List (Option Value)),Ed ss vs→(Ej as ss V++K).map (·.1)=(DJ as vs (V++K)).map (·.1):=by
 intro as
 induction as with
 |nil=>intro ss vs h;rcases ss with _|_<;>rcases vs with _|_<;>first|rfl|exact h.elim
 |cons a as ih=>intro ss vs h;rcases ss with _|_<;>rcases vs with _|_<;>first|rfl|exact h.elim|exact congrArg (List.cons a) (ih _ _ h.2)
theorem RP {K:Aa}{vs:List (Option Value)}(h:Ed ss vs):B5 (Ej as ss V++K) (DJ as vs (V++K)):=by
 induction as generalizing ss vs with
 |nil=>cases ss<;>rcases vs with _|_<;>first|exact fun _ _ O=>O|exact h.elim
 |cons a as ih=>
  rcases ss with _|_<;>rcases vs with _|_<;>first|exact fun _ _ O=>O|exact h.elim|skip
  rename_i s ss v vs
  intro F hp O
  have O1:Own F ((a,Ar s)::DJ as vs (V++K)) hp:=O.imp fun o ho=>Ak v ho h.1
  exact⟨O1.fro,fun p hpp=>(fj hpp).elim (fun e=>e.symm▸O1.own _ (.head _)) ((ih h.2 F hp (O1.sub (List.sublist_cons_self ..))).own p),by
   refine(?_:(a::(Ej as ss V++K).map (·.1)).Nodup)
   refine(K1 as ss vs h.2)▸?_
   exact O1.nod⟩
theorem RV.HB (ks cs gs:List Str) (m:Sm) (ss:List Sp) (ms:List (Option Value)) (rm:Rm (n+1) A) (fn:Fun (cx w os) a fd) (hbind:bindArgs fd ⟨vals,[]⟩=(Pure.pure binds:Sem _))
  (hok:FU fd ks cs (binds.map (·.1))=true) (hg:Cs fd gs=true) (hm:m.map (·.1)=ks) (hv:Ee m (bindL (Cb fd) binds (fun _=>none))) (hms:ms=cs.map fun k=>bindC (Cb fd) binds (fun _=>none) k) (hc:Ed ss ms)
  (h:∀(x:Cc) as,Ok x n gs→A6 x.env cs as→x.w=w→x.os=os→x.env.code=fd.code→x.env.qual=fd.qualname++".<locals>."→R x (bodyOf fd) F m (Ej as ss V) (fun f F' _ W=>En Q (BK f) F' W)):RV (cx w os) A (.call (.ref a) ⟨vals,[]⟩) F V Q:=fun K=>
 AM.HB ks cs gs _ ms rm fn hbind hok hg rfl hms fun L A' env ks' as rm' lo gv gb ca hcd hql=>by
  refine Run.fit (W:=(L,AJ ks' m)::(Ej as ss V++K)) (fun F hp O=>?_) ?_
  ·have O1:Own F ((L,AJ ks' m)::DJ as ms (V++K)) hp:=O.imp fun o ho=>AJ.of (binds:=binds) ho hm hv.mem
   exact⟨O1.fro,fun p hpp=>(fj hpp).elim (fun e=>e.symm▸O1.own _ (.head _)) ((RP (V:=V) (K:=K) (as:=as) hc F hp (O1.sub (List.sublist_cons_self ..))).own p),by
    refine(?_:(L::(Ej as ss V++K).map (·.1)).Nodup)
    refine(K1 as ss ms hc)▸?_
    exact O1.nod⟩
  exact(h ⟨w,os,A',env,L,ks'⟩ as ⟨rm',lo,gv,gb⟩ ca rfl rfl hcd hql K _ Sb.refl).mono fun f F' V' q=>q.2.elim fun m' r=>r.elim fun W r=>r.2.fin q.1 r.1
theorem RV.I9 (ks cs gs:List Str) (m:Sm) (ss:List Sp) (ms:List (Option Value)) (rm:Rm (n+1) A) (fn:Fun (cx w os) a fd) (hbind:bindArgs fd ⟨vals,[]⟩=(Pure.pure binds:Sem _))
  (hok:FU fd ks cs (binds.map (·.1))=true) (hg:Cs fd gs=true) (hm:m.map (·.1)=ks) (hv:Ee m (bindL (Cb fd) binds (fun _=>none))) (hms:ms=cs.map fun k=>bindC (Cb fd) binds (fun _=>none) k) (hc:Ed ss ms)
  (h:∀(x:Cc) as,Ok x n gs→A6 x.env cs as→x.w=w→x.os=os→R x (bodyOf fd) F m (Ej as ss V) (fun f F' _ W=>En Q (BK f) F' W)):RV (cx w os) A (.call (.ref a) ⟨vals,[]⟩) F V Q:=
 RV.HB ks cs gs m ss ms rm fn hbind hok hg hm hv hms hc fun x as a1 a2 a3 a4 _ _=>h x as a1 a2 a3 a4
section
variable {s:Sp}{b:Bool}{Q:Flow→FM→Sm→Aa→Prop}
theorem R.QZ (ok:Ok x n gs) (h:Rx x F m V e Qv)
  (kk:∀v F' W,Le F F'→Qv v F' W→∃t v1 v2 m1 W1 m2 W2,v= .ref t∧Tu F' t [v1,v2]∧Au x ida v1 m W m1 W1∧Au x idb v2 m1 W1 m2 W2∧R x rest F' m2 W2 Q)
  (hs:autoParam (swapsWithSole [.Tuple [.Name ida pa,.Name idb pb] k tp] e p.line x.env=Pure.pure false) aU) (hw:autoParam (swappedStores [.Tuple [.Name ida pa,.Name idb pb] k tp] e x.env=Pure.pure none) aU):
  R x (.Assign [.Tuple [.Name ida pa,.Name idb pb] k tp] e p::rest) F m V Q:=.ki fun K Vf Q' ft kk'=>Run.cons (Run.Iz (h.fu ft fun v F1 V1 W le f1 q=>Lw (kk v F1 W le q) fun t v1 v2 m1 W1 m2 W2 e ht h1 h2 hb=>e▸Run.fit f1.fit (Run.Hh ok.rm ht rfl (Run.BA (h1 _ _ _ (Run.BA (h2 _ _ _ (hb.go le Sb.refl kk'))))))) hs hw)
theorem R.Q0 (ok:Ok x n gs) (h:Rx x F m V e Qv)
  (kk:∀v F' W,Le F F'→Qv v F' W→∃t v1 v2 v3 m1 W1 m2 W2 m3 W3,v= .ref t∧Tu F' t [v1,v2,v3]∧Au x ida v1 m W m1 W1∧Au x idb v2 m1 W1 m2 W2∧Au x idc v3 m2 W2 m3 W3∧R x rest F' m3 W3 Q)
  (hs:autoParam (swapsWithSole [.Tuple [.Name ida pa,.Name idb pb,.Name idc pc] k tp] e p.line x.env=Pure.pure false) aU) (hw:autoParam (swappedStores [.Tuple [.Name ida pa,.Name idb pb,.Name idc pc] k tp] e x.env=Pure.pure none) aU):
  R x (.Assign [.Tuple [.Name ida pa,.Name idb pb,.Name idc pc] k tp] e p::rest) F m V Q:=.ki fun K Vf Q' ft kk'=>Run.cons (Run.Iz (h.fu ft fun v F1 V1 W le f1 q=>S8 (kk v F1 W le q) fun t v1 v2 v3 m1 W1 m2 W2 m3 W3 e ht h1 h2 h3 hb=>e▸Run.fit f1.fit (Run.QY ok.rm ht rfl (Run.BA (h1 _ _ _ (Run.BA (h2 _ _ _ (Run.BA (h3 _ _ _ (hb.go le Sb.refl kk'))))))))) hs hw)
theorem R.KQ {tgts:List Expr}(ok:Ok x n gs) (he:AZ x F m V es ss) (hl:names.length=ss.length) (hl2:ss.length≤1000)
  (kk:∀F' vs,Le F F'→A7 ss vs→∀K (Qf:Unit→FM→Aa→Prop),(∀m1 W1,R x rest F' m1 W1 Q→Qf () F' (full x m1 (W1++K)))→Run x.fo x.A (assignInOrder (names.reverse.map fun n=>bindName x.env n) vs.reverse) F' (full x m (V++K)) Qf)
  (hs:autoParam (swapsWithSole [.Tuple tgts k tp] (.Tuple es kd pos) p.line x.env=Pure.pure false) aU) (hw:autoParam (swappedStores [.Tuple tgts k tp] (.Tuple es kd pos) x.env=Pure.pure (some names)) aU):
  R x (.Assign [.Tuple tgts k tp] (.Tuple es kd pos) p::rest) F m V Q:=.ki fun K Vf Q' ft kk'=>Run.cons (Run.Q9 (Run.tup (he.fu ft fun V1 vs f1 o1=>⟨o1.len▸hl2,fun b=>Run.AY fun F2 le2 tu=>Run.dY ok.rm tu (o1.len.trans hl.symm) (Run.fit f1.fit (kk F2 vs le2 o1 K _ fun m1 W1 hr=>hr.go le2 Sb.refl kk'))⟩)) hs hw)
theorem Au.bn (h:Au x ida v m W m1 W1) {K:Aa}{Q:Unit→FM→Aa→Prop}(hq:Q () F (full x m1 (W1++K))):Run x.fo x.A (bindName x.env ida v) F (full x m (W++K)) Q:=fun s S=>wpAny_bindName (h F K Q hq s S)
theorem R.Ra (ok:Ok x n gs) (h1:Ev x F m V e1 s1) (h2:Ev x F m V e2 s2)
  (kk:∀F' v1 v2,Le F F'→s1.ok (some v1)→s2.ok (some v2)→∃m1 W1 m2 W2,Au x idb v2 m V m1 W1∧Au x ida v1 m1 W1 m2 W2∧R x rest F' m2 W2 Q) (hn1:autoParam (notStar e1=true) aR) (hn2:autoParam (notStar e2=true) aR)
  (hs:autoParam (swapsWithSole [.Tuple [.Name ida pa,.Name idb pb] k tp] (.Tuple [e1,e2] kd pos) p.line x.env=Pure.pure false) aU) (hw:autoParam (swappedStores [.Tuple [.Name ida pa,.Name idb pb] k tp] (.Tuple [e1,e2] kd pos) x.env=Pure.pure (some [ida,idb])) aU):
  R x (.Assign [.Tuple [.Name ida pa,.Name idb pb] k tp] (.Tuple [e1,e2] kd pos) p::rest) F m V Q:=
 .KQ ok (.cons h1 (.cons h2 .nil hn2) hn1) rfl (d7 rfl) (fun F' vs le o K Qf hq=>Bk o.two fun v1 v2 e o1 o2=>Ht (kk F' v1 v2 le o1 o2) fun m1 W1 m2 W2 a b r=>e▸.Ck (a.bn (.Ck (b.bn (.Gj (hq _ _ r)))))) hs hw
theorem R.Rb (ok:Ok x n gs) (h1:Ev x F m V e1 s1) (h2:Ev x F m V e2 s2) (h3:Ev x F m V e3 s3)
  (kk:∀F' v1 v2 v3,Le F F'→s1.ok (some v1)→s2.ok (some v2)→s3.ok (some v3)→∃m1 W1 m2 W2 m3 W3,Au x idc v3 m V m1 W1∧Au x idb v2 m1 W1 m2 W2∧Au x ida v1 m2 W2 m3 W3∧R x rest F' m3 W3 Q) (hn1:autoParam (notStar e1=true) aR) (hn2:autoParam (notStar e2=true) aR) (hn3:autoParam (notStar e3=true) aR)
  (hs:autoParam (swapsWithSole [.Tuple [.Name ida pa,.Name idb pb,.Name idc pc] k tp] (.Tuple [e1,e2,e3] kd pos) p.line x.env=Pure.pure false) aU) (hw:autoParam (swappedStores [.Tuple [.Name ida pa,.Name idb pb,.Name idc pc] k tp] (.Tuple [e1,e2,e3] kd pos) x.env=Pure.pure (some [ida,idb,idc])) aU):
  R x (.Assign [.Tuple [.Name ida pa,.Name idb pb,.Name idc pc] k tp] (.Tuple [e1,e2,e3] kd pos) p::rest) F m V Q:=
 .KQ ok (.cons h1 (.cons h2 (.cons h3 .nil hn3) hn2) hn1) rfl (d7 rfl) (fun F' vs le o K Qf hq=>Cm o.three fun v1 v2 v3 e o1 o2 o3=>SU (kk F' v1 v2 v3 le o1 o2 o3) fun m1 W1 m2 W2 m3 W3 a b d r=>e▸.Ck (a.bn (.Ck (b.bn (.Ck (d.bn (.Gj (hq _ _ r)))))))) hs hw
end
noncomputable def anyM (ks:List Str):Sm:=ks.map fun k=>(k,Sp.any)
theorem AJ.Of {ks₀:List Str}{m:Fm}(h:Cq ks m o) (e:ks=ks₀):AJ ks (anyM ks₀) o:=by
 obtain⟨h1,h2,es,ep,h3,h4,h5⟩:=h
 subst e
 refine⟨by simp only[anyM,e8];exact List.map_id _,h2,es,ep,h3,h4,fun p hp=>?_⟩
 obtain⟨k, -,rfl⟩:=List.mem_map.mp hp
 trivial
theorem nsP_frS:Hd (AJ ks m):=fun o h=>by
 obtain⟨h1,h2,es,ep,h3,h4,h5⟩:=h
 exact Ae es ep h3 h4
def EO (y:Cc) (F:FM) (m:Sm) (W:Aa) (ifs:List Expr) (QB:Bool→FM→Aa→Prop):Prop:=match ifs with
 |[]=>QB true F W
 |[e]=>Tx y F m W e QB
 |_=>False
theorem EO.fu {y:Cc}(h:EO y F m W ifs QB) {K:Aa}{Q':Bool→FM→Aa→Prop}(ft:Sb (full y m (W++K)) Vf) (kk:∀b F' V' W',Le F F'→Sb (full y m (W'++K)) V'→QB b F' W'→Q' b F' V'):Run y.fo y.A (Gg ifs y.env) F Vf Q':=by
 match ifs,h with
 |[],h=>exact Run.dl (kk true F Vf W (Le.refl _) ft h)
 |[e],h=>exact Run.dm (Tx.fu h ft kk)
def CU (y:Cc) (target:Expr) (v:Value) (F:FM) (m:Sm) (W:Aa) (m1:Sm) (W1:Aa):Prop:=∀it P K (Q:Unit→FM→Aa→Prop),(∀v (Q:Unit→FM→Aa→Prop),Q () F ((it,P)::full y m (W++K))→Run y.fo y.A (letOwnedTupleGo target (.ref it) v) F ((it,P)::full y m (W++K)) Q)→
 Q () F (full y m1 (W1++((it,P)::K)))→Run y.fo y.A (letOwnedTupleGo target (.ref it) v) F ((it,P)::full y m (W++K)) (fun _ F1 V1=>Run y.fo y.A (assign target y.env v) F1 V1 Q)
theorem CU.nm (h:Au x id_ v m W m1 W1):CU x (.Name id_ p) v F m W m1 W1:=fun it P K Q _ hq=>
 Run.goN (Run.BA (Run.fit (W:=full x m (W++((it,P)::K))) (Sb.perm (List.perm_middle (l₁:=(x.L,AJ x.ks m)::W))).fit (h _ _ _ hq)))
theorem CU.two {t:Addr}(ok:Ok x n gs) (ht:Tu F t [v1,v2]) (h1:Au x ida v1 m W m1 W1) (h2:Au x idb v2 m1 W1 m2 W2):CU x (.Tuple [.Name ida pa,.Name idb pb] k tp) (.ref t) F m W m2 W2:=fun it P K Q hg hq=>
 hg _ _ (Run.Hh ok.rm ht rfl (Run.BA (Run.fit (W:=full x m (W++((it,P)::K))) (Sb.perm (List.perm_middle (l₁:=(x.L,AJ x.ks m)::W))).fit (h1 _ _ _ (Run.BA (h2 _ _ _ hq))))))
inductive NnK (Q:Value→FM→Aa→Prop) (g:List Value→Bool) (v:Value) (F:FM) (W:Aa):Prop
 |mk {l vs W0:_}:v= .ref l→W=(l,Ab vs)::W0→Q (.bool (g vs)) F W0→NnK Q g v F W
theorem Rx.Ff (ok:Ok x n gs) (h:Rx x F m V e (NnK Q fun vs=> !vs.isEmpty)) (hm:autoParam (behindInMarks .NotEq (.List [] p)=false) aU):Rx x F m V (.Compare e [.NotEq] [.List [] p] q) Q:=.ki fun K Vf Q' ft kk=>
 .cmp (h.fu ft fun v F1 V1 W le f1 qv=>qv.casesOn fun{l vs W0} e1 e2 hq=>e1▸Run.lst (Run.A0 ⟨by decide,fun b=>Run.fit (W:=(b,Ab [])::(l,Ab vs)::full x m (W0++K)) (Sb.cons (Sb.trans (.perm (.swap ..)) (show Sb (full x m (((l,Ab vs)::W0)++K)) V1 from e2▸f1))).fit (Run.Ff ok.rm (.tail .head) .head (kk _ F1 _ W0 le (Sb.skip (Sb.skip Sb.refl)) hq))⟩)) hm
theorem Tb.E2 (ok:Ok x n gs) (h:Ev x F m V e (.val (.ref l))) (hl:Ad l (Ab vs) V) (hm:autoParam (behindInMarks .Eq (.List [] p)=false) aU):Tb x F m V (.Compare e [.Eq] [.List [] p] q) vs.isEmpty:=.ki fun K Vf Q ft kk=>
 .DF (h.kV ft fun V1 f1=>Run.lst (Run.A0 ⟨by decide,fun b=>Run.fit (W:=(b,Ab [])::full x m (V++K)) (Sb.cons f1).fit (Run.E2 ok.rm (.tail (.tail hl.app)) .head (Ak _ rfl (kk _ (Sb.skip Sb.refl))))⟩)) hm
section
variable {b:Bool}{s:Sp}
theorem Tx.not (h:Tx x F m V e (fun b=>QB (!b))):Tx x F m V (.UnaryOp .Not e p) QB:=fun K Vf ft=>.Ps (h K Vf ft)
theorem Tx.val (h:Rx x F m V e Qv) (k:∀v F' W,Le F F'→Qv v F' W→∃b,v= .bool b∧QB b F' W) (he:autoParam (isTrue e x.env (eval e x.env)=(do let v ←eval e x.env;PySem.standAt e.pos;PySem.holding [v] (truthy v))) aU):Tx x F m V e QB:=.ki fun K Vf Q' ft kk=>.of_eq he (.bind (h.fu ft fun v F1 V1 W le f1 q=>.bind (.standAt (.holding (Ag (k v F1 W le q) fun b e hq=>e▸Run.tB (kk b F1 V1 W le f1 hq))))))
theorem Rx.PJ (h1:Ev x F m V e1 (.val (.bool b1))) (h2:b1=false→Q (.bool false) F V) (h3:b1=true→Rx x F m V e2 Q):Rx x F m V (.BoolOp .And [e1,e2] p) Q:=.ki fun K Vf Q' ft kk=>.PI (h1.kV ft fun V1 f1=>Run.tB ⟨fun q=>by subst q;exact kk _ F V1 V (Le.refl _) f1 (h2 rfl),fun q=>(h3 q).fu f1 kk⟩)
theorem Rx.mono (h:Rx x F m V e Qv) (k:∀v F' W,Le F F'→Qv v F' W→Q v F' W):Rx x F m V e Q:=.ki fun K Vf Q' ft kk=>h.fu ft fun v F1 V1 W le f1 q=>kk v F1 V1 W le f1 (k v F1 W le q)
theorem Rx.dI (ok:Ok x n gs) (h1:Rx x F m V e1 Qa) (h2:∀v F' W,Le F F'→Qa v F' W→Ev x F' m W e2 s2) (kk:∀v F' F'' W v2 a,Le F F'→Le F' F''→Qa v F' W→s2.ok (some v2)→Tu F'' a [v,v2]→Q (.ref a) F'' W)
  (hn1:autoParam (notStar e1=true) aR) (hn2:autoParam (notStar e2=true) aR):Rx x F m V (.Tuple [e1,e2] k pos) Q:=.ki fun K Vf Q' ft kk'=>.up (.tup (Run.AL (h1.fu ft fun v F1 V1 W le1 f1 q1=>Run.AL ((h2 v F1 W le1 q1).fu f1 fun V2 v2 f2 o2=>Run.A0 ⟨d7 rfl,fun b=>up.AY fun F3 o le ho hp=>up.one (kk' _ F3 V2 W (Le.trans le1 le) f2 (kk v F1 F3 W v2 b le1 le q1 o2 ⟨o,ho,hp⟩))⟩) (AD hn2)) (AD hn1)))
theorem Rx.dK {Qb:Value→FM→Aa→Prop}(h1:Ev x F m V e1 s1) (h2:Rx x F m V e2 Qb) (kk:∀v1 v F' F'' W a,Le F F'→Le F' F''→s1.ok (some v1)→Qb v F' W→Tu F'' a [v1,v]→Q (.ref a) F'' W)
  (hn1:autoParam (notStar e1=true) aR) (hn2:autoParam (notStar e2=true) aR):Rx x F m V (.Tuple [e1,e2] k pos) Q:=.ki fun K Vf Q' ft kk'=>.up (.tup (Run.AL (h1.fu ft fun V1 v1 f1 o1=>Run.AL (h2.fu f1 fun v F2 V2 W le1 f2 q1=>Run.A0 ⟨d7 rfl,fun b=>up.AY fun F3 o le ho hp=>up.one (kk' _ F3 V2 W (Le.trans le1 le) f2 (kk v1 v F2 F3 W b le1 le o1 q1 ⟨o,ho,hp⟩))⟩) (AD hn2)) (AD hn1)))
theorem Rx.X7 (h:Rx x F m V e Qa) (kk:∀v F' W a,Le F F'→Qa v F' W→Q (.ref a) F' ((a,Ab [v])::W)) (hn:autoParam (notStar e=true) aR):Rx x F m V (.List [e] pos) Q:=.ki fun K Vf Q' ft kk'=>.lst (Run.AL (h.fu ft fun v F1 V1 W le f1 q=>Run.A0 ⟨d7 rfl,fun b=>kk' _ F1 _ ((b,Ab [v])::W) le ((Sb.perm (.swap ..)).trans f1.cons) (kk v F1 W b le q)⟩) (AD hn))
theorem R.PL {Qf:Flow→FM→Sm→Aa→Prop}(ok:Ok x n gs) (ho:Ev x F m V eo (.val (.ref l))) (h:Rx x F m V e Qv)
  (k:∀v F' W,Le F F'→Qv v F' W→∃vs W',Aj l (Ab vs) (Ab (vs++[v])) W W'∧vs.length≤100000∧R x rest F' m W' Qf)
  (h0:∃vs,Ad l (Ab vs) V) (hn:autoParam (notStar e=true) aR) (hbase:autoParam (attributeBase eo (Str.ofString "append") x.env (eval eo x.env)=eval eo x.env) aU)
  (hfew:autoParam (((backTo pos (starEach [e] x.env)).all (fun x=> !x.1) && (backToKw pos (keywordEach [] x.env)).all (fun x=>x.1.isSome) && decide ([e].length+([]:List Keyword).length+(if ([]:List Keyword).isEmpty then 0 else 1)<30))=true) aU)
  (hline:autoParam ((apos.endLine==pos.line)=true) aU):
  R x (.Expr (.Call (.Attribute eo (Str.ofString "append") apos) [e] [] pos) p::rest) F m V Qf:=.ki fun K Vf Q' ft kk=>h0.elim fun vs0 h0=>by
 have S0:Ad l (Ab vs0) (full x m (V++K)):=.tail h0.app
 exact Run.cons (.expr ok.gv (.Es (ho.kV ft fun V1 f1=>⟨"list","list.append",PySem.F.plainAttrs_list,PySem.F.slot_list_append,PySem.F.type_list_append,fun s S=>⟨(CD S0 (S.fit f1.fit)).typeIs,fun a e=>by injection e with e;subst e;exact(BW S0 (S.fit f1.fit)).elim fun n e=>⟨_,e,rfl⟩⟩,
  Run.Dp (Run.AL (h.fu f1 fun v F2 V2 W le f2 q=>Run.A0 (Bk (k v F2 W le q) fun vs W' hp hb k'=>Run.fit f2.fit (Run.bAppend (Aj.tail hp.app) hb (k'.go le Sb.refl kk)))) (AD hn)) (AD hn) rfl⟩) hbase hfew hline) rfl)
theorem D.a9 {x:Str}(h:D x 0 r) (m:Nat) (hj:j=m):Txt.slice x none (some j)=tx (r.take m):=by
 have:=h.slice m (i:=0) (j:=j) rfl (by lia)
 rw[←this,EB,EB]
 rfl
theorem Ev.D8 {i:Int}(mm:Nat) (h1:Ev x F m V (.Name id_ q) (.str y)) (h2:Ev x F m V e1 (.int i)) (h3:Ev x F m V e2 (.int j)) (hd:D y k r) (hi:i=k) (hj:j=k+mm) (hy:y.length<10000):
  Ev x F m V (.Subscript (.Name id_ q) (.Slice (some e1) (some e2) Option.none p) pos) (.str (tx (r.take mm))):=by
 rw[←hd.slice mm hi hj]
 exact .sl (lo:=some e1) (hi:=some e2) (i:=some i) (j:=some j) h1 h2 h3 (ec ‹_›)
theorem Tb.conv {b':Bool}(h:Tb x F m V e b) (hb:b=b'):Tb x F m V e b':=hb▸h
theorem Ev.Nk (h1:Ev x F m V e1 (.val (.ref l))) (h2:Ev x F m V e2 (.int (-1))) (hl:Ad l (Ab us) V) (hu:us=vs++[v]) (hb:vs.length≤10000) (ho:s.ok (some v)) (hp:autoParam (C9 e2=true) aR):
  Ev x F m V (.Subscript e1 e2 p) s:=by
 subst hu
 exact .JA h1 h2 hl hb ho hp
end
noncomputable def Du (k:Bool) (o:Option Stmt):List Stmt:=o.elim [] fun s=>if h:s.ctorIdx=9 then Stmt.For.elim s h fun _ _ b _ _=>b else if h:s.ctorIdx=11 then Stmt.While.elim s h fun _ b _ _=>b else if h:s.ctorIdx=12 then Stmt.If.elim s h fun _ b o _=>bif k then b else o else[]
inductive ItK (QV:Value→FM→Aa→Prop) (k:Nat) (v:Value) (F:FM) (W:Aa):Prop
 |mk {b vs u:_}:v= .ref b→Tu F b vs→vs[k]? =some u→QV u F W→ItK QV k v F W
inductive AsO (x:Cc) (id_:Str) (rest:List Stmt) (Q:Flow→FM→Sm→Aa→Prop) (m:Sm) (v:Value) (F:FM) (W:Aa):Prop
 |mk {m1 W1:_}:Au x id_ v m W m1 W1→R x rest F m1 W1 Q→AsO x id_ rest Q m v F W
inductive As (x:Cc) (id_:Str) (rest:List Stmt) (Q:Flow→FM→Sm→Aa→Prop) (m:Sm) (v:Value) (F:FM) (W:Aa):Prop
 |mk {s s0 m':_}:s.ok (some v)→Aj id_ s0 s m m'→R x rest F m' W Q→As x id_ rest Q m v F W
inductive As2 (x:Cc) (ida idb:Str) (rest:List Stmt) (Q:Flow→FM→Sm→Aa→Prop) (m:Sm) (v:Value) (F:FM) (W:Aa):Prop
 |mk {t v1 v2 m1 W1 m2 W2:_}:v= .ref t→Tu F t [v1,v2]→Au x ida v1 m W m1 W1→Au x idb v2 m1 W1 m2 W2→R x rest F m2 W2 Q→As2 x ida idb rest Q m v F W
inductive As3 (x:Cc) (ida idb idc:Str) (rest:List Stmt) (Q:Flow→FM→Sm→Aa→Prop) (m:Sm) (v:Value) (F:FM) (W:Aa):Prop
 |mk {t v1 v2 v3 m1 W1 m2 W2 m3 W3:_}:v= .ref t→Tu F t [v1,v2,v3]→Au x ida v1 m W m1 W1→Au x idb v2 m1 W1 m2 W2→Au x idc v3 m2 W2 m3 W3→R x rest F m3 W3 Q→As3 x ida idb idc rest Q m v F W
inductive Ap (x:Cc) (l:Addr) (rest:List Stmt) (Q:Flow→FM→Sm→Aa→Prop) (m:Sm) (v:Value) (F:FM) (W:Aa):Prop
 |mk {vs W':_}:Aj l (Ab vs) (Ab (vs++[v])) W W'→vs.length≤100000→R x rest F m W' Q→Ap x l rest Q m v F W
inductive Nx (I:Nat→FM→Sm→Aa→Prop) (i:Nat) (F:FM) (m:Sm) (V:Aa):Prop
 |mk (j:_):j<i→I j F m V→Nx I i F m V
inductive Wh (x:Cc) (e:Expr) (body rest:List Stmt) (Q:Flow→FM→Sm→Aa→Prop) (J:FM→Sm→Aa→Prop) (F:FM) (m:Sm) (V:Aa):Prop
 |mk {b:_}:Tb x F m V e b→(b=true→R x body F m V (CR x rest Q J))→(b=false→R x rest F m V Q)→Wh x e body rest Q J F m V
 |t {b:_}:Tb x F m V e b→b=true→R x body F m V (CR x rest Q J)→Wh x e body rest Q J F m V
 |f {b:_}:Tb x F m V e b→b=false→R x rest F m V Q→Wh x e body rest Q J F m V
section
variable {s:Sp}{b:Bool}{Q:Flow→FM→Sm→Aa→Prop}
theorem R.Bi (ok:Ok x n gs) (h:Rx x F m V e (As x id_ rest Q m)) (hs:autoParam (swapsWith e (some (.Name id_ p')) p.line x.env=(Pure.pure false:Sem Bool)) aU):R x (.Assign [.Name id_ p'] e p::rest) F m V Q:=
 .asg ok h (fun _ _ _ _ q=>q.casesOn fun{s s0 m'} a b c=>Cr s s0 m' a b c) hs
theorem R.Q6 (K:(FM→Sm→Aa→Prop)→Prop) (ok:Ok x n gs) (kk:K fun F m V=>R x rest F m V Q) (h:(K fun F m V=>R x rest F m V Q)→Rx x F m V e (As x id_ rest Q m)) (hs:autoParam (swapsWith e (some (.Name id_ p')) p.line x.env=(Pure.pure false:Sem Bool)) aU):R x (.Assign [.Name id_ p'] e p::rest) F m V Q:=.Bi ok (h kk) hs
theorem As.fC (hp:Aj id_ s0 (.val v) m m') (k:R x rest F m' W Q):As x id_ rest Q m v F W:=.mk (s:=.val v) rfl hp k
theorem R.ER (ok:Ok x n gs) (h:Rx x F m V e (As2 x ida idb rest Q m)) (hs:autoParam (swapsWithSole [.Tuple [.Name ida pa,.Name idb pb] k tp] e p.line x.env=Pure.pure false) aU)
  (hw:autoParam (swappedStores [.Tuple [.Name ida pa,.Name idb pb] k tp] e x.env=Pure.pure none) aU):R x (.Assign [.Tuple [.Name ida pa,.Name idb pb] k tp] e p::rest) F m V Q:=
 .QZ ok h (fun _ _ _ _ q=>q.casesOn fun{t v1 v2 m1 W1 m2 W2} a b c d e=>Na t v1 v2 m1 W1 m2 W2 a b c d e) hs hw
theorem R.Q2 (ok:Ok x n gs) (h:Rx x F m V e (As3 x ida idb idc rest Q m)) (hs:autoParam (swapsWithSole [.Tuple [.Name ida pa,.Name idb pb,.Name idc pc] k tp] e p.line x.env=Pure.pure false) aU)
  (hw:autoParam (swappedStores [.Tuple [.Name ida pa,.Name idb pb,.Name idc pc] k tp] e x.env=Pure.pure none) aU):R x (.Assign [.Tuple [.Name ida pa,.Name idb pb,.Name idc pc] k tp] e p::rest) F m V Q:=
 .Q0 ok h (fun _ _ _ _ q=>q.casesOn fun{t v1 v2 v3 m1 W1 m2 W2 m3 W3} a b c d e f=>Wv t v1 v2 v3 m1 W1 m2 W2 m3 W3 a b c d e f) hs hw
theorem R.EP (ok:Ok x n gs) (ho:Ev x F m V eo (.val (.ref l))) (h:Rx x F m V e (Ap x l rest Q m))
  (h0:∃vs,Ad l (Ab vs) V) (hn:autoParam (notStar e=true) aR) (hbase:autoParam (attributeBase eo (Str.ofString "append") x.env (eval eo x.env)=eval eo x.env) aU)
  (hfew:autoParam (((backTo pos (starEach [e] x.env)).all (fun x=> !x.1) && (backToKw pos (keywordEach [] x.env)).all (fun x=>x.1.isSome) && decide ([e].length+([]:List Keyword).length+(if ([]:List Keyword).isEmpty then 0 else 1)<30))=true) aU)
  (hline:autoParam ((apos.endLine==pos.line)=true) aU):
  R x (.Expr (.Call (.Attribute eo (Str.ofString "append") apos) [e] [] pos) p::rest) F m V Q:=
 .PL ok ho h (fun _ _ _ _ q=>q.casesOn fun{vs W'} a b c=>Bg vs W' a b c) h0 hn hbase hfew hline
theorem R.CW (ok:Ok x n gs) (ho:Ev x F m V eo (.val (.ref l))) (h:Ev x F m V e s) (hp:∀v,Aj l (Ab vs) (Ab (vs++[v])) V (W' v)) (hv:vs.length≤100000) (k:s.fm fun v=>R x rest F m (W' v) Q)
  (hn:autoParam (notStar e=true) aR) (hbase:autoParam (attributeBase eo (Str.ofString "append") x.env (eval eo x.env)=eval eo x.env) aU)
  (hfew:autoParam (((backTo pos (starEach [e] x.env)).all (fun x=> !x.1) && (backToKw pos (keywordEach [] x.env)).all (fun x=>x.1.isSome) && decide ([e].length+([]:List Keyword).length+(if ([]:List Keyword).isEmpty then 0 else 1)<30))=true) aU)
  (hline:autoParam ((apos.endLine==pos.line)=true) aU):
  R x (.Expr (.Call (.Attribute eo (Str.ofString "append") apos) [e] [] pos) p::rest) F m V Q:=
 .EP ok ho (.ev h fun v o=>.mk (hp v) hv (Sp.BJ (P:=fun v=>R x rest F m (W' v) Q) o k)) ⟨vs,(hp .none).has⟩ hn hbase hfew hline
theorem R.E6 (h:Tx x F m V e (fun b F' W=>(b=true→R x body F' m W (CJ x rest Q))∧(b=false→R x orelse F' m W (CJ x rest Q)))):R x (.If e body orelse p::rest) F m V Q:=.iff h fun _ _ _ _ q=>q
theorem R.B2 (h:Tb x F m V e b) (hb:b=true) (k:R x body F m V (CJ x rest Q)):R x (.If e body orelse p::rest) F m V Q:=.BE h (fun _=>k) fun q=>Bool.noConfusion (hb.symm.trans q)
theorem R.A3 (h:Tb x F m V e b) (hb:b=false) (k:R x orelse F m V (CJ x rest Q)):R x (.If e body orelse p::rest) F m V Q:=.BE h (fun q=>Bool.noConfusion (hb.symm.trans q)) fun _=>k
theorem R.GL (K:(FM→Sm→Aa→Prop)→Prop) (h:Tb x F m V e b) (kk:K fun F m V=>R x rest F m V Q) (k1:(K fun F m V=>R x rest F m V Q)→b=true→R x body F m V (CJ x rest Q)) (k2:(K fun F m V=>R x rest F m V Q)→b=false→R x orelse F m V (CJ x rest Q)):
  R x (.If e body orelse p::rest) F m V Q:=.BE h (k1 kk) (k2 kk)
theorem R.DE (h:Rx x F m V e fun v F' W=>Q (.ret v) F' m W):R x (.Return (some e) p::rest) F m V Q:=.ret h fun _ _ _ _ q=>q
theorem R.D6 (h:Ev x F m V e (.val v)) (k:Q (.ret v) F m V):R x (.Return (some e) p::rest) F m V Q:=.H3 h fun _ o=>ed o▸k
theorem R.Dq (ok:Ok x n gs) (h:Rx x F m V e fun _ F' W=>R x rest F' m W Q) (hs:autoParam (swapsWith e none p.line x.env=(Pure.pure false:Sem Bool)) aU):R x (.Expr e p::rest) F m V Q:=.expr ok h (fun _ _ _ _ q=>q) hs
theorem R.Cu (I:Nat→FM→Sm→Aa→Prop) (turn:∀i F' m' V',I i F' m' V'→Le F F'→Wh x e body rest Q (Nx I i) F' m' V') (i:Nat) (hI:I i F m V):R x (.While e body [] p::rest) F m V Q:=
 have l2:∀{i F m V},R x body F m V (CR x rest Q (Nx I i))→R x body F m V (CR x rest Q fun F2 m2 V2=>∃j,id j<id i∧I j F2 m2 V2):=fun h=>h.mono fun f F' m' W _ q=>by
  induction f with
  |next=>exact q.casesOn fun j h1 h2=>⟨j,h1,h2⟩
  |cont=>exact q.casesOn fun j h1 h2=>⟨j,h1,h2⟩
  |brk=>exact q
  |ret v=>exact q
 .d1 I id (fun i F' m' V' le hI=>(turn i F' m' V' hI le).casesOn (fun{b} h1 h2 h3=>⟨b,h1,fun hb=>l2 (h2 hb),h3⟩) (fun{b} h1 hb h2=>⟨b,h1,fun _=>l2 h2,fun q=>Bool.noConfusion (hb.symm.trans q)⟩) (fun{b} h1 hb h2=>⟨b,h1,fun q=>Bool.noConfusion (hb.symm.trans q),fun _=>h2⟩)) i hI
theorem R.DP {iter:Expr}(ok:Ok x n gs) (N:Nat) (item:Nat→Value→Prop) (J:Nat→FM→Sm→Aa→Prop) (h:Rx x F m V iter fun xv F' W=>AS x.fo F' xv N item∧J 0 F' m W)
  (turn:∀i F' m' W v,i<N→J i F' m' W→item i v→Le F F'→AsO x id_ body (CR x rest Q (J (i+1))) m' v F' W) (fin:∀F' m' W,J N F' m' W→Le F F'→R x rest F' m' W Q)
  (hs:autoParam (∀v,foldedSetIterable iter x.env v=Pure.pure v) aI):R x (.For (.Name id_ p') iter body [] pos::rest) F m V Q:=
 .Uz ok N item J h (fun _ _ _ _ q=>q) (fun i F' m' W v a b c d=>(turn i F' m' W v a c d b).casesOn fun{m1 W1} a b=>Ae m1 W1 a b) (fun F' m' W le q=>fin F' m' W q le) hs
theorem R.UB {iter:Expr}(ok:Ok x n gs) (N:Nat) (item:Nat→Value→Prop) (J:Nat→FM→Sm→Aa→Prop) (h:Rx x F m V iter fun xv F' W=>AS x.fo F' xv N item∧J 0 F' m W)
  (turn:∀i F' m' W v,i<N→J i F' m' W→item i v→Le F F'→As2 x ida idb body (CR x rest Q (J (i+1))) m' v F' W) (fin:∀F' m' W,J N F' m' W→Le F F'→R x rest F' m' W Q)
  (hs:autoParam (∀v,foldedSetIterable iter x.env v=Pure.pure v) aI):R x (.For (.Tuple [.Name ida pa,.Name idb pb] k tp) iter body [] pos::rest) F m V Q:=
 .UA ok N item J h (fun _ _ _ _ q=>q) (fun i F' m' W v a b c d=>(turn i F' m' W v a c d b).casesOn fun{t v1 v2 m1 W1 m2 W2} a b c d e=>Na t v1 v2 m1 W1 m2 W2 a b c d e) (fun F' m' W le q=>fin F' m' W q le) hs
theorem Tx.Py (h:Rx x F m V e fun v F' W=>∃b,v= .bool b∧QB b F' W) (he:autoParam (isTrue e x.env (eval e x.env)=(do let v ←eval e x.env;PySem.standAt e.pos;PySem.holding [v] (truthy v))) aU):Tx x F m V e QB:=.val h (fun _ _ _ _ q=>q) he
theorem Rx.BR (he:AZ x F m V es ss) (h:CL ss fun vs=>∀F' a,Le F F'→Tu F' a vs→QV (.ref a) F' V) (hl:ss.length≤1000:=by exact d7 rfl):Rx x F m V (.Tuple es k pos) QV:=
 .tup he (fun F' a vs le tu o=>o.fm (P:=fun vs=>∀F' a,Le F F'→Tu F' a vs→QV (.ref a) F' V) h F' a le tu) hl
theorem Rx.DZ (he:AZ x F m V es ss) (h:CL ss fun vs=>∀a,QV (.ref a) F ((a,Ab vs)::V)) (hl:ss.length≤1000:=by exact d7 rfl):Rx x F m V (.List es pos) QV:=
 .lst he (fun a vs o=>o.fm (P:=fun vs=>∀a,QV (.ref a) F ((a,Ab vs)::V)) h a) hl
theorem Rx.Bm (h:Ev x F m V e s) (k:s.fm fun v=>QV v F V):Rx x F m V e QV:=.ev h fun v o=>Sp.BJ (P:=fun v=>QV v F V) o k
theorem Rx.Kb (h1:Ev x F m V e1 s1) (h2:Rx x F m V e2 fun v F' W=>s1.fm fun v1=>∀F'' a,Le F' F''→Tu F'' a [v1,v]→QV (.ref a) F'' W) (hn1:autoParam (notStar e1=true) aR) (hn2:autoParam (notStar e2=true) aR):Rx x F m V (.Tuple [e1,e2] k pos) QV:=
 .dK h1 h2 (fun _ v _ F'' W a _ le2 o q tu=>Sp.BJ (P:=fun v1=>∀F'' a,Le _ F''→Tu F'' a [v1,v]→QV (.ref a) F'' W) o q F'' a le2 tu) hn1 hn2
theorem Rx.dJ (ok:Ok x n gs) (h1:Rx x F m V e1 fun v F' W=>Ev x F' m W e2 s2∧s2.fm fun v2=>∀F'' a,Le F' F''→Tu F'' a [v,v2]→QV (.ref a) F'' W) (hn1:autoParam (notStar e1=true) aR) (hn2:autoParam (notStar e2=true) aR):Rx x F m V (.Tuple [e1,e2] k pos) QV:=
 .dI ok h1 (fun _ _ _ _ q=>q.1) (fun v _ F'' W _ a _ le2 q o tu=>Sp.BJ (P:=fun v2=>∀F'' a,Le _ F''→Tu F'' a [v,v2]→QV (.ref a) F'' W) o q.2 F'' a le2 tu) hn1 hn2
theorem Ev.to (h:Ev x F m V e s) (he:s=s'):Ev x F m V e s':=he▸h
theorem Rx.JH (h:Rx x F m V e fun v F' W=>∀a,QV (.ref a) F' ((a,Ab [v])::W)) (hn:autoParam (notStar e=true) aR):Rx x F m V (.List [e] pos) QV:=.X7 h (fun _ _ _ a _ q=>q a) hn
theorem RV.Uu {k1:Str}(ks gs:List Str) (m:Sm) (ms:List (Option Value)) (rm:Rm (n+1) A) (fn:Fun (cx w os) a fd) (hbind:bindArgs fd ⟨vals,[]⟩=(Pure.pure binds:Sem _))
  (hok:FU fd ks [k1] (binds.map (·.1))=true) (hg:Cs fd gs=true) (hm:m.map (·.1)=ks) (hv:Ee m (bindL (Cb fd) binds (fun _=>none))) (hms:ms=[k1].map fun k=>bindC (Cb fd) binds (fun _=>none) k) (hc:Ed [s1] ms)
  (h:∀(x:Cc) c1,Ok x n gs→Cl x.env k1 c1→R x (bodyOf fd) F m ((c1,Ar s1)::V) (fun f F' _ W=>En QV (BK f) F' W)):RV (cx w os) A (.call (.ref a) ⟨vals,[]⟩) F V QV:=
 RV.I9 ks _ gs m _ ms rm fn hbind hok hg hm hv hms hc fun x as ok ca _ _=>Ag (K3 ca) fun c1 e l1=>e▸h x c1 ok l1
theorem RV.Uv {k1 k2:Str}(ks gs:List Str) (m:Sm) (ms:List (Option Value)) (rm:Rm (n+1) A) (fn:Fun (cx w os) a fd) (hbind:bindArgs fd ⟨vals,[]⟩=(Pure.pure binds:Sem _))
  (hok:FU fd ks [k1,k2] (binds.map (·.1))=true) (hg:Cs fd gs=true) (hm:m.map (·.1)=ks) (hv:Ee m (bindL (Cb fd) binds (fun _=>none))) (hms:ms=[k1,k2].map fun k=>bindC (Cb fd) binds (fun _=>none) k) (hc:Ed [s1,s2] ms)
  (h:∀(x:Cc) c1 c2,Ok x n gs→Cl x.env k1 c1→Cl x.env k2 c2→R x (bodyOf fd) F m ((c1,Ar s1)::(c2,Ar s2)::V) (fun f F' _ W=>En QV (BK f) F' W)):RV (cx w os) A (.call (.ref a) ⟨vals,[]⟩) F V QV:=
 RV.I9 ks _ gs m _ ms rm fn hbind hok hg hm hv hms hc fun x as ok ca _ _=>Bk (K4 ca) fun c1 c2 e l1 l2=>e▸h x c1 c2 ok l1 l2
theorem RV.Uw {k1 k2 k3:Str}(ks gs:List Str) (m:Sm) (ms:List (Option Value)) (rm:Rm (n+1) A) (fn:Fun (cx w os) a fd) (hbind:bindArgs fd ⟨vals,[]⟩=(Pure.pure binds:Sem _))
  (hok:FU fd ks [k1,k2,k3] (binds.map (·.1))=true) (hg:Cs fd gs=true) (hm:m.map (·.1)=ks) (hv:Ee m (bindL (Cb fd) binds (fun _=>none))) (hms:ms=[k1,k2,k3].map fun k=>bindC (Cb fd) binds (fun _=>none) k) (hc:Ed [s1,s2,s3] ms)
  (h:∀(x:Cc) c1 c2 c3,Ok x n gs→Cl x.env k1 c1→Cl x.env k2 c2→Cl x.env k3 c3→R x (bodyOf fd) F m ((c1,Ar s1)::(c2,Ar s2)::(c3,Ar s3)::V) (fun f F' _ W=>En QV (BK f) F' W)):RV (cx w os) A (.call (.ref a) ⟨vals,[]⟩) F V QV:=
 RV.I9 ks _ gs m _ ms rm fn hbind hok hg hm hv hms hc fun x as ok ca _ _=>Cm (K5 ca) fun c1 c2 c3 e l1 l2 l3=>e▸h x c1 c2 c3 ok l1 l2 l3
end
noncomputable def Bu (k:Bool) (elt:Expr) (gens:List Comprehension) (scope:Scope) (pos:Pos):Expr:=match k with
 |true=>.SetComp elt gens scope pos
 |false=>.ListComp elt gens scope pos
noncomputable def ZI (k:Bool) (elt:Expr) (acc:Value) (env:Env):Sem Unit:=match k with
 |true=>eval elt env>>=fun x=>standAt elt.pos>>=fun _=>PySem.call (.builtin "set.add") [acc,x]>>=fun _=>Pure.pure ()
 |false=>eval elt env>>=fun x=>PySem.call (.builtin "list.append") [acc,x]>>=fun _=>Pure.pure ()
noncomputable def emitC (k:Bool) (elt:Expr) (gens:List Comprehension) (scope:Scope) (pos:Pos) (depth:Nat) (acc:Value) (env:Env):Sem Unit:=
 match gens[depth+1]? with
 |some g'=>do
  let x ←eval g'.iter env
  standAt g'.iter.pos
  let x ←foldedSetIterable g'.iter env x
  let _ ←runOwn (.compStart (Bu k elt gens scope pos) (depth+1) (←holding [x] (pyIter x)) acc env) env
 |none=>ZI k elt acc env
noncomputable def RB (a b:FM→Aa→Prop) (k:Bool):FM→Aa→Prop:=match k with|true=>a|false=>b
def Ct (o:Obj):Prop:=∃led,o={cls:=.type "set",dict:=Option.none,data:=.set #[] 0 (.fresh 0 0 led)}
inductive Fu (c:Cx) (n:Nat) (it:Addr) (P:Nat→Obj→Prop) (J:Nat→FM→Aa→Prop):Nat→Shared→Prop
 |mk {i F W s:_}:i≤n→J i F W→St c F ((it,P i)::W) s→Fu c n it P J (n - i) s
noncomputable def dO (k:Bool) (elt:Expr) (gens:List Comprehension) (scope:Scope) (pos:Pos) (depth:Nat) (it acc:Value) (env:Env) (target iter:Expr) (ifs:List Expr):Sem PySem.Fin:=
 standAt iter.pos>>=fun _=>pyNext it>>=fun r=>r.elim (Pure.pure (.done .next)) fun v=>letOwnedTupleGo target it v>>=fun _=>assign target env v>>=fun _=>Gg ifs env>>=fun ok=>
  bif ok then emitC k elt gens scope pos depth acc env>>=fun _=>again (.compLoop (Bu k elt gens scope pos) depth it acc env) else again (.compLoop (Bu k elt gens scope pos) depth it acc env)
theorem dP {k:Bool}{target iter:Expr}{it:Value}(hg:gens[depth]? =some ⟨target,iter,ifs,0⟩) (hg':∀g',gens[depth+1]? =some g'→g'.is_async=0):
  compTurn (Bu k elt gens scope pos) depth it acc env=dO k elt gens scope pos depth it acc env target iter ifs:=by
 have e:∀{α β:Type}{m:Sem α}{f g:α→Sem β},(∀a,f a=g a)→(m>>=f)=(m>>=g):=fun h=>congrArg _ (funext h)
 induction k<;>
 ·delta Bu compTurn
  dsimp only
  refine(hg)▸?_
  refine e fun _=>e fun r=>?_
  induction r with
  |none=>rfl
  |some v=>
   refine e fun _=>e fun _=>e fun ok=>?_
   induction ok with
   |false=>rfl
   |true=>
    delta emitC
    cases hg2:gens[depth+1]? with
    |none=>
     refine(if_pos rfl).trans ?_
     rfl
    |some g'=>
     refine(if_pos rfl).trans ?_
     dsimp only
     rw[hg' g' hg2]
     simp only[bind_assoc]
     rfl
theorem Fu.step {P:Nat→Obj→Prop}{J:Nat→FM→Aa→Prop}(hi:i<n) (S:St c F V s) (h:J6 it (P (i+1)) (J (i+1)) F V):∃m,m<n - i∧Fu c n it P J m s:=
 h.elim fun _ h=>Ak (n - (i+1)) (Nat.sub_lt_sub_left hi (ey i)) (.mk hi h.2 (S.fit h.1))
theorem AA.cmp {k:Bool}{target iter:Expr}(n:Nat) (P:Nat→Obj→Prop) (J:Nat→FM→Aa→Prop)
  (hg:gens[depth]? =some ⟨target,iter,ifs,0⟩) (hg':∀g',gens[depth+1]? =some g'→g'.is_async=0)
  (turn:∀i,i<n→∀F W,J i F W→Run c A (pyNext (.ref it)) F ((it,P i)::W) (Oh fun v F1 V1=>Run c A (letOwnedTupleGo target (.ref it) v) F1 V1 (fun _ F1 V1=>Run c A (assign target env v) F1 V1 (fun _ F2 V2=>
   Run c A (Gg ifs env) F2 V2 (RB (fun F3 V3=>Run c A (emitC k elt gens scope pos depth acc env) F3 V3 (fun _=>J6 it (P (i+1)) (J (i+1)))) (J6 it (P (i+1)) (J (i+1))))))))
  (fin:∀F W,J n F W→Run c A (pyNext (.ref it)) F ((it,P n)::W) (Og (QF .next)))
  (hJ:J 0 F W):AA c A (.compLoop (Bu k elt gens scope pos) depth (.ref it) acc env) F ((it,P 0)::W) QF:=by
 refine .ki fun s R S kk=>codeAny_loop (by rcases k with _|_<;>rfl) (Fu c n it P J) ?_ (n - 0) (.mk (eB _) hJ S)
 rintro _ s ⟨hi,hJ,S⟩
 rename_i i F W
 rw[show(Mo c).den (.compLoop (Bu k elt gens scope pos) depth (.ref it) acc env)=(compTurn (Bu k elt gens scope pos) depth (.ref it) acc env).onRaise (fun x=>do noteFrame x env;theTreesLotGoes x) by cases k<;>rfl]
 refine wpAny_noted ?_
 rw[Around.under_of_weight (by cases k<;>rfl) (by cases k<;>rfl),dP hg hg']
 refine d8 (wpAny_standAt (d8 ?_))
 rcases Nat.lt_or_ge i n with hlt|hge
 ·refine(turn i hlt F W hJ).fu S fun r s1 F1 V1 S1 h1=>?_
  induction r with
  |none=>exact h1.elim
  |some v=>
   refine d8 (Run.fu h1 S1 fun _ s2 F2 V2 S2 h2=>d8 (h2.fu S2 fun _ s3 F3 V3 S3 h3=>d8 (h3.fu S3 fun ok s4 F4 V4 S4 h4=>?_)))
   induction ok with
   |false=>exact d9 ⟨rfl,Fu.step hlt S4 h4⟩
   |true=>exact d8 (Run.fu h4 S4 fun _ s5 F5 V5 S5 h5=>d9 ⟨rfl,Fu.step hlt S5 h5⟩)
 ·obtain rfl:i=n:=Nat.le_antisymm hi hge
  refine(fin F W hJ).fu S fun r s1 F1 V1 S1 h1=>?_
  induction r with
  |some v=>exact h1.elim
  |none=>exact d9 (kk _ _ _ _ S1 h1)
theorem AA.Lf {k:Bool}{target iter:Expr}
  (hg:gens[depth]? =some ⟨target,iter,ifs,0⟩) (hs:Eg P) (hp:Ad it P V) (h:AA c A (.compLoop (Bu k elt gens scope pos) depth (.ref it) acc env) F V QF):
  AA c A (.compStart (Bu k elt gens scope pos) depth (.ref it) acc env) F V QF:=.ki fun s R S kk=>by
 have h0:=h.fu S kk
 refine codeAny_of_tree ?_
 rw[show(Mo c).den (.compStart (Bu k elt gens scope pos) depth (.ref it) acc env)=(compStart (Bu k elt gens scope pos) depth (.ref it) acc env).onRaise (fun x=>do noteFrame x env;standAt theWindowsPlace) by cases k<;>rfl]
 refine wpAny_notedAt ?_
 have q:(Code.compLoop (Bu k elt gens scope pos) depth (.ref it) acc env).quiet=true:=by cases k<;>rfl
 dsimp only[compStart]
 rw[show clausesOf (Bu k elt gens scope pos)=gens by induction k<;>rfl,hg]
 dsimp only[Option.elim,bne_self_eq_false,Bool.false_eq_true,if_false]
 refine d8 (wpAny_askSetting ?_)
 refine wpAny_ite ?_
 split
 ·exact d9 ⟨q,h0⟩
 ·refine d8 (wpAny_rule (d8 (wpAny_standAt (d8 ?_))))
  rw[Around.under_of_weight (by induction k<;>rfl) (by induction k<;>rfl)]
  exact hs (S.own.get hp) (d9 ⟨q,h0⟩)
theorem Run.S9 {k:Bool}{target iter:Expr}{D:Value}(hg:gens[depth+1]? =some ⟨target,iter,ifs,0⟩)
  (hs:∀x,foldedSetIterable iter env x=Pure.pure x)
  (h:Run c A (eval iter env) F V (fun x F1 V1=>Run c A (pyIter x) F1 V1 (fun it F2 V2=>∃a P,it= .ref a∧Ad a P V2∧Eg P∧AA c A (.compLoop (Bu k elt gens scope pos) (depth+1) (.ref a) D env) F2 V2 (fun _=>QU ())))):
  Run c A (emitC k elt gens scope pos depth D env) F V QU:=by
 unfold emitC
 refine(hg)▸?_
 refine .bind (h.mono fun x F1 V1 h1=>.bind (.standAt ?_))
 refine(?_:Run c A (foldedSetIterable iter env x>>=_) _ _ _)
 refine(hs x)▸?_
 refine .bind (.pure (.bind (.holding (h1.mono fun it F2 V2 qz=>EX qz fun a P e hp sp h2=>?_))))
 refine e▸?_
 exact .bind ((Run.runOwn (AA.Lf hg sp hp h2)).mono fun _ _ _ h'=>.pure h')
theorem Run.Ta {k:Bool}{D:Value}(hg:gens[depth+1]? =Option.none)
  (h:Run c A (eval elt env) F V (fun v F1 V1=>Run c A (PySem.call (.builtin (if k then "set.add" else "list.append")) [D,v]) F1 V1 (fun _=>QU ()))):Run c A (emitC k elt gens scope pos depth D env) F V QU:=by
 unfold emitC
 refine(hg)▸?_
 induction k with
 |true=>exact .bind (h.mono fun _ _ _ h'=>.bind (.standAt (.bind (h'.mono fun _ _ _ h''=>.pure h''))))
 |false=>exact .bind (h.mono fun _ _ _ h'=>.bind (h'.mono fun _ _ _ h''=>.pure h''))
noncomputable def Il (k:Bool):Obj→Prop:=if k then Ct else Ab []
def Ih (c:Cx) (A:Around) (k:Bool) (elt:Expr) (gens:List Comprehension) (scope:Scope) (pos:Pos) (ks₀ fr gs:List Str) (as:List Addr) (QF:Addr→Env→Addr→List Str→Flow→FM→Aa→Prop) (it:Value) (F:FM) (V:Aa):Prop:=
 ∃a P,it= .ref a∧Ad a P V∧Eg P∧∀D C cenv ks,Loc cenv C ks→Gv cenv→Gb cenv gs→A6 cenv fr as→ks=ks₀→
  AA c A (.compLoop (Bu k elt gens scope pos) 0 (.ref a) (.ref D) cenv) F ((C,Cq ks (ks₀.map fun k=>(k,none)))::(D,Il k)::V) (QF D cenv C ks)
theorem YD {k:Bool}{R:Value→Shared→Prop}(S:St c F V s) (h:∀s',St c F ((s.heap.objs.size,Il k)::V) s'→R (.ref s.heap.objs.size) s'):wpAny (Mo c) A (if k then newSet (.type "set") else newList []) R E s:=by
 induction k with
 |false=>exact eD (h _ ⟨S.push (P:=Ab []) (k:=s.toks) ⟨_,rfl⟩,S.tk⟩)
 |true=>exact wpAny_newSet_of (knd:=strKind P0 c.w) fun led _=>h _ ⟨S.push (P:=Ct) (k:=s.toks) ⟨led,rfl⟩,S.tk⟩
theorem Ld {k:Bool}{target iter:Expr}{rest:List Comprehension}(ks₀ fr gs:List Str) (as:List Addr) {QF:Addr→Env→Addr→List Str→Flow→FM→Aa→Prop}{it:Value}
  {R:Value→Addr→Result→Shared→Prop}{E:Value→Shared→Prop}(g:Gv env) (ca:A6 env fr as) (hok:C7 scope ks₀ fr gs=true) (S:St c F V s)
  (h:Ih c A k elt (⟨target,iter,ifs,0⟩::rest) scope pos ks₀ fr gs as QF it F V)
  (hR:∀D C cenv f F' V' s',St c F' V' s'→QF D cenv C ks₀ f F' V'→R (.ref D) C (.ok f) s'):
  wpAny (Mo c) A (if k then newSet (.type "set") else newList []) (fun acc s₃=>wpAny (Mo c) A (newFunctionEnv scope env.globals (fr.zip as).reverse [] env.qual none .none (some env)) (fun cenv s₄=>
   codeAny (Mo c) A (.compStart (Bu k elt (⟨target,iter,ifs,0⟩::rest) scope pos) 0 it acc {cenv with scope:=relabel scope env}) (R acc cenv.locals) s₄) E s₃) E s:=by
 obtain⟨a,P,rfl,hp,sp,h⟩:=h
 obtain⟨-,hk, -,hcell,hnd, -⟩:=Hq (C:=0) g ca hok
 refine YD S fun s' S1=>wpAny_newFunctionEnv hcell (by intro y hy;simp at hy) (fun h₁ hns₁ hsb₁=>?_) hk
 have S2:St c F _ _:=⟨S1.toStP.Y4 (k:=s'.toks+0) hnd rfl hns₁ hsb₁,S1.tk⟩
 obtain⟨-, -, -, -, -,l1,l2,l3,l4⟩:=Hq (C:=s'.heap.objs.size) g ca hok
 exact(AA.Lf (by rfl) sp (.tail (.tail hp)) (h _ _ _ _ l1 l2 l3 l4 rfl)).fu S2 fun f s' F' V' S' q=>hR _ _ _ _ _ _ _ S' q
theorem Run.cm {k:Bool}{target iter:Expr}{rest:List Comprehension}(ks₀ fr gs:List Str) (as:List Addr) (g:Gv env) (ca:A6 env fr as) (hok:C7 scope ks₀ fr gs=true)
  (h:Run c A (eval iter env) F V (fun x F1 V1=>Run c A (pyIter x) F1 V1 (Ih c A k elt (⟨target,iter,ifs,0⟩::rest) scope pos ks₀ fr gs as (fun D _ C _ _ F3 V3=>∃P W,Hd P∧B5 ((C,P)::W) V3∧Q (.ref D) F3 W))))
  (hs:∀x,foldedSetIterable iter env x=Pure.pure x):
  Run c A (eval (Bu k elt (⟨target,iter,ifs,0⟩::rest) scope pos) env) F V Q:=.ki fun s R S kk=>by
 obtain⟨hcl,hk,hnm,hcell,hnd, -⟩:=Hq (C:=0) g ca hok
 rw[show eval (Bu k elt (⟨target,iter,ifs,0⟩::rest) scope pos) env=comprehension (Bu k elt (⟨target,iter,ifs,0⟩::rest) scope pos) scope env (firstIterPos (⟨target,iter,ifs,0⟩::rest) pos) (if k then newSet (.type "set") else newList []) (firstAsync (⟨target,iter,ifs,0⟩::rest)) (firstIter (⟨target,iter,ifs,0⟩::rest) env) by cases k<;>rfl]
 refine wpAny_comprehension_free (use:=Option.none) (g:=⟨target,iter,ifs,0⟩) (gs:=rest) (by cases k<;>rfl) hs hcl hk hnm (h.fu S fun x s1 F1 V1 S1 h1=>h1.fu S1 fun it s2 F2 V2 S2 h2=>?_)
 refine Ld ks₀ fr gs as (R:=fun acc C=>compPost (Mo c) A (fun _ _=>False) Option.none R acc C) g ca hok S2 h2 fun D C cenv f F' V' s' S' qz=>Bk qz fun P W hP ft q=>?_
 refine Ag (Cq.drop hP (S'.fit ft)) fun mm hn hd=>?_
 exact Ak mm hn (fun h' hs'=>kk _ _ _ _ (hd h' hs') q)
theorem Run.Sq {x:Str}{target iter:Expr}{rest:List Comprehension}(ks₀ fr gs:List Str) (as:List Addr) (g:Gv env) (ca:A6 env fr as) (hok:C7 scope ks₀ fr gs=true)
  (hsw:swapsWith (.ListComp elt (⟨target,iter,ifs,0⟩::rest) scope pos) (some (.Name x p')) p.line env=Pure.pure true)
  (h:Run c A (eval iter env) F V (fun x₁ F1 V1=>Run c A (pyIter x₁) F1 V1 (Ih c A false elt (⟨target,iter,ifs,0⟩::rest) scope pos ks₀ fr gs as
   (fun D _ C _ _ F3 V3=>Run c A (storeName env x (.ref D)) F3 V3 (fun _ F4 V4=>∃P W,Hd P∧B5 ((C,P)::W) V4∧QF .next F4 W)))))
  (hs:∀x,foldedSetIterable iter env x=Pure.pure x):
  Run c A (exec (.Assign [.Name x p'] (.ListComp elt (⟨target,iter,ifs,0⟩::rest) scope pos) p) env) F V QF:=.ki fun s R S kk=>by
 refine(exec_Assign_Name_used _ _ _ _ hsw)▸?_
 refine d8 (wpAny_standAt (d8 ?_))
 obtain⟨hcl,hk,hnm,hcell,hnd, -⟩:=Hq (C:=0) g ca hok
 refine(?_:wpAny _ _ (comprehension _ _ _ _ _ _ _ _>>=fun _=>Pure.pure ()) _ _ s)
 refine d8 (wpAny_comprehension_free (use:=some (assign (.Name x p') env)) (g:=⟨target,iter,ifs,0⟩) (gs:=rest) (e:=.ListComp elt (⟨target,iter,ifs,0⟩::rest) scope pos) rfl hs hcl hk hnm (h.fu S fun x s1 F1 V1 S1 h1=>h1.fu S1 fun it s2 F2 V2 S2 h2=>?_))
 refine Ld (k:=false) ks₀ fr gs as (R:=fun acc C=>compPost (Mo c) A (fun _ _=>False) (some (assign (.Name _ p') env)) (fun _ s'=>wpAny (Mo c) A (Pure.pure ()) (fun _ s'=>wpAny (Mo c) A (Pure.pure Flow.next) R (fun _ _=>False) s') (fun _ _=>False) s') acc C) g ca hok S2 h2 fun D C cenv f F' V' s' S' q=>?_
 refine(Run.BA q).fu S' fun _ s4 F4 V4 S4 qz=>Bk qz fun P W hP ft q4=>?_
 refine Ag (Cq.drop hP (S4.fit ft)) fun mm hn hd=>?_
 exact Ak mm hn (fun h' hs'=>d9 (d9 (kk _ _ _ _ (hd h' hs') q4)))
structure ItOk (c:Cx) (A:Around) (F:FM) (it:Addr) (P:Nat→Obj→Prop) (N:Nat) (item:Nat→Value→Prop):Prop where
 self:∀i,Eg (P i)
 next:∀i F' W (Q:Option Value→FM→Aa→Prop),Le F F'→i<N→(∀v,item i v→Q (some v) F' ((it,P (i+1))::W))→Run c A (pyNext (.ref it)) F' ((it,P i)::W) Q
 done:∀F' W (Q:Option Value→FM→Aa→Prop),Le F F'→Q none F' W→Run c A (pyNext (.ref it)) F' ((it,P N)::W) Q
 got:∀i elts k p v F' W (Q:Unit→FM→Aa→Prop),Q () F' ((it,P i)::W)→Run c A (letOwnedTupleGo (.Tuple elts k p) (.ref it) v) F' ((it,P i)::W) Q
theorem AS.fu {item:Nat→Value→Prop}(h:AS c F xv N item) (rm:Rm n A) (kk:∀it P,ItOk c A F it P N item→Q (.ref it) F ((it,P 0)::V)):Run c A (pyIter xv) F V Q:=
 (h A n V rm).mono fun itv F2 V2 q=>by
  obtain⟨rfl,it,P,rfl,rfl,h1,h2,h3,h4⟩:=q
  exact kk it P ⟨h1,h2,h3,h4⟩
def CE {α:Type}(y:Cc) (k:Bool) (elt:Expr) (gens:List Comprehension) (scope:Scope) (pos:Pos) (depth:Nat) (D:Addr) (AP:α→Obj→Prop) (F:FM) (m:Sm) (W:Aa) (a:α) (Q:α→FM→Sm→Aa→Prop):Prop:=
 ∀K Vf (Q':Unit→FM→Aa→Prop),Sb (full y m (W++((D,AP a)::K))) Vf→(∀a' F' V' m' W',Le F F'→Sb (full y m' (W'++((D,AP a')::K))) V'→Q a' F' m' W'→Q' () F' V')→Run y.fo y.A (emitC k elt gens scope pos depth (.ref D) y.env) F Vf Q'
def EG (c:Cx) (A:Around) (k:Bool) (D:Addr) (P P':Obj→Prop) (u:Value):Prop:=∀F V (Q:Unit→FM→Aa→Prop),Q () F ((D,P')::V)→Run c A (PySem.call (.builtin (if k then "set.add" else "list.append")) [.ref D,u]) F ((D,P)::V) (fun _=>Q ())
theorem EG.fx {D:Addr}{u:Value}(h:us.length≤100000):EG c A false D (Ab us) (Ab (us++[u])) u:=fun _ _ _ q=>Run.bAppend .head h q
inductive CeI {α:Type}(y:Cc) (D:Addr) (AP:α→Obj→Prop) (K:Aa) (F:FM) (J:Nat→α→FM→Sm→Aa→Prop) (i:Nat) (F3:FM):Aa→Prop
 |mk {a m W:_}:Le F F3→J i a F3 m W→CeI y D AP K F J i F3 (full y m (W++((D,AP a)::K)))
theorem Sb.mid {p:Addr×(Obj→Prop)}{q:Addr×(Obj→Prop)}{K:Aa}:Sb (p::q::(W++K)) (q::(W++(p::K))):=.perm ((eK ..).trans (List.perm_middle.symm.cons _))
theorem Sb.mid' {p:Addr×(Obj→Prop)}{q:Addr×(Obj→Prop)}{K:Aa}:Sb (q::(W++(p::K))) (p::q::(W++K)):=.perm ((List.perm_middle.cons _).trans (eK ..))
theorem Sb.sw {K:Aa}{p q r:Addr×(Obj→Prop)}:Sb (r::(W++(p::q::K))) (r::(W++(q::p::K))):=.perm (((eK ..).append_left W).cons _)
theorem CU.to {y:Cc}{t:Expr}{v':Value}(h:CU y t v' F m W m1 W1) (e:v=v'):CU y t v F m W m1 W1:=e▸h
inductive LcT (y:Cc) (target elt:Expr) (ifs:List Expr) (J:Nat→List Value→FM→Sm→Aa→Prop) (i:Nat) (us:List Value) (F:FM) (m:Sm) (W:Aa) (v:Value):Prop
 |mk {m1 W1:_}:CU y target v F m W m1 W1→EO y F m1 W1 ifs (fun b F2 W2=>(b=true→Rx y F2 m1 W2 elt (fun u F3 W3=>us.length≤100000∧J (i+1) (us++[u]) F3 m1 W3))∧(b=false→J (i+1) us F2 m1 W2))→LcT y target elt ifs J i us F m W v
inductive AsD (x:Cc) (id_:Str) (rest:List Stmt) (Q:Flow→FM→Sm→Aa→Prop) (m:Sm) (D:Addr) (us:List Value) (F:FM) (W:Aa):Prop
 |mk {s0 m1:_}:Aj id_ s0 (.val (.ref D)) m m1→R x rest F m1 ((D,Ab us)::W) Q→AsD x id_ rest Q m D us F W
theorem EO.mono {y:Cc}{QB':Bool→FM→Aa→Prop}(h:EO y F m W ifs QB) (k:∀b F' W',QB b F' W'→QB' b F' W'):EO y F m W ifs QB':=by
 match ifs,h with
 |[],h=>exact k _ _ _ h
 |[e],h=>exact .ki fun K Vf Q' ft kk=>Tx.fu h ft fun v F' V' W le f q=>kk v F' V' W le f (k _ _ _ q)
section
variable {α:Type}{y:Cc}{k:Bool}{target iter:Expr}{D:Addr}{AP:α→Obj→Prop}{a:α}{Q:α→FM→Sm→Aa→Prop}
theorem CE.last (h:Rx y F m W elt (fun u F' W'=>∃a',EG y.fo y.A k D (AP a) (AP a') u∧Q a' F' m W')) (hg:autoParam (gens[depth+1]? =Option.none) aR):CE y k elt gens scope pos depth D AP F m W a Q:=fun K Vf Q' ft kk=>
 Run.Ta hg (h.fu ft fun u F' V' W' le f1 q=>q.elim fun a' q=>Run.fit (Sb.trans Sb.mid f1).fit (q.1 _ _ _ (kk a' _ _ _ _ le Sb.mid' q.2)))
def Ha {α:Type}(y:Cc) (k:Bool) (elt:Expr) (gens:List Comprehension) (scope:Scope) (pos:Pos) (depth:Nat) (D:Addr) (AP:α→Obj→Prop) (target:Expr) (ifs:List Expr) (J:α→FM→Sm→Aa→Prop) (a:α) (F:FM) (m:Sm) (W:Aa) (v:Value):Prop:=
 ∃m1 W1,CU y target v F m W m1 W1∧EO y F m1 W1 ifs (fun b F2 W2=>(b=true→CE y k elt gens scope pos depth D AP F2 m1 W2 a J)∧(b=false→J a F2 m1 W2))
theorem CE.loop {P:Nat→Obj→Prop}{K:Aa}(N:Nat) (item:Nat→Value→Prop) (J:Nat→α→FM→Sm→Aa→Prop) (hg:gens[depth]? =some ⟨target,iter,ifs,0⟩) (hg':∀g',gens[depth+1]? =some g'→g'.is_async=0)
  (io:ItOk y.fo y.A F it P N item) (hgo:(∃a q,target= .Name a q)∨∃elts k q,target= .Tuple elts k q)
  (turn:∀i a F' m W v,i<N→Le F F'→J i a F' m W→item i v→Ha y k elt gens scope pos depth D AP target ifs (J (i+1)) a F' m W v)
  (hJ:J 0 a F m W) (ft:Sb ((it,P 0)::full y m (W++((D,AP a)::K))) Vf) (kk:∀a' F' m' W',Le F F'→J N a' F' m' W'→QF .next F' (full y m' (W'++((D,AP a')::K)))):
  AA y.fo y.A (.compLoop (Bu k elt gens scope pos) depth (.ref it) (.ref D) y.env) F Vf QF:=by
 refine AA.fit ft.fit (AA.cmp N P (CeI y D AP K F J) hg hg' ?_ ?_ (.mk (Le.refl _) hJ))
 ·rintro i hi F3 _ ⟨le3,hJ⟩
  refine io.next i F3 _ _ le3 hi fun v hv=>?_
  refine BH (turn i _ F3 _ _ v hi le3 hJ hv) fun m1 W1 ha hb=>?_
  refine ha it (P (i+1)) _ _ (fun v Q hq=>?_) (hb.fu Sb.refl fun b F4 V4 W4 le4 f4 q4=>?_)
  ·rcases hgo with ⟨a,q,rfl⟩|⟨elts,k,q,rfl⟩
   ·exact Run.goN hq
   ·exact io.got (i+1) _ _ _ _ _ _ _ hq
  ·induction b with
   |false=>exact Ak _ ((Sb.trans Sb.mid f4).fit) (.mk (le3.trans le4) (q4.2 rfl))
   |true=>exact q4.1 rfl _ _ _ (Sb.trans Sb.sw f4) fun a' F5 V5 m' W' le5 f5 q5=>Ak _ ((Sb.trans Sb.mid (Sb.trans Sb.sw f5)).fit) (.mk (le3.trans (le4.trans le5)) q5)
 ·rintro F3 _ ⟨le3,hJ⟩
  exact io.done F3 _ _ le3 (kk _ _ _ _ le3 hJ)
theorem CE.inner (ok:Ok y n gs) (N:Nat) (item:Nat→Value→Prop) (J:Nat→α→FM→Sm→Aa→Prop) (hg:gens[depth+1]? =some ⟨target,iter,ifs,0⟩)
  (h:Rx y F m W iter Qi) (hi:∀xv F' W',Le F F'→Qi xv F' W'→AS y.fo F' xv N item∧J 0 a F' m W')
  (turn:∀i a F' m W v,i<N→Le F F'→J i a F' m W→item i v→Ha y k elt gens scope pos (depth+1) D AP target ifs (J (i+1)) a F' m W v) (fin:∀a F' m' W',Le F F'→J N a F' m' W'→Q a F' m' W')
  (hg':∀g',gens[depth+1+1]? =some g'→g'.is_async=0) (hgo:(∃a q,target= .Name a q)∨∃elts k q,target= .Tuple elts k q) (hs:autoParam (∀v,foldedSetIterable iter y.env v=Pure.pure v) aV):CE y k elt gens scope pos depth D AP F m W a Q:=fun K Vf Q' ft kk=>
 Run.S9 hg hs (h.fu ft fun xv F1 V1 W1 le f1 q=>(hi xv F1 W1 le q).1.fu ok.rm fun it P io=>Dt it (P 0) rfl .head (io.self 0) (CE.loop N item J hg hg' io hgo (fun i a F' m W v a1 a2 a3 a4=>turn i a F' m W v a1 (le.trans a2) a3 a4) (hi xv F1 W1 le q).2 f1.cons fun a' F' m' W' le' hJ=>kk a' F' _ m' W' (le.trans le') Sb.refl (fin a' F' m' W' (le.trans le') hJ)))
theorem Sb.in {Pc:Obj→Prop}{K:Aa}(f1:Sb ((L,Pl)::(W++K)) Vf):Sb ((it,Pi)::(C,Pc)::(W++((D,Pd)::(L,Pl)::K))) ((C,Pc)::(D,Pd)::(it,Pi)::Vf):=by
 refine Sb.trans (Sb.cons (Sb.cons (Sb.trans (.perm (List.perm_middle.trans (List.perm_middle.cons _))) f1.cons))) (.perm ?_)
 exact(eK ..).trans ((eK ..).cons _)
theorem Sb.out {K:Aa}:Sb ((L,Pl)::(((D,Pd)::W)++K)) (W++((D,Pd)::(L,Pl)::K)):=.perm ((eK ..).trans ((List.perm_middle.symm.cons _).trans List.perm_middle.symm))
theorem Rx.cm {rest:List Comprehension}{Q:Value→FM→Aa→Prop}(ks₀ fr gs':List Str) (as:List Addr) (AP:α→Obj→Prop) (a:α) (hAP:∀o,Il k o→AP a o) (ok:Ok x n gs) (ca:A6 x.env fr as) (hok:C7 scope ks₀ fr gs'=true)
  (N:Nat) (item:Nat→Value→Prop) (J:Nat→α→FM→Sm→Aa→Prop) (h:Rx x F m V iter Qi) (hi:∀xv F' W,Le F F'→Qi xv F' W→AS x.fo F' xv N item∧J 0 a F' (anyM ks₀) W)
  (turn:∀y D,Ok y n gs'→A6 y.env fr as→y.w=x.w→y.os=x.os→y.A=x.A→∀i a F' m W v,i<N→Le F F'→J i a F' m W→item i v→Ha y k elt (⟨target,iter,ifs,0⟩::rest) scope pos 0 D AP target ifs (J (i+1)) a F' m W v)
  (fin:∀a F' m W D,Le F F'→J N a F' m W→Q (.ref D) F' ((D,AP a)::W)) (hg':∀g',(⟨target,iter,ifs,0⟩::rest)[0+1]? =some g'→g'.is_async=0) (hgo:(∃a q,target= .Name a q)∨∃elts k q,target= .Tuple elts k q)
  (hs:autoParam (∀v,foldedSetIterable iter x.env v=Pure.pure v) aV):Rx x F m V (Bu k elt (⟨target,iter,ifs,0⟩::rest) scope pos) Q:=.ki fun K Vf Q' ft kk=>by
 refine Run.cm ks₀ fr gs' as ok.gv ca hok (h.fu ft fun xv F1 V1 W1 le f1 q=>(hi xv F1 W1 le q).1.fu ok.rm fun it P io=>Dt it (P 0) rfl .head (io.self 0) (fun D C cenv ks lo gv gb ca' hk=>?_)) hs
 refine CE.loop (y:=⟨x.w,x.os,x.A,cenv,C,ks⟩) (AP:=AP) (K:=(x.L,AJ x.ks m)::K) N item J rfl hg' io hgo (fun i a F' m W v a1 a2 a3 a4=>turn ⟨x.w,x.os,x.A,cenv,C,ks⟩ D ⟨ok.rm,lo,gv,gb⟩ ca' rfl rfl rfl i a F' m W v a1 (le.trans a2) a3 a4) (hi xv F1 W1 le q).2 (Sb.in f1:Sb _ ((C,AJ ks (anyM ks₀))::(D,AP a)::(it,P 0)::V1)) (fun a' F' m' W' le' hJ=>?_)|>AA.fit (fun Fz hz O=>?_)
 ·exact(((O.imp (P':=AJ ks (anyM ks₀)) fun o ho=>AJ.Of ho hk).perm (.swap ..)).imp hAP).perm (.swap ..)
 ·exact Bg _ _ nsP_frS B5.refl (kk _ _ _ _ (le.trans le') Sb.out (fin a' F' m' W' D (le.trans le') hJ))
theorem cZ {l:Nat}(lo:Loc env L ks) (hk:id_ ∈ ks) (hl:autoParam ((p'.line==pos.line)=true) aR) (hn:(scope.names.any fun(n,k)=>n==id_ && (k== .local||k== .cell))=false:=by kernel_rfl):swapsWith (.ListComp elt gens scope pos) (some (.Name id_ p')) l env=(Pure.pure true:Sem Bool):=by
 have h1:(env.kindOf id_==some NameKind.local)=true:=by
  refine(?_:(env.scope.names.lookup id_==some NameKind.local)=true)
  rw[lo.loc _ hk];rfl
 have h2:(env.blockKind==ScopeKind.function)=true:=by
  unfold Env.blockKind
  rw[lo.kind];rfl
 unfold swapsWith
 dsimp only
 simp only[h1,h2,show(p'.line==(Expr.ListComp elt gens scope pos).pos.line)=true from hl]
 exact congrArg (fun b=>(Pure.pure (true && true && true && !b):Sem Bool)) hn
theorem Run.keys {β:Type}{t:Sem β}{K:Aa}{Q:β→FM→Aa→Prop}(ft:Sb (full x m K) Vf) (h:m.map (·.1)=x.ks→Run x.fo x.A t F Vf Q):Run x.fo x.A t F Vf Q:=fun s S=>h (by
 refine Ag ((ft.fit _ _ S.own).get .head) fun o ho y=>?_
 exact y.1) s S
theorem R.Q5 {rest:List Comprehension}{Q:Flow→FM→Sm→Aa→Prop}(ks₀ fr gs':List Str) (as:List Addr) (AP:α→Obj→Prop) (a:α) (hAP:∀o,Ab [] o→AP a o) (ok:Ok x n gs) (ca:A6 x.env fr as) (hok:C7 scope ks₀ fr gs'=true)
  (N:Nat) (item:Nat→Value→Prop) (J:Nat→α→FM→Sm→Aa→Prop) (h:Rx x F m V iter Qi) (hi:∀xv F' W,Le F F'→Qi xv F' W→AS x.fo F' xv N item∧J 0 a F' (anyM ks₀) W)
  (turn:∀y D,Ok y n gs'→A6 y.env fr as→y.w=x.w→y.os=x.os→y.A=x.A→∀i a F' m W v,i<N→Le F F'→J i a F' m W→item i v→Ha y false elt (⟨target,iter,ifs,0⟩::rest) scope pos 0 D AP target ifs (J (i+1)) a F' m W v)
  (fin:∀a F' mc W D,Le F F'→J N a F' mc W→∃s0 m1,Aj id_ s0 (.val (.ref D)) m m1∧R x rst F' m1 ((D,AP a)::W) Q) (hg':∀g',(⟨target,iter,ifs,0⟩::rest)[0+1]? =some g'→g'.is_async=0) (hgo:(∃a q,target= .Name a q)∨∃elts k q,target= .Tuple elts k q)
  (hid:id_ ∈ m.map (·.1)) (hl:autoParam ((p'.line==pos.line)=true) aR) (hn:(scope.names.any fun(n,k)=>n==id_ && (k== .local||k== .cell))=false:=by kernel_rfl)
  (hs:autoParam (∀v,foldedSetIterable iter x.env v=Pure.pure v) aV):R x (.Assign [.Name id_ p'] (.ListComp elt (⟨target,iter,ifs,0⟩::rest) scope pos) p::rst) F m V Q:=by
 refine .cons (Q':=fun f F' m' W=>f= .next∧R x rst F' m' W Q) (fun K Vf ft=>?_) fun f F' m' W le qz=>EW qz fun e q=>by refine e▸?_;exact q
 refine Run.keys ft fun hk=>Run.Sq ks₀ fr gs' as ok.gv ca hok (cZ ok.lo (hk▸hid) hl hn) (h.fu ft fun xv F1 V1 W1 le f1 q=>(hi xv F1 W1 le q).1.fu ok.rm fun it P io=>Dt it (P 0) rfl .head (io.self 0) (fun D C cenv ks lo gv gb ca' hk=>?_)) hs
 refine CE.loop (y:=⟨x.w,x.os,x.A,cenv,C,ks⟩) (k:=false) (AP:=AP) (K:=(x.L,AJ x.ks m)::K) N item J rfl hg' io hgo (fun i a F' m W v a1 a2 a3 a4=>turn ⟨x.w,x.os,x.A,cenv,C,ks⟩ D ⟨ok.rm,lo,gv,gb⟩ ca' rfl rfl rfl i a F' m W v a1 (le.trans a2) a3 a4) (hi xv F1 W1 le q).2 (Sb.in f1:Sb _ ((C,AJ ks (anyM ks₀))::(D,AP a)::(it,P 0)::V1)) (fun a' F' m' W' le' hJ=>?_)|>AA.fit (fun Fz hz O=>?_)
 ·exact(((O.imp (P':=AJ ks (anyM ks₀)) fun o ho=>AJ.Of ho hk).perm (.swap ..)).imp hAP).perm (.swap ..)
 ·refine BH (fin a' F' m' W' D (le.trans le') hJ) fun s0 m1 hp hr=>?_
  refine Run.fit (W:=full x m (((D,AP a')::W')++((C,AJ ks m')::K))) (Sb.fit (Sb.trans (.perm ?_) (Sb.cons (Sb.out (W:=W') (K:=K))))) (Run.D9 (s:=.val (.ref D)) ok.lo hp rfl ⟨AJ ks m',full x m1 (((D,AP a')::W')++K),nsP_frS,Sb.fit (.perm (List.perm_middle (l₁:=(x.L,AJ x.ks m1)::(D,AP a')::W')).symm),le.trans le',m1,_,Sb.refl,rfl,hr⟩)
  exact List.perm_middle (l₁:=(x.L,AJ x.ks m)::(D,AP a')::W')
theorem Rx.lc {Q:Value→FM→Aa→Prop}(ks₀ fr gs':List Str) (as:List Addr) (ok:Ok x n gs) (ca:A6 x.env fr as) (hok:C7 scope ks₀ fr gs'=true) (N:Nat) (item:Nat→Value→Prop) (J:Nat→List Value→FM→Sm→Aa→Prop)
  (h:Rx x F m V iter fun xv F' W=>AS x.fo F' xv N item∧J 0 [] F' (anyM ks₀) W)
  (turn:∀y,Ok y n gs'→A6 y.env fr as→y.w=x.w→y.os=x.os→y.A=x.A→∀i us F' m W v,i<N→J i us F' m W→item i v→Le F F'→LcT y target elt ifs J i us F' m W v)
  (fin:∀us F' m W D,J N us F' m W→Le F F'→Q (.ref D) F' ((D,Ab us)::W)) (hgo:(∃a q,target= .Name a q)∨∃elts k q,target= .Tuple elts k q)
  (hs:autoParam (∀v,foldedSetIterable iter x.env v=Pure.pure v) aV):Rx x F m V (.ListComp elt [⟨target,iter,ifs,0⟩] scope pos) Q:=
 .cm (k:=false) ks₀ fr gs' as Ab [] (fun _ h=>h) ok ca hok N item J h (fun _ _ _ _ q=>q) (fun y D a1 a2 a3 a4 a5 i us F' m W v b1 b2 b3 b4=>(turn y a1 a2 a3 a4 a5 i us F' m W v b1 b3 b4 b2).casesOn fun{m1 W1} ha hb=>Ae m1 W1 ha (hb.mono fun b F2 W2 q=>⟨fun e=>.last ((q.1 e).mono fun u F3 W3 _ r=>⟨us++[u],.fx r.1,r.2⟩),q.2⟩))
  (fun us F' m W D le hJ=>fin us F' m W D hJ le) (fun _ e=>nomatch e) hgo hs
theorem R.KO {Q:Flow→FM→Sm→Aa→Prop}(ks₀ fr gs':List Str) (as:List Addr) (ok:Ok x n gs) (ca:A6 x.env fr as) (hok:C7 scope ks₀ fr gs'=true) (N:Nat) (item:Nat→Value→Prop) (J:Nat→List Value→FM→Sm→Aa→Prop)
  (h:Rx x F m V iter fun xv F' W=>AS x.fo F' xv N item∧J 0 [] F' (anyM ks₀) W)
  (turn:∀y,Ok y n gs'→A6 y.env fr as→y.w=x.w→y.os=x.os→y.A=x.A→∀i us F' m W v,i<N→J i us F' m W→item i v→Le F F'→LcT y target elt ifs J i us F' m W v)
  (fin:∀us F' m' W D,J N us F' m' W→Le F F'→AsD x id_ rst Q m D us F' W) (hgo:(∃a q,target= .Name a q)∨∃elts k q,target= .Tuple elts k q)
  (hid:id_ ∈ m.map (·.1)) (hl:autoParam ((p'.line==pos.line)=true) aR) (hn:(scope.names.any fun(n,k)=>n==id_ && (k== .local||k== .cell))=false:=by kernel_rfl)
  (hs:autoParam (∀v,foldedSetIterable iter x.env v=Pure.pure v) aV):R x (.Assign [.Name id_ p'] (.ListComp elt [⟨target,iter,ifs,0⟩] scope pos) p::rst) F m V Q:=
 .Q5 ks₀ fr gs' as Ab [] (fun _ h=>h) ok ca hok N item J h (fun _ _ _ _ q=>q) (fun y D a1 a2 a3 a4 a5 i us F' m W v b1 b2 b3 b4=>(turn y a1 a2 a3 a4 a5 i us F' m W v b1 b3 b4 b2).casesOn fun{m1 W1} ha hb=>Ae m1 W1 ha (hb.mono fun b F2 W2 q=>⟨fun e=>.last ((q.1 e).mono fun u F3 W3 _ r=>⟨us++[u],.fx r.1,r.2⟩),q.2⟩))
  (fun us F' m' W D le hJ=>(fin us F' m' W D hJ le).casesOn fun{s0 m1} hp r=>Ae s0 m1 hp r) (fun _ e=>nomatch e) hgo hid hl hn hs
end
section
open PySem PySem.W PySem.Calls PyProof.Rows PySem.Builtin PySem.Builtin.Str
def Ah (v:Value) (l:List Nat):Prop:=∃t,v= .str (tx l) t
theorem MJ:∀ (ls:List (List Nat)) (a:List Nat),(ls.map tx).foldl (fun(acc:Array Nat) (p:Str)=>acc++#[]++p.cps) a.toArray=(a++ls.flatten).toArray
 |[],a=>by simp
 |l::ls,a=>by
  simp only[eP,List.foldl_cons]
  have:a.toArray++#[]++(tx l).cps=(a++l).toArray:=by simp[tx]
  simp only[this,MJ ls]
  simp
theorem No (ls:List (List Nat)):Txt.join (Str.ofString "") (ls.map tx)=tx ls.flatten:=by
 have e:(Str.ofString "")=⟨#[]⟩:=by decide+kernel
 rw[e]
 induction ls with
 |nil=>rfl
 |cons l ls=>
  refine(?_:Str.mk (List.foldl _ (tx l).cps (ls.map tx))=_)
  rw[show(tx l).cps=l.toArray from rfl,MJ]
  rfl
theorem Nn (h:ls.flatten.length≤100000):JoinOk (Str.ofString "") (ls.map tx)=true:=by
 have e:(Str.ofString "")=⟨#[]⟩:=by decide+kernel
 have key:∀(ls:List (List Nat)) (n:Nat),(ls.map tx).foldl (fun(a:Nat) (y:Str)=>a+y.length+(⟨#[]⟩:Str).length) n=n+ls.flatten.length:=by
  intro ls
  induction ls with
  |nil=>intro n;rfl
  |cons l ls ih=>
   intro n
   simp only[eP,List.foldl_cons,ih,Av,List.flatten_cons,eO]
   refine(?_:n+l.length+0+_=_)
   lia
 delta JoinOk tooLong
 rw[e,List.foldl_toArray,key,eT]
 rw[Bool.not_eq_true',decide_eq_false_iff_not]
 lia
theorem Pj (h:Af Ah vs ls):∃ys,vs=strValues ys∧ys.map (·.1)=ls.map tx:=by
 induction h with
 |nil=>exact⟨[],rfl,rfl⟩
 |cons a _ ih=>
  obtain⟨t,rfl⟩:=a
  obtain⟨ys,rfl,e⟩:=ih
  exact⟨(tx _,t)::ys,rfl,by simp only[eP,eP,e]⟩
section
variable {b:Bool}{s:Sp}
theorem Ev.Y6 (h:Rx x F m V e (fun v F' W=>F=F'∧Sb V W∧s.ok (some v))):Ev x F m V e s:=.ki fun K Vf Q' ft kk=>h.fu ft fun v F1 V1 W _ f1 q=>Bj q fun a sb hv=>by refine a▸?_;exact kk V1 v ((Sb.cons sb.app).trans f1) hv
theorem Rx.join (ho:Ev x F m V eo (.str (Str.ofString ""))) (h:Rx x F m V e Qv) (k:∀v F' W,Le F F'→Qv v F' W→∃l vs ls,v= .ref l∧Ad l (Ab vs) W∧Af Ah vs ls∧ls.flatten.length≤100000∧∀u,(Sp.str (tx ls.flatten)).ok (some u)→Q u F' W)
  (hn:autoParam (notStar e=true) aR) (hbase:autoParam (attributeBase eo (Str.ofString "join") x.env (eval eo x.env)=eval eo x.env) aU)
  (hfew:autoParam (((backTo pos (starEach [e] x.env)).all (fun x=> !x.1) && (backToKw pos (keywordEach [] x.env)).all (fun x=>x.1.isSome) && decide ([e].length+([]:List Keyword).length+(if ([]:List Keyword).isEmpty then 0 else 1)<30))=true) aU)
  (hline:autoParam ((apos.endLine==pos.line)=true) aU):Rx x F m V (.Call (.Attribute eo (Str.ofString "join") apos) [e] [] pos) Q:=.ki fun K Vf Q' ft kk=>.Es (ho.kS ft fun V1 u f1=>Run.Fb (t:=fun i=>callWith pos (.builtin i) [.str (Str.ofString "") u] (backTo pos (starEach [e] x.env)) []) PySem.F.slot_str_join PySem.F.type_str_join (Run.Dp (Run.AL (h.fu f1 fun v F2 V2 W le f2 q=>Run.A0
 (IQ (k v F2 W le q) fun l vs ls e hl ha hb hq=>Ag (Pj ha) fun ys e1 e2=>by
  subst e e1
  exact Run.fit f2.fit (Run.KT (.tail hl.app) e2 (Nn hb) fun t=>kk _ F2 _ W le Sb.refl (hq _ ⟨t,by rw[No]⟩)))) (AD hn)) (AD hn) rfl)) hbase hfew hline
theorem Aq.GY {i:Int}(h:j≠0):Aq .Mod (.int i) (.int j) (.int (i.fmod j)):=by
 exact .of fun c A F V Q k t u=>.mk fun s S=>mod_int' h (Ae F V ⟨S.own,S.base,S.gens,S.os⟩ (k _ ⟨_,rfl⟩))
theorem Aq.TL {i:Int}(h:j≠0) (hp:Builtin.divisionGoesByPylong i j=false):Aq .FloorDiv (.int i) (.int j) (.int (i.fdiv j)):=by
 exact .of fun c A F V Q k t u=>.mk fun s S=>floordiv_int h (Ae F V ⟨S.own,S.base,S.gens,S.os⟩ (k _ ⟨_,rfl⟩)) (.inl hp)
theorem Aq.B7 {a b:List Nat}(ha:a.length≤10000) (hb:b.length≤10000):Aq .Add (.str (tx a)) (.str (tx b)) (.str (tx (a++b))):=by
 rw[←Gh]
 exact .Io (by rw[Av];exact eb ‹_› (d7 rfl)) (by rw[Av];exact eb ‹_› (d7 rfl))
theorem Ev.Bc {l:List Nat}(h:y=tx l):Ev x F m V (.Constant (.str y) k p) (.str (tx l)):=h▸.str
end
end
section
open PySem PySem.W PySem.Calls PyProof.Rows PySem.Builtin
noncomputable def EC:List Nat:=[40,41,91,93,123,125,63,42,43,45,124,94,36,92,46,38,126,35,32,9,10,13,11,12]
noncomputable def E3 (c:Nat):List Nat:=if c ∈ EC then[92,c] else[c]
theorem Tp (w:World) (os:OsState):(cx w os).F0 277=some (Dy):=by kernel_rfl
theorem Tq (w:World):(BC (Dy)).all (fun e=>match e.key with| .int i _=>e.hash==hashInt i|_=>false)=true:=by kernel_rfl
noncomputable def d5 (es:Array DictEntry) (c:Nat):Option (List Nat):=match (es.find? fun e=>Value.isInt c e.key) with
 |some e=>(match e.val with| .str y _=>some (cl y)|_=>none)
 |none=>none
noncomputable def To (es:Array DictEntry):Bool:=(List.range 128).all fun c=>match es.find? (fun e=>Value.isInt c e.key) with
 |some e=>(match e.val with| .str y _=>decide (c ∈ EC) && cl y==[92,c]|_=>false)
 |none=> !decide (c ∈ EC)
theorem Ts (w:World):To (BC (Dy))=true:=by kernel_rfl
theorem WD {p:Int→Bool}(v:Value) (h:(match v with| .int i _=>p i|_=>false)=true):∃i t,v= .int i t∧p i=true:=by
 induction v using Value.casesOn<;>first|exact⟨_,_,rfl,h⟩|exact absurd h Bool.false_ne_true
theorem cJ {p:Str→Bool}(v:Value) (h:(match v with| .str y _=>p y|_=>false)=true):∃y t,v= .str y t∧p y=true:=by
 induction v using Value.casesOn<;>first|exact⟨_,_,rfl,h⟩|exact absurd h Bool.false_ne_true
theorem Tr (S:St (cx w os) F V s):s.heap.MapOf (intKind P0 w) 277 (fun k=>findBy Value.isInt (BC (Dy)) k):=by
 refine GM Dy (BC (Dy)) _ (S.own.fro _ _ (S.base _ _ (Tp w os))) ⟨rfl,rfl,rfl⟩ rfl (fun e he=>?_) (fun k=>rfl)
 refine BH (WD e.key ((Array.all_eq_true_iff_forall_mem.mp (Tq w)) e he)) fun i t hk q=>Ak i (hk▸eX i) (eq_of_beq q)
theorem LD {w:World}{c:Nat}(h:c<128):(c ∈ EC→∃t,findBy Value.isInt (BC (Dy)) (c:Int)=some (.str (tx [92,c]) t))∧(c ∉ EC→findBy Value.isInt (BC (Dy)) (c:Int)=none):=by
 have:=fk (Ts w) c (List.mem_range.mpr h)
 delta findBy
 cases hf:(BC (Dy)).find? (fun e=>Value.isInt c e.key) with
 |none=>
  rw[hf] at this
  exact⟨fun h=>absurd h (of_decide_eq_false ((Bool.not_eq_true' _).mp this)),fun _=>rfl⟩
 |some e=>
  replace this:=(hf)▸this
  refine BH (cJ e.val this) fun y t hv q=>?_
  refine And.elim (fun h1 h2=>?_) (fi q)
  refine⟨fun _=>⟨t,?_⟩,fun h=>absurd (ee h1) h⟩
  refine(?_:some e.val=_)
  rw[hv,←(eq_of_beq h2:cl y=_),EF]
theorem cR:isSubtype (.type "KeyError") (.type "LookupError")=(Pure.pure true:Sem Bool):=by with_unfolding_all rfl
theorem NK {Q:Str.Mapped→FM→Aa→Prop}(hh:A.handled=none) (hk:k<128) (h1:k ∈ EC→Q (.text (tx [92,k])) F V) (h2:k ∉ EC→Q .keep F V):Run (cx w os) A (Str.tableLookup (.ref 277) k) F V Q:=by
 dsimp only[Str.tableLookup]
 refine .bind (.mk fun s S=>wpAny_attempt (d8 (wpAny_mkInt ?_)))
 have S1:St (cx w os) F V {s with toks:=s.toks+1}:=⟨⟨S.own,S.base,S.gens,S.os⟩,eA _⟩
 have hm1:=Tr S1
 by_cases hm:k ∈ EC
 ·obtain⟨t,ht⟩:=(LD (w:=w) hk).1 hm
  refine wpAny_getItem_intMap hm1.intMap ht (Ae F V ⟨S.own,S.base,S.gens,S.os⟩ ?_)
  refine(?_:Run (cx w os) A ((Pure.pure none:Sem (Option Int))>>=_) F V Q)
  refine .bind (.pure ?_)
  refine(?_:Run (cx w os) A ((Pure.pure (some (tx [92,k])):Sem (Option Str))>>=_) F V Q)
  exact .bind (.pure (.pure (h1 hm)))
 ·have ht:=(LD (w:=w) hk).2 hm
  refine wpAny_getItem_missing_of (knd:=intKind P0 w) (k:=(k:Int)) (by refine(?_:Value.isInt (k:Int) (.int k s.toks)=true);simp[Value.isInt]) (by rfl) hh hm1 ht fun h' e hx=>?_
  obtain⟨ob, -,a,b, -⟩:=hx.there
  refine Ae F _ ⟨(S.own.add (P:=fun o=>o.cls= .type "KeyError") hx.keeps hx.new a b),S.base,S.gens,S.os⟩ ?_
  refine .bind fun s2 S2=>?_
  refine Ag (S2.own.get .head) fun ob a b=>?_
  refine wpAny_isInstance (Ak ob a b) cR (Ae F V (S2.fit (Part.fit (.skip .refl))) ?_)
  exact .bind (.rule (.pure (h2 hm)))
theorem Ua {β:Type}{b:β}{f:Nat→β→Sem (ForInStep β)}:(forIn #[k] b f:Sem β)=(f k b>>=fun r=>match r with| .done b=>Pure.pure b| .yield b=>Pure.pure b):=by
 rw[List.forIn_toArray,e7]
 exact congrArg _ (funext fun r=>by induction r<;>rfl)
theorem dB (rm:Rm n A) (hk:k<128) (h:∀u,Q (.str (tx (E3 k)) u) F V):Run (cx w os) A (PySem.call (.builtin "str.translate") [.str (ch k) t,.ref 277]) F V Q:=by
 have hh:A.in1.handled=none:=rm.2.2
 have key:Run (cx w os) A.in1 (Builtin.«str.translate» ⟨[.str (ch k) t,.ref 277],[]⟩) F V (fun fin F' V'=>∃v,fin= .done (.ret v)∧Q v F' V'):=by
  delta Builtin.«str.translate»
  refine(?_:Run _ _ ((Pure.pure (Value.str (ch k) t,ch k,Value.ref 277):Sem _)>>=_) _ _ _)
  refine .bind (.pure (.of_eq (if_neg (by simp[ch,Str.length])) ?_))
  have e2:(#[k].all fun x=>decide (x<128))=true:=by simp[hk]
  refine .bind (.of_eq Ua ?_)
  dsimp only
  refine(.bind (.of_eq (if_neg (show ¬Str.tooLong 0=true by decide+kernel)) (.of_eq (if_pos e2) (.bind (NK hh hk (fun hm=>?_) (fun hm=>?_))))))
  ·refine .bind (.pure (.bind (.rule (.of_eq (if_neg (Bool.false_ne_true:¬false=true)) (.bind (NK hh hk (fun _=>?_) (fun hn=>absurd hm hn)))))))
   refine .pure (.pure (.of_eq (if_neg (show ¬Str.tooLong 2=true by decide+kernel)) (.bind (.mk fun s S=>wpAny_mkStr ?_ (by rw[eT];exact d7 rfl)))))
   have:=h s.toks
   rw[E3,if_pos hm] at this
   exact Ae F V ⟨S.own,S.base,S.gens,S.os⟩ (.pure ⟨_,rfl,this⟩)
  ·refine .bind (.pure (.pure (.pure (.of_eq (if_neg (show ¬Str.tooLong 1=true by decide+kernel)) (.bind (.mk fun s S=>wpAny_mkStr ?_ (by rw[eT];exact d7 rfl)))))))
   have:=h s.toks
   rw[E3,if_neg hm] at this
   exact Ae F V ⟨S.own,S.base,S.gens,S.os⟩ (.pure ⟨_,rfl,this⟩)
 intro s S
 exact eC PySem.F.slot_str_translate (typeIs_str _ _ _) PySem.F.entry_str_translate ((Run.fu key S fun fin s' F' V' S' qz=>Ag qz fun v e q=>⟨v,e,F',V',S',q⟩)) (PySem.F.args_str_translate_2 _ _)
end
theorem O0:Slot "method_descriptor" "__get__" "method_descriptor.__get__":=
 .of (owner:="method_descriptor") (n:="__get__") (by rw[eS,eR];kernel_rfl) (by decide+kernel) (by decide+kernel) (by decide+kernel)
  (by first|exact .inl (by decide+kernel)|exact .inr (by decide+kernel)) (by rw[e6];kernel_rfl)
theorem Th:entryFor table "method_descriptor.__get__"=some Builtin.«method_descriptor.__get__»:=entryFor_of_tree (by kernel_rfl)
theorem PN (a b c:Value):argsOk "method_descriptor.__get__" ⟨[a,b,c],[]⟩:=by skip;kernel_rfl
theorem Yh:typeLookup (.type "method_descriptor") "__set__"=Pure.pure none:=by rw[eS,eR];kernel_rfl
theorem Yg:typeLookup (.type "method_descriptor") "__delete__"=Pure.pure none:=by rw[eS,eR];kernel_rfl
noncomputable def C0 (id:String) (a:Addr):Obj:={cls:=.type "builtin_function_or_method",data:=.fields #[.builtin id,.ref a]}
structure MdOk (T id nm:String):Prop where
 own:(kfb_private% "ownerAndName") id=(T,nm)
 told:Manifest.toldItsClass.contains id=false
 sub:isSubtype (.type T) (.type T)=(Pure.pure true:Sem Bool)
section
variable {M:Model}
theorem Z5 {id nm:String}{P:Fin→Shared→Prop}(ok:MdOk T id nm) (hT:s.TypeIs (.ref a) T) (hq:P (.done (.ret (.ref s.heap.objs.size))) {s with heap:=s.heap.push (C0 id a)}):
  wpAny M A (Builtin.«method_descriptor.__get__» ⟨[.builtin id,.ref a,.type T],[]⟩) P E s:=by
 unfold Builtin.«method_descriptor.__get__»
 refine d8 (wpAny_of_eq (a:=(.builtin id,some (.ref a),some (.type T))) (by rfl) ?_)
 dsimp only
 simp only[ok.told,Bool.false_eq_true,if_false]
 refine(?_:wpAny M A ((do (kfb_private% "checkInstance") (.builtin id) (.ref a);ret (←newFields "builtin_function_or_method" [.builtin id,.ref a])):Sem PySem.Fin) P E s)
 refine d8 ?_
 refine d8 (m:=(kfb_private% "nameAndClass") (.builtin id)) (wpAny_of_eq (a:=(Str.ofString nm,.type T)) ?_ ?_)
 ·refine(?_:(match (kfb_private% "ownerAndName") id with|(owner,name)=>(Pure.pure (Str.ofString name,.type owner):Sem (Str×Value)))=_)
  rw[ok.own]
 ·skip
  refine d8 (wpAny_isInstance hT ok.sub ?_)
  exact d9 (d8 (eD (d9 hq)))
end
structure GaOk (T gid:String):Prop where
 slot:Slot T "__getattribute__" gid
 entry:entryFor table gid=some Builtin.«object.__getattribute__»
 args:∀a b,argsOk gid ⟨[a,b],[]⟩
section
variable {id nm:String}
theorem UV {P:PySem.Fin→Shared→Prop}{tk:Tok}(sl:Slot T nm id) (ty:typeOf (.builtin id)=Pure.pure (.type "method_descriptor")) (mk:MdOk T id nm) (hx:s.heap.get? a=some o) (hc:o.cls= .type T) (hd:o.dict=none) (hcl:∀c,o.data≠.cls c)
  (hn:(["__module__","__name__","__qualname__","__doc__","__annotations__"]:List Str).contains (Str.ofString nm)=false) (hq:P (.done (.ret (.ref s.heap.objs.size))) {s with heap:=s.heap.push (C0 id a)}):
  wpAny (model prog w) A (Builtin.«object.__getattribute__» ⟨[.ref a,.str (Str.ofString nm) tk],[]⟩) P E s:=by
 have hT:s.TypeIs (.ref a) T:=Ak _ hx hc
 refine d8 (wpAny_of_eq (a:=(.ref a,[.str (Str.ofString nm) tk])) (by rfl) ?_)
 dsimp only
 refine d8 (wpAny_of_eq (a:=Str.ofString nm) (by rfl) ?_)
 refine d8 (wpAny_typeOf hT ?_)
 refine d8 ?_
 refine d8 (wpAny_of_eq sl.lookup (d8 ?_))
 refine(?_:wpAny _ _ (specialOf (.builtin id) "__get__") _ _ _)
 refine wpAny_specialOf_val ty O0.lookup (d8 ?_)
 refine(?_:wpAny _ _ (Builtin.ObjectAttr.takesStores (.builtin id)>>=_) _ _ _)
 refine d8 (d8 (wpAny_specialOf_val ty Yh ?_))
 refine d8 (wpAny_specialOf_val ty Yg (d9 ?_))
 refine d9 ?_
 refine d8 ?_
 refine(?_:wpAny _ _ (Builtin.ObjectAttr.ownDict a>>=fun d=>Builtin.ObjectAttr.inDict _ d) _ _ _)
 refine d8 ?_
 refine d8 (wpAny_loadPart hx ?_)
 have key:wpAny (model prog w) A (instanceDict a false) (fun r s'=>r=none∧s=s') E s:=by
  unfold instanceDict
  refine d8 (wpAny_loadPart hx ?_)
  rw[hc,hd]
  exact d9 ⟨rfl,rfl⟩
 cases hdd:o.data with
 |cls c=>exact absurd hdd (hcl c)
 |_=>
  refine ej key (fun r s' e12=>?_) fun _ _ x=>x
  obtain⟨rfl,rfl⟩:=e12
  refine d9 ?_
  refine d8 ?_
  unfold Builtin.ObjectAttr.copiedAttributeGuard
  rw[hn]
  refine d9 ?_
  refine d8 (wpAny_rule (d9 ?_))
  refine(?_:wpAny _ _ (Builtin.ObjectAttr.bindTo (.builtin "method_descriptor.__get__") (.builtin id) (.ref a) (.type T)) _ _ _)
  unfold Builtin.ObjectAttr.bindTo
  refine d8 (en ?_)
  exact eC O0 (s:=s) ty Th (Z5 mk hT (Ak _ rfl (d9 hq))) (PN _ _ _)
theorem Mz {Q:Value→Shared→Prop}(ga:GaOk T gid) (sl:Slot T nm id) (ty:typeOf (.builtin id)=Pure.pure (.type "method_descriptor")) (mk:MdOk T id nm) (hx:s.heap.get? a=some o) (hc:o.cls= .type T) (hd:o.dict=none) (hcl:∀c,o.data≠.cls c)
  (hn:(["__module__","__name__","__qualname__","__doc__","__annotations__"]:List Str).contains (Str.ofString nm)=false) (hq:Q (.ref s.heap.objs.size) {s with heap:=s.heap.push (C0 id a),toks:=s.toks+1}):
  wpAny (model prog w) A (getAttr (.ref a) (Str.ofString nm) true) Q E s:=by
 unfold getAttr
 refine d8 (wpAny_mkText ?_)
 refine en ?_
 have hT:({s with toks:=s.toks+1}:Shared).TypeIs (.ref a) T:=Ak _ hx hc
 refine d8 (wpAny_typeOf hT (d8 (wpAny_of_eq ga.slot.lookup ?_)))
 unfold getAttrByItsOwn
 refine d8 (d9 (d8 (wpAny_attempt ?_)))
 refine en ?_
 refine(?_:wpAny _ _ (boundAndCalled (.builtin gid) (.ref a) _) _ _ _)
 dsimp only[boundAndCalled]
 refine d8 (wpAny_of_eq (ga.slot.bind (.ref a)) ?_)
 exact eC ga.slot hT ga.entry (UV sl ty mk hx hc hd hcl hn (Ak _ rfl (d9 hq))) (ga.args _ _)
end
theorem Yd:MdOk "list" "list.append" "append":=⟨by first|decide+kernel|kernel_rfl,by decide+kernel,by rw[e6];kernel_rfl⟩
section
variable {b:Addr}
structure BcOk (T id:String) (rest:List Value):Prop where
 sig:∃sg,Manifest.signature? id=some sg∧(∀a,Bind.checkArgs id {sg with full:=s!"{Bind.lastOf T}.{Bind.lastOf id}"} ⟨.ref a::rest,[]⟩=Pure.pure ())
 kind:builtinKind id=some .method
 var:Manifest.varargsMethods.contains id=false
 mod:isSubtype (.type T) (.type "module")=(Pure.pure false:Sem Bool)
 typ:isSubtype (.type T) (.type "type")=(Pure.pure false:Sem Bool)
theorem RT {id:String}{rest:List Value}{Q:Unit→Shared→Prop}(ok:BcOk T id rest) (hT:s.TypeIs (.ref a) T) (hcl:∀o,s.heap.get? a=some o→∀c,o.data≠.cls c) (hq:Q () s):wpAny (model prog w) A (checkBoundCall id ⟨.ref a::rest,[]⟩) Q E s:=by
 refine Ag (ok.sig) fun sg h1 h2=>?_
 dsimp only[checkBoundCall]
 rw[h1]
 refine(ok.kind)▸?_
 dsimp only
 rw[if_neg (by decide)]
 refine d8 (wpAny_isInstance hT ok.mod ?_)
 simp only[ok.var,Bool.or_self,Bool.false_eq_true,if_false]
 have⟨o,ho,hc⟩:=hT
 refine d8 ?_
 refine d8 ?_
 refine wpAny_loadPart ho ?_
 cases hdd:o.data with
 |cls c=>exact absurd hdd ((hcl o ho) c)
 |_=>
  dsimp only
  refine d9 ?_
  refine d8 (wpAny_typeOf hT ?_)
  exact wpAny_of_eq (h2 a) hq
theorem IH {id:String}{rest:List Value}{Q:Value→Shared→Prop}(ok:BcOk T id rest) (hb:s.heap.get? b=some (C0 id a)) (hT:s.TypeIs (.ref a) T) (hcl:∀o,s.heap.get? a=some o→∀c,o.data≠.cls c) (hent:entryFor table id=some B) (hqt:∀as,(Code.builtin id as).quiet=true)
  (tree:∀A':Around,A'.handled=A.handled→wpAny (model prog w) A' (B ⟨.ref a::rest,[]⟩) (fun fin s'=>∃v,fin= .done (.ret v)∧Q v s') E s):wpAny (model prog w) A (PySem.call (.ref b) rest) Q E s:=by
 refine wpAny_call (codeAny_of_tree ?_)
 dsimp only[callAny]
 refine d8 (wpAny_load hb ?_)
 dsimp only[C0,show(Value.type "builtin_function_or_method"==Value.type "method"||Value.type "builtin_function_or_method"==Value.type "builtin_function_or_method"||Value.type "builtin_function_or_method"==Value.type "method-wrapper")=true by decide,if_true]
 refine KFB.if_so (by decide) ?_
 refine d8 (RT ok hT hcl ?_)
 refine d8 (d9 (d9 ?_))
 refine⟨hqt _,codeAny_builtin hent (ej (tree _ rfl) (fun fin s' h=>?_) fun _ _ x=>x)⟩
 obtain⟨v,rfl,q⟩:=h
 exact q
theorem Rs (v:Value):BcOk "list" "list.append" [v]:=by
 refine⟨?_,by decide+kernel,by decide+kernel,by rw[e6];kernel_rfl,by rw[e6];kernel_rfl⟩
 cases h:Manifest.signature? "list.append" with
 |none=>exact absurd h (by decide+kernel)
 |some sg=>
  refine⟨sg,rfl,fun a=>?_⟩
  have:sg=((Manifest.signature? "list.append").getD sg):=by rw[h];rfl
  rw[this]
  kernel_rfl
end
theorem UX:GaOk "list" "list.__getattribute__":=⟨F.slot_list_getattribute,F.entry_list_ga,F.args_list_getattribute_2⟩
theorem ZQ (as:Args):(Code.builtin "list.append" as).quiet=true:=Code.quiet_builtin _ (by decide+kernel)
def Bd (F:FM) (b:Addr) (id:String) (a:Addr):Prop:=F b=some (C0 id a)
theorem Bd.le {F F' b id a:_}(x:Bd F b id a) (h:Le F F'):Bd F' b id a:=h _ _ x
theorem Run.UU (hl:Ad l (Ab vs) V) (h:∀b,Q (.ref b) F ((b,(·=C0 "list.append" l))::V)):Run c A (getAttr (.ref l) (Str.ofString "append") true) F V Q:=.mk fun s S=>by
 obtain⟨o,ho,n,hd⟩:=S.own.get hl
 subst hd
 exact Mz UX PySem.F.slot_list_append PySem.F.type_list_append Yd ho rfl rfl (fun c=>nofun) (by decide+kernel) (Ae F _ (S.push (P:=(·=C0 "list.append" l)) (k:=s.toks+1) rfl) (h _))
theorem dD {vs:Array Value}{P:PySem.Fin→Shared→Prop}(hl:IsL s.heap l vs n) (hs:vs.size≤100000)
  (h:P (.done (.ret .none)) {s with heap:=s.heap.update l (Obj.mapSeq (·.push v))}):wpAny (model prog w) A (Builtin.«list.append» ⟨[.ref l,v],[]⟩) P E s:=by
 refine(?_:wpAny _ _ (updateSeq l (·.push v)>>=fun _=>ret .none) _ _ s)
 refine d8 (wpAny_updateSeq hl rfl ?_ (by rw[eT];exact eb ‹_› (d7 rfl)) (by rw[Array.size_push,eT];exact ef ‹_› (d7 rfl)))
 exact d9 h
theorem Run.Gu {b:Addr}(hb:Bd F b "list.append" l) (hl:Aj l (Ab vs) (Ab (vs++[v])) V V') (hs:vs.length≤100000) (h:Q .none F V'):Run c A (PySem.call (.ref b) [v]) F V Q:=.mk fun s S=>by
 refine Exists.elim (BW hl.has S) fun n e=>?_
 refine IH (Rs v) (S.own.fro _ _ hb) e.isList.typeIs (fun o ho c=>?_) (PySem.F.entry_list_append) ZQ (fun A' _=>dD e (by refine(eY)▸?_;assumption) ⟨.none,rfl,F,V',S.Fr hl _ (List.push_toArray ..),h⟩)
 have:s.heap.get? l=_:=e
 replace ho:=(this)▸ho
 obtain rfl:=ed ho
 exact nofun
theorem RI {M:Model}{u:Addr}{id:String}{args:List (Bool×Sem Value)}{Q:Value→Shared→Prop}(hplain:args.any (·.1)=false)
  (h:wpAny M A (evalArgs (.ref u) true args []) (fun x s₁=>s₁.heap.get? u=some (C0 id l)∧wpAny M A (PySem.call (.ref u) (first++x.pos) x.kw) Q E s₁) E s):wpAny M A (callWith pos (.ref u) first args []) Q E s:=by
 dsimp only[callWith]
 refine d8 (en (ej h (fun x s₁ h₁=>d8 (wpAny_standAt ?_)) fun _ _ x=>x))
 refine And.elim (fun ho hcall=>?_) (h₁)
 rw[hplain,List.any_nil,Bool.or_false]
 refine d8 (m:=keeperOf (.ref u)) ?_
 refine d8 (wpAny_load ho ?_)
 refine d9 ?_
 exact d8 (ej hcall (fun r s₂ hr=>d8 (en (wpAny_point (d9 hr)))) fun _ _ x=>x)
theorem Run.IL {b:Addr}{id:String}{rest:List Expr}(hb:Bd F b id l) (h:Run c A (spliced (backTo pos (starEach (e::rest) env))) F V (fun vs F1 V1=>Le F F1∧Run c A (PySem.call (.ref b) (first++vs)) F1 V1 Q))
  (he:starEach (e::rest) env=(false,eval e env)::starEach rest env) (hplain:(backTo pos (starEach rest env)).any (·.1)=false):Run c A (callWith pos (.ref b) first (backTo pos (starEach (e::rest) env)) []) F V Q:=fun s S=>by
 have q:=h s S
 simp only[he] at q⊢
 refine RI (id:=id) (l:=l) (by refine(?_:(false||(backTo pos (starEach rest env)).any (·.1))=false);exact hplain) (evalArgs_plain ?_)
 exact ej q (fun vs s1 qz=>Bk qz fun F1 V1 S1 le q1=>⟨S1.own.fro _ _ (hb.le le),q1 s1 S1⟩) fun _ _ e=>e
section
variable {s:Sp}
theorem Run.attr {nm:Str}(h:Run c A (eval (.Name id_ q) env) F V (fun v F' V'=>Run c A (getAttr v nm true) F' V' Q)):Run c A (eval (.Attribute (.Name id_ q) nm pos) env) F V Q:=.ki fun s P S kp=>Attribute_name (h.fu S fun v s1 F1 V1 S1 q=>q.fu S1 kp)
theorem Rx.KV (ok:Ok x n gs) (h:Ad id_ (.val (.ref l)) m) (hl:Ad l (Ab vs) V) (k:∀F' b,Le F F'→Bd F' b "list.append" l→Q (.ref b) F' V):Rx x F m V (.Attribute (.Name id_ q) (Str.ofString "append") pos) Q:=.ki fun K Vf Q' ft kk=>
 .up (Run.attr (Run.C1 ok h ft (Run.UU (.tail hl.app) fun b=>up.AY fun F2 o le ho hp=>up.one (kk _ F2 _ V le Sb.refl (k F2 b le (ho.trans (congrArg some hp)))))))
inductive ApB (l:Addr) (Q:Value→FM→Aa→Prop) (v:Value) (F:FM) (W:Aa):Prop
 |mk {vs W':_}:Aj l (Ab vs) (Ab (vs++[v])) W W'→vs.length≤100000→Q .none F W'→ApB l Q v F W
theorem Rx.Gu {b:Addr}(ok:Ok x n gs) (hb:Bd F b "list.append" l) (h0:Ad id_ (.val (.ref b)) m) (h:Rx x F m V e (ApB l Q)) (hn:autoParam (notStar e=true) aR):
  Rx x F m V (.Call (.Name id_ q) [e] [] pos) Q:=.ki fun K Vf Q' ft kk=>
 .CA (Run.C1 ok h0 ft (Run.IL hb (Run.AL (h.fu Sb.refl fun v F2 V2 W le f2 q=>Run.A0 (q.casesOn fun{vs W'} hp hs hq=>⟨le,Run.fit f2.fit (Run.Gu (hb.le le) (Aj.tail hp.app) hs (kk _ F2 _ W' le Sb.refl hq))⟩)) (AD hn)) (AD hn) rfl))
inductive JnK (Q:Value→FM→Aa→Prop) (v:Value) (F:FM) (W:Aa):Prop
 |mk {l vs ls:_}:v= .ref l→Ad l (Ab vs) W→Af Ah vs ls→ls.flatten.length≤100000→(∀t,Q (.str (tx ls.flatten) t) F W)→JnK Q v F W
theorem Rx.GQ (ho:Ev x F m V eo (.str (Str.ofString ""))) (h:Rx x F m V e (JnK Q)) (hn:autoParam (notStar e=true) aR) (hbase:autoParam (attributeBase eo (Str.ofString "join") x.env (eval eo x.env)=eval eo x.env) aU)
  (hfew:autoParam (((backTo pos (starEach [e] x.env)).all (fun x=> !x.1) && (backToKw pos (keywordEach [] x.env)).all (fun x=>x.1.isSome) && decide ([e].length+([]:List Keyword).length+(if ([]:List Keyword).isEmpty then 0 else 1)<30))=true) aU)
  (hline:autoParam ((apos.endLine==pos.line)=true) aU):Rx x F m V (.Call (.Attribute eo (Str.ofString "join") apos) [e] [] pos) Q:=
 .join ho h (fun v F' W _ q=>q.casesOn fun{l vs ls} a b c d f=>GM l vs ls a b c d (fun u o=>Sp.BJ (s:=.str (tx ls.flatten)) (P:=fun v=>Q v F' W) o f)) hn hbase hfew hline
end
noncomputable def leB (x y:Str):Bool:= !(decide (y.cps.toList<x.cps.toList))
noncomputable def C5 (ps:List Pair) (ch:Str):Bool:=ps.any fun p=>leB p.1 ch && leB ch p.2
noncomputable def Co (name:List Nat):List Item→Nat→Bool
 |[],_=>true
 |(b,ps)::r,j=>match name[j]? with|none=>false|some c=>if C5 ps (ch c)==b then false else Co name r (j+1)
noncomputable def Em (items:List Item) (name:Str) (at_:Int):Bool:=if at_<0∨at_+items.length>name.length then false else Co (cl name) items at_.toNat
theorem Nb (ps:List Pair) (p:Pair) (ch:Str):C5 (ps++[p]) ch=(C5 ps ch||(leB p.1 ch && leB ch p.2)):=by simp[C5]
theorem take_snoc {α:Type}{l:List α}{p:α}(h:l[i]? =some p):l.take (i+1)=l.take i++[p]:=by
 simp only[List.take_add_one,h];rfl
theorem EV {α:Type}{l:List α}{p:α}(h:l[i]? =some p):l.drop i=p::l.drop (i+1):=by
 refine Exists.elim (List.getElem?_eq_some_iff.mp h) fun q e=>?_
 refine(e)▸?_;exact List.drop_eq_getElem_cons q
theorem D.of {x:Str}{c:Nat}(h:(cl x)[k]? =some c):D x k (c::(cl x).drop (k+1)):=⟨EV h,by
 obtain⟨q, -⟩:=List.getElem?_eq_some_iff.mp h
 rw[Gw] at q;exact ec ‹_›⟩
theorem Ga (n:Nat):Builtin.Range.rangeSize 0 n 1=n:=by
 rw[rangeSize_one]
 split<;>lia
theorem F9 (h:n<1000):Builtin.Range.small 0 n 1=true:=small_one (by decide) (by decide) (by lia) (by lia)
theorem Ud {name:List Nat}{b:Bool}{ps:List Pair}{r:List Item}{j c:Nat}(h:name[j]? =some c):Co name ((b,ps)::r) j=if C5 ps (ch c)==b then false else Co name r (j+1):=by
 simp only[Co,h]
theorem Rx.Ey {i:Int}(ok:Ok x n gs) (hx:Str.ofString "range" ∈ gs) (h:Ev x F m V e (.int i)) (k:∀F' r,Le F F'→Rg F' r 0 i 1→Q (.ref r) F' V) (hn:autoParam (notStar e=true) aR):
  Rx x F m V (.Call (.Name (Str.ofString "range") p) [e] [] pos) Q:=
 .Id ok hx Jm (.cons h .nil hn) fun t K=>.up (Run.Ey fun r=>up.AY fun F1 o le ho hp=>up.one ⟨le,V,Sb.refl,k F1 r le (Ak o ho hp)⟩)
noncomputable abbrev UJ (l:Addr) (sb sp si:Sp):Sm:=[("items",.val (.ref l)),("barred",sb),("pairs",sp),("inside",si)]
noncomputable abbrev Me (c1 c2 c3:Addr) (name:Str) (a:Nat) (sk:Sp) (V:Aa):Aa:=(c1,Ar (.str name))::(c2,Ar (.int a))::(c3,Ar sk)::V
inductive FtI (c1 c2 c3 l:Addr) (name:Str) (a:Nat) (items:List Item) (V:Aa) (j:Nat) (F:FM):Sm→Aa→Prop
 |mk {sb sp si sk:_}:Co (cl name) (items.drop j) (a+j)=Co (cl name) items a→FtI c1 c2 c3 l name a items V j F (UJ l sb sp si) (Me c1 c2 c3 name a sk V)
inductive FtJ (ps:List Pair) (c:Nat) (F:FM) (W:Aa) (i:Nat) (us:List Value):FM→Sm→Aa→Prop
 |mk {sl sh:_}:us.length≤i→us.isEmpty= !(C5 (ps.take i) (ch c))→FtJ ps c F W i us F [("low",sl),("high",sh)] W
theorem UH {ps:List Pair}{c:Nat}{p:Pair}{sl:Sp}(hp:ps[i]? =some p) (hq:(leB p.1 (ch c) && leB (ch c) p.2)=true) (hl:us.length≤i):FtJ ps c F W (i+1) (us++[v]) F [("low",sl),("high",sh)] W:=
 .mk (by rw[eO];exact eL hl) (by simp only[take_snoc hp,Nb,hq,Bool.or_true];cases us<;>rfl)
theorem UI {ps:List Pair}{c:Nat}{p:Pair}{sl:Sp}(hp:ps[i]? =some p) (hq:(leB p.1 (ch c) && leB (ch c) p.2)=false) (hl:us.length≤i) (he:us.isEmpty= !(C5 (ps.take i) (ch c))):FtJ ps c F W (i+1) us F [("low",sl),("high",sh)] W:=
 .mk (Nat.le_succ_of_le hl) (by simp only[take_snoc hp,Nb,hq,Bool.or_false];exact he)
theorem UG {name:List Nat}{a j:Nat}{b:Bool}{ps:List Pair}{c:Nat}{r:Bool}(hp:items[j]? =some (b,ps)) (hc:name[a+j]? =some c) (hg:Co name (items.drop j) (a+j)=r):(if C5 ps (ch c)==b then false else Co name (items.drop (j+1)) (a+(j+1)))=r:=by
 rw[EV hp,Ud hc] at hg;exact hg
theorem WJ (ha:Af (CT F) vs items) {j:Nat}(hj:j<items.length) (hps:∀p ∈ items,p.2.length<1000):∃b ps va pl pvs,items[j]? =some (b,ps)∧vs[j]? =some (.ref va)∧Tu F va [.bool b,.ref pl]∧Ls F pl pvs∧Af (Pr F) pvs ps∧ps.length<1000:=by
 obtain⟨⟨b,ps⟩,hp⟩:∃p,items[j]? =some p:=⟨_,eN hj⟩
 obtain⟨_,hv,va,vw,rfl,vt,pl,pvs,rfl,hpl,hpa⟩:=ha.get hp
 exact Jt b ps va pl pvs hp hv vt hpl hpa (hps _ (List.mem_of_getElem? hp))
theorem ZC {ps:List Pair}(ha:Af (Pr F) pvs ps) (hv:pvs[i]? =some v):∃plo phi pa pt pu,ps[i]? =some (plo,phi)∧v= .ref pa∧Tu F pa [.str plo pt,.str phi pu]:=by
 have hi:i<ps.length:=ha.len▸(List.getElem?_eq_some_iff.mp hv).1
 obtain⟨⟨plo,phi⟩,hpi⟩:∃p,ps[i]? =some p:=⟨_,eN hi⟩
 obtain⟨_,hpv,pa,pt,pu,rfl,ptu⟩:=ha.get hpi
 replace hv:=(hpv)▸hv
 cases hv
 exact Wo plo phi pa pt pu hpi rfl ptu
theorem L5 (rm:Rm (n+1) A) (hl:Ls F l vs) (ha:Af (CT F) vs items) (hsz:items.length<1000) (hps:∀p ∈ items,p.2.length<1000) (hx:name.length<10000)
  (hat:at_<100000) (h:∀F',Le F F'→Q (.bool (Em items name at_)) F' V):
  RV (cx w os) A (.call (.ref 362) ⟨[.ref l,.str name t,.int at_ u],[]⟩) F V Q:=by
 have hlen:=ha.len
 refine RV.Uw (k1:="name") (k2:="at") (k3:="k") (s1:=.str name) (s2:=.int at_) (s3:=.any) ["items","barred","pairs","inside"] ["len","range"] [("items",.val (.ref l)),("barred",.any),("pairs",.any),("inside",.any)] [some (.str name t),some (.int at_ u),none]
  rm (Jc w os) (binds:=[("items",.ref l),("name",.str name t),("at",.int at_ u)]) rfl (by kernel_rfl) (by kernel_rfl) (by rfl) (HJ rfl trivial trivial trivial trivial) (by rfl) (C4 ⟨_,rfl⟩ ⟨_,rfl⟩ trivial trivial) ?_
 intro x c1 c2 c3 ok l1 l2 l3
 refine(?_:R _ (_::_) _ _ _ _)
 refine R.BE (.or (.cmp (.ce ok l2 Ai) .int .ltI) fun a=>.cmp (.bin (.ce ok l2 Ai) (.DW ok AK (.nm ok has0) hl (by lia)) .Aw) (.Bv ok AK (.ce ok l1 has0) (ec (ea ‹_› (d7 rfl)))) .BV rfl) (fun hb=>R.D6 (v:=.bool false) .bool ?_) (fun hb=>?_)
 ·refine En.sb (W:=V) (Part.sb (.skip (.skip (.skip .refl)))) (En.one ?_)
  refine(show false=Em items name at_ from(if_pos (by simpa [hlen] using hb)).symm)▸?_
  exact h F (Le.refl _)
 refine R.nil ?_;refine R.next ?_
 obtain⟨h1,h2⟩:0≤at_∧at_+items.length≤name.length:=by
  simp[hlen] at hb;assumption
 obtain⟨a,rfl⟩:=Int.eq_ofNat_of_zero_le h1
 have h2:a+items.length≤name.length:=Int.ofNat_le.mp ‹_›
 replace h:=(show Em items name (a:Int)=Co (cl name) items a from if_neg (by lia))▸h
 clear hb hat h1
 refine R.DP ok items.length (fun i v=>(Sp.int (0+i*1)).ok (some v)) (FtI c1 c2 c3 l name a items V) (Rx.Ey ok Bx (.DW ok AK (.nm ok has0) hl (by lia)) fun F' r le hr=>⟨AS.rg (hlen▸hr) (F9 hsz) (Ga _),.mk rfl⟩) ?_ ?_
 ·intro j F' m' W v hj hI
  induction hI with|mk hg=>
  rename_i sb sp si sk
  rintro⟨t,e⟩ le
  refine .mk (Au.Hm (s:=.int j) ok l3 ⟨t,by rw[e,Int.mul_one,Int.zero_add]⟩ put2) ?_
  refine Lv (WJ ha hj hps) fun b ps va pl pvs hp hv vt hpl hpa hpsz=>?_
  refine BZ (⟨_,eN (by rw[Gw];lia)⟩:∃c,(cl name)[a+j]? =some c) fun c hc=>?_
  have hg:=UG hp hc hg
  have hD:=D.of hc
  refine R.ER ok (Rx.Bm (s:=.val (.ref va)) (Ev.GP (.nm ok has0) (.ce ok l3 Al) (hl.le le) hv rfl (by lia) rfl) (.mk rfl (vt.le le) (.fC ok BQ) (.fC ok put2) ?_))
  refine R.Bi ok (Rx.Ff ok (Rx.lc ["low","high"] ["at","k","name"] [] [c2,c3,c1] ok (C4 l2 l3 l1 trivial) (by kernel_rfl) pvs.length (fun i v=>pvs[i]? =some v) (FtJ ps c F' (Me c1 c2 c3 name a (.int j) V)) (Rx.Bm (s:=.val (.ref pl)) (.nm ok Al) ⟨.fx (hpl.le le),.mk (eh _) rfl⟩) ?_ ?_ (.inr ⟨_,_,_,rfl⟩)))
  ·rintro y oky cy - - - i us F3 m3 W3 v hi hI hv le3
   revert le3
   induction hI with|mk hul he=>
   rename_i sl sh
   intro le3
   refine Cm (K5 cy) fun _ _ _ e n2 n3 n1=>?_
   cases e
   refine SS (ZC hpa hv) fun plo phi pa pt pu hpi e ptu=>?_
   refine .mk (CU.to (CU.two oky (ptu.le le) (.fy oky CG) (.fy oky BQ)) e) ?_
   exact Tx.tb (Tb.Sr (.nm oky has0) (Ev.Bn (.ce oky n1 has0) (.bin (.ce oky n2 Ai) (.ce oky n3 Al) .Aw) hD rfl hx) (.nm oky Ai) Ac.HP Ac.HP) ⟨fun hq=>.Bm (s:=.str plo) (.nm oky has0) fun t=>⟨eb hul (ec (ez hi (hpa.len▸ez hpsz (by decide)))),UH hpi hq hul⟩,fun hq=>UI hpi hq hul he⟩
  ·intro us F3 m3 W3 D hI le3
   induction hI with|mk hul he=>
   refine .mk rfl rfl (.mk (s:=.val (.bool (C5 ps (ch c)))) ?_ put3 ?_)
   ·rw[he,hpa.len,List.take_length,Bool.not_not];rfl
   refine R.BE (.cmp (.nm ok Ay) (.nm ok Ai) .eqB) (fun hb=>R.D6 (v:=.bool false) .bool ?_) (fun hb=>?_)
   ·rw[if_pos hb] at hg
    exact En.sb (W:=V) (Part.sb (.skip (.skip (.skip .refl)))) (En.one (hg.symm▸h F' le))
   ·rw[if_neg (by rw[hb];decide)] at hg
    refine R.nil ?_;refine R.next ?_;refine R.nil ?_
    exact .mk hg
 ·intro F' m' W hI
  induction hI with|mk hg=>
  intro le
  rw[List.drop_length] at hg
  exact R.D6 (v:=.bool true) .bool (En.sb (W:=V) (Part.sb (.skip (.skip (.skip .refl)))) (En.one ((show true=Co (cl name) items a from hg)▸h F' le)))
noncomputable def CI (items:List Item) (name:Str):Bool:=decide (items.length≤name.length) && Em items name ((name.length:Int) - items.length)
inductive RwsI (F:FM) (rv:Value) (items:List Item):Prop
 |mk {l a0 t0 m0 a1 t1 m1 us:_}:rv= .ref l→Ls F l [.ref a0,.ref a1]→Tu F a0 [.str (Str.ofString "") t0,.ref m0]→Ls F m0 []→Tu F a1 [.str (Str.ofString "tail") t1,.ref m1]→Ls F m1 us→Af (CT F) us items→RwsI F rv items
theorem Z7 (hi:Cw Rw F rv [(Str.ofString "",[]),(Str.ofString "tail",items)]):RwsI F rv items:=by
 obtain⟨l,vs,rfl,hl,ha⟩:=hi
 cases ha with|cons h0 ha=>
 cases ha with|cons h1 ha=>
 cases ha
 obtain⟨a0,t0,w0,rfl,u0,m0,us0,rfl,l0,i0⟩:=h0
 obtain⟨a1,t1,w1,rfl,u1,m1,us1,rfl,l1,i1⟩:=h1
 cases i0
 exact .mk rfl hl u0 l0 u1 l1 i1
inductive TkJ (l:Addr) (name:Str) (V:Aa) (i:Nat) (F:FM):Sm→Aa→Prop
 |mk {sa sb:_}:i<2→TkJ l name V i F [("rows",.val (.ref l)),("name",.str name),("at",.int 0),("kind",sa),("items",sb)] V
theorem dj {a0 m0 a1 m1:Addr}{t0 t1:Tok}(rm:Rm (n+2) A) (hl:Ls F l [.ref a0,.ref a1]) (u0:Tu F a0 [.str (Str.ofString "") t0,.ref m0]) (l0:Ls F m0 []) (u1:Tu F a1 [.str (Str.ofString "tail") t1,.ref m1]) (l1:Ls F m1 us) (ha:Af (CT F) us items)
  (hsz:items.length<1000) (hps:∀p ∈ items,p.2.length<1000) (hx:name.length<10000) (h:∀F',Le F F'→Q (.bool (CI items name)) F' V):RV (cx w os) A (.call (.ref 369) ⟨[.ref l,.str name t],[]⟩) F V Q:=by
 have hul:us.length=items.length:=ha.len
 refine RV.fn ["rows","name","at","kind","items"] ["len","_law_fits"] [("rows",.val (.ref l)),("name",.str name),("at",.any),("kind",.any),("items",.any)]
  rm (Mv w os) (binds:=[("rows",.ref l),("name",.str name t)]) rfl (by kernel_rfl) (by kernel_rfl) (by rfl) (E7 rfl ⟨_,rfl⟩ trivial trivial trivial trivial) ?_
 rintro x ok - -
 refine(?_:R _ (_::_) _ _ _ _)
 refine R.AC ok .int put2 ?_
 refine R.UB ok 2 (fun i v=>([.ref a0,.ref a1]:List Value)[i]? =some v) (TkJ l name V) (Rx.Bm (s:=.val (.ref l)) (.nm ok has0) ⟨.fx hl,.mk (by decide)⟩) ?_ ?_
 ·intro i F' m' W v hi hI
  induction hI with|mk _=>
  intro hv le
  cases i with
  |zero=>
   refine .mk (ed hv).symm (u0.le le) (.fy ok put3) (.fC ok BF) ?_
   refine R.A3 (Tb.cmp (.nm ok Ay) .str Ac.AO) (by decide) ?_
   refine R.nil ?_;refine R.next ?_
   refine R.A3 (Tb.cmp (.nm ok Ay) .str Ac.AO) (by decide) ?_
   refine R.nil ?_;refine R.next ?_
   refine R.E6 (Tx.not (Tx.Py (Rx.BI ok Bx MB (Jc _ _) (.cons (s:=.val (.ref m0)) (.nm ok Az) (.cons (s:=.str name) (.nm ok Ai) (.cons (s:=.int 0) (.nm ok Al) .nil))) fun t u=>L5 (items:=[]) ok.rm (l0.le le) .nil (by decide) (fun _ h=>nomatch h) hx (by decide) fun F2 le2=>AE (Em [] name 0) rfl (fun hb=>?_) (fun _=>?_))))
   ·replace hb:=(show Em [] name 0=true from if_neg (by trivial))▸hb
    cases hb
   ·have hm2:=(l0.le le).le le2
    refine R.nil (.next (.aug ok Al (.DW ok AK (.nm ok Az) hm2 (d7 rfl)) put2 (.nil ?_)))
    exact TkJ.mk (i:=0+1) (ey 1)
  |succ i=>
   cases i with
   |succ i=>lia
   |zero=>
   refine .mk (ed hv).symm (u1.le le) (.fy ok put3) (.fC ok BF) ?_
   have l1':=l1.le le
   refine R.B2 (Tb.cmp (.nm ok Ay) .str Ac.AO) (by decide) ?_
   refine R.DE (Rx.PJ (.cmp (.bin (.Bv ok AK (.nm ok Ai) (ec (ea ‹_› (d7 rfl)))) (.DW ok AK (.nm ok Az) l1' (by lia)) .Bh) (.nm ok Al) .DQ) (fun hb=>?_) (fun hb=>?_))
   ·have e:false=CI items name:=by unfold CI;rw[eV (by have:=of_decide_eq_false hb;lia)];rfl
    exact En.one (e▸h F' le)
   ·have e:Em items name ((name.length:Int) - us.length)=CI items name:=by unfold CI;rw[eU (by have:=ee hb;lia),hul];rfl
    exact Rx.BI ok Bx MB (Jc _ _) (.cons (s:=.val (.ref m1)) (.nm ok Az) (.cons (s:=.str name) (.nm ok Ai) (.cons (s:=.int ((name.length:Int) - us.length)) (.bin (.Bv ok AK (.nm ok Ai) (ec (ea ‹_› (d7 rfl)))) (.DW ok AK (.nm ok Az) l1' (by lia)) .Bh) .nil))) fun t u=>L5 (items:=items) ok.rm (l1.le le) (ha.mono fun _ _ q=>q.le le) hsz hps hx (by lia) fun F2 le2=>En.one (e.symm▸h F2 (Le.trans le le2))
 ·intro F' m' W hI
  induction hI with|mk hj=>exact absurd hj (by decide)
theorem di (rm:Rm (n+2) A) (hi:Cw Rw F rv [(Str.ofString "",[]),(Str.ofString "tail",items)]) (hsz:items.length<1000) (hps:∀p ∈ items,p.2.length<1000)
  (hx:name.length<10000) (h:∀F',Le F F'→Q (.bool (CI items name)) F' V):RV (cx w os) A (.call (.ref 369) ⟨[rv,.str name t],[]⟩) F V Q:=
 (Z7 hi).casesOn fun e hl u0 l0 u1 l1 ha=>e▸dj rm hl u0 l0 u1 l1 ha hsz hps hx h
theorem Zj {c:Nat}(h:c≠92):DB (c::r)=some (c,r):=by
 unfold DB
 split
 ·rename_i q;cases q
 ·rename_i q;cases q;exact absurd rfl h
 ·rename_i q;cases q;rfl
theorem Cz (c:Nat) (h:y=ch d):(ch c==y)=(c==d):=by rw[h,B8]
theorem ad:Str.ofString "^"=ch 94:=by decide+kernel
theorem OJ:Str.ofString "]"=ch 93:=by decide+kernel
theorem Z9:Str.ofString "-"=ch 45:=by decide+kernel
inductive PP (x:Str) (acc ps:List (Nat×Nat)) (r':List Nat) (f k:Nat):Prop
 |more {g c r lo d r4:_}:g<f→acc.length+1+g=20→D x k (c::r)→(acc.isEmpty|| !(c==93))=true→DB (c::r)=some (lo,d::r4)→((d==45)=true→∃hi r5,DB r4=some (hi,r5)∧pPairs g (acc++[(lo,hi)]) r5=some (ps,r'))→((d==45)=false→pPairs g (acc++[(lo,lo)]) (d::r4)=some (ps,r'))→PP x acc ps r' f k
 |fin {c:_}:D x k (c::r')→(acc.isEmpty|| !(c==93))=false→acc=ps→PP x acc ps r' f k
theorem ZB {x:Str}{acc ps:List (Nat×Nat)}{f:Nat}(hp:pPairs f acc r=some (ps,r')) (hf:acc.length+f=20) (hd:D x k r):PP x acc ps r' f k:=by
 cases f with
 |zero=>cases hp
 |succ f=>
 cases r with
 |nil=>dsimp only[pPairs] at hp;cases hp
 |cons c r=>
 unfold pPairs at hp
 dsimp only at hp
 split at hp
 ·rename_i q
  cases hp
  refine .fin hd ?_ rfl
  simp only[Bool.and_eq_true] at q
  rw[q.2]
  simpa using q.1
 ·rename_i q
  have q':(acc.isEmpty|| !(c==93))=true:=by
   cases h1:acc.isEmpty<;>cases h2:(c==93)<;>simp[h1,h2] at q⊢
  split at hp
  ·cases hp
  rename_i lo r1 h1
  split at hp
  ·cases hp
  rename_i d r2
  split at hp
  ·rename_i hq
   split at hp
   ·cases hp
   rename_i hi r3 h3
   exact .more (ey f) (Gm ‹_›) hd q' h1 (fun _=>Ae hi r3 h3 hp) fun e=>nomatch hq.symm.trans e
  ·rename_i hq
   exact .more (ey f) (Gm ‹_›) hd q' h1 (fun e=>absurd e hq) fun _=>hp
theorem Zk {b:Bool}{ps:List (Nat×Nat)}(hp:FV r=some ((b,ps),r')):∃c r0,r=c::r0∧b=(c==94)∧pPairs 20 [] (if (c==94)=true then r0 else c::r0)=some (ps,r'):=by
 cases r with
 |nil=>cases hp
 |cons c r=>
 unfold FV at hp
 dsimp only at hp
 split at hp
 ·cases hp
 rename_i q
 cases hp
 exact Bg c r rfl rfl q
inductive SetI (x:Str) (b:Bool) (pl:Addr) (ps:List (Nat×Nat)) (r':List Nat) (V:Aa) (f:Nat) (F:FM):Sm→Aa→Prop
 |mk {k3 r3 acc vs slo shi:_}:pPairs f acc r3=some (ps,r')→acc.length+f=20→D x k3 r3→Af (Pr F) vs (acc.map FX)→SetI x b pl ps r' V f F [("text",.str x),("k",.int (k3:Nat)),("barred",.val (.bool b)),("pairs",.val (.ref pl)),("low",slo),("high",shi)] ((pl,Ab vs)::V)
theorem JS {x:Str}{c:Nat}{r1:List Nat}(rm:Rm (n+1) A) (hd:D x k r) (hp:DB r=some (c,r1)) (hx:x.length<10000)
  (h:∀F' a k1 t' u',Le F F'→Tu F' a [.str (ch c) t',.int (k1:Nat) u']→D x k1 r1→Q (.ref a) F' V):RV (cx w os) A (.call (.ref 343) ⟨[.str x t,.int k u],[]⟩) F V Q:=by
 cases r with
 |nil=>cases hp
 |cons d r=>
 refine RV.fn ["text","k"] [] [("text",.str x),("k",.int k)] rm (HD w os) (binds:=[("text",.str x t),("k",.int k u)]) rfl (by kernel_rfl) rfl rfl (BO ⟨_,rfl⟩ ⟨_,rfl⟩ trivial) ?_
 rintro y ok - -
 refine(?_:R _ (_::_) _ _ _ _)
 have e92:(ch d==Str.ofString "\\")=(d==92):=by rw[show Str.ofString "\\"=ch 92 from by decide+kernel,B8]
 refine R.BE (Tb.cmp (Ev.Bn (.nm ok has0) (.nm ok Ai) hd (by rfl) hx) .str Ac.AO) (fun hb=>?_) (fun hb=>?_)
 ·rw[e92] at hb
  obtain rfl:=eq_of_beq hb
  cases r with
  |nil=>cases hp
  |cons d r=>
  have hp:some (d,r)=some (c,r1):=hp
  cases hp
  exact R.DE (Rx.BR (.cons (s:=.str (ch c)) (Ev.Bn (.nm ok has0) (.bin (.nm ok Ai) .int .Aw) hd.next (by rfl) hx) (.cons (s:=.int ((k:Int)+2)) (.bin (.nm ok Ai) .int .Aw) .nil)) fun t' u' F' a le tu=>En.one (h F' a (k+2) t' u' le tu hd.next.next))
 ·rw[e92] at hb
  have hne:d≠92:=by simpa using hb
  replace hp:=(Zj hne)▸hp
  cases hp
  refine R.nil ?_;refine R.next ?_
  exact R.DE (Rx.BR (.cons (s:=.str (ch c)) (Ev.Bn (.nm ok has0) (.nm ok Ai) hd (by rfl) hx) (.cons (s:=.int ((k:Int)+1)) (.bin (.nm ok Ai) .int .Aw) .nil)) fun t' u' F' a le tu=>En.one (h F' a (k+1) t' u' le tu hd.next))
theorem aK {x:Str}{c:Nat}{ps:List (Nat×Nat)}(rm:Rm (n+2) A) (hd:D x k (c::r)) (hpp:pPairs 20 [] (if (c==94)=true then r else c::r)=some (ps,r')) (hx:x.length<10000)
  (h:∀F' a v k' u',Le F F'→Tu F' a [v,.int (k':Nat) u']→CT F' v (Bq (c==94,ps))→ps.length≤20→D x k' r'→Q (.ref a) F' V):RV (cx w os) A (.call (.ref 350) ⟨[.str x t,.int k u],[]⟩) F V Q:=by
 refine RV.fn ["text","k","barred","pairs","low","high"] ["_law_one"] [("text",.str x),("k",.int k),("barred",.any),("pairs",.any),("low",.any),("high",.any)]
  rm (Mr w os) (binds:=[("text",.str x t),("k",.int k u)]) rfl (by kernel_rfl) (by kernel_rfl) (by rfl) (HK ⟨_,rfl⟩ ⟨_,rfl⟩ trivial trivial trivial trivial trivial) ?_
 rintro y ok - -
 refine(?_:R _ (_::_) _ _ _ _)
 refine R.AC ok (Ev.to (s':=.val (.bool (c==94))) (Ev.cmp (Ev.Bn (.nm ok has0) (.nm ok Ai) hd (by rfl) hx) .str Ac.AO) (congrArg (fun b=>Sp.val (.bool b)) (Cz c ad))) put2 ?_
 refine R.GL (fun Z=>∀k1:Nat,D x k1 (if (c==94)=true then r else c::r)→Z F [("text",.str x),("k",.int k1),("barred",.val (.bool (c==94))),("pairs",.any),("low",.any),("high",.any)] V) (.val (.nm ok Al) .bool) (fun k1 hd2=>?_) (fun fin hb=>?_) (fun fin hb=>?_)
 ·refine R.Bi ok (Rx.DZ .nil fun pl=>As.fC put3 ?_)
  refine R.Cu (SetI x (c==94) pl ps r' V) ?_ 20 (.mk hpp rfl hd2 .nil)
  intro f F2 m2 V2 hI
  induction hI with|mk hpf hf hd3 hvs=>
  rename_i k3 r3 acc vs slo shi
  intro le2
  have hve:(vs.isEmpty:Bool)=acc.isEmpty:=hvs.emp.trans (by cases acc<;>rfl)
  cases ZB hpf hf hd3 with
  |more hgf hl hd3 hb h1 ha hbb=>
   rename_i g c3 r3' lo d r4
   refine .t (Tb.or (Tb.E2 ok (.nm ok Ay) has0) (fun _=>Tb.cmp (Ev.Bn (.nm ok has0) (.nm ok Ai) hd3 (by rfl) hx) .str Ac.Dx)) (by simp only[hve,bne,Cz c3 OJ];exact hb) ?_
   refine R.ER ok (Rx.BI ok AK Jk (HD _ _) (.cons (s:=.str x) (.nm ok has0) (.cons (s:=.int (k3:Nat)) (.nm ok Ai) .nil)) fun t u=>JS ok.rm hd3 h1 hx fun F4 a4 k4 t4 u4 le4 tu4 hd4=>.mk rfl tu4 (.fy ok BF) (.fq ok BQ) ?_)
   refine R.AC ok (.nm ok Az) Br ?_
   refine R.GL (fun Z=>∀hi F5 r5 (k5:Nat),Le F4 F5→pPairs g (acc++[(lo,hi)]) r5=some (ps,r')→D x k5 r5→Z F5 [("text",.str x),("k",.int (k5:Nat)),("barred",.val (.bool (c==94))),("pairs",.val (.ref pl)),("low",.str (ch lo)),("high",.str (ch hi))] ((pl,Ab vs)::V))
    (Tb.conv (Tb.cmp (Ev.Bn (.nm ok has0) (.nm ok Ai) hd4 (by rfl) hx) .str Ac.AO) (Cz d Z9)) (fun hi F5 r5 k5 le5 hpf hd5=>?_) (fun fin hb=>?_) (fun fin hb=>?_)
   ·refine R.EP ok (.nm ok Ay) (Rx.BR (.cons (s:=.str (ch lo)) (.nm ok Az) (.cons (s:=.str (ch hi)) (.nm ok Ax) .nil)) fun t6 u6 F6 a6 le6 tu6=>.mk (vs:=vs) CG (by rw[hvs.len,eM];exact Gn ‹_› rfl) ?_) ⟨_,has0⟩
    refine R.nil ?_
    refine .mk g hgf (.mk hpf (by rw[eO];exact hl) hd5 ?_)
    rw[eQ]
    exact(hvs.mono fun _ _ q=>q.le (Le.trans le4 (Le.trans le5 le6))).snoc (CP _ _ _ rfl tu6)
   ·refine BH (ha hb) fun hi r5 h5 hpf=>?_
    refine R.ER ok (Rx.BI ok AK Jk (HD _ _) (.cons (s:=.str x) (.nm ok has0) (.cons (s:=.int (k4+1:Nat)) (Ev.to (s:=.int ((k4:Int)+1)) (.bin (.nm ok Ai) .int .Aw) rfl) .nil)) fun t u=>JS ok.rm hd4.next h5 hx fun F5 a5 k5 t5 u5 le5 tu5 hd5=>.mk rfl tu5 (.fy ok Br) (.fq ok BQ) ?_)
    exact R.nil (fin hi F5 r5 k5 le5 hpf hd5)
   ·exact R.nil (fin lo F4 _ k4 (Le.refl _) (hbb hb) hd4)
  |fin hd3 hb e=>
   rename_i c3
   refine .f (Tb.or (Tb.E2 ok (.nm ok Ay) has0) (fun _=>Tb.cmp (Ev.Bn (.nm ok has0) (.nm ok Ai) hd3 (by rfl) hx) .str Ac.Dx)) (by simp only[hve,bne,Cz c3 OJ];exact hb) ?_
   refine R.Ds fun F3 le3 hl3=>?_
   exact R.DE (Rx.dJ ok (s2:=.int ((k3:Int)+1)) (Rx.BR (.cons (s:=.val (.bool (c==94))) (.nm ok Al) (.cons (s:=.val (.ref pl)) (.nm ok Ay) .nil)) fun F4 b le4 tb=>⟨.bin (.nm ok Ai) .int .Aw,fun u5 F5 a5 le5 ta=>En.one (h F5 a5 (.ref b) (k3+1) u5 (Le.trans le2 (Le.trans le3 (Le.trans le4 le5))) ta ⟨b,_,rfl,tb.le le5,pl,vs,rfl,hl3.le (Le.trans le4 le5),e▸hvs.mono fun _ _ q=>q.le (Le.trans le3 (Le.trans le4 le5))⟩ (e▸Gn ‹_› rfl) hd3.next)⟩))
 ·have hd2:=hd.next
  rw[if_pos hb] at fin
  refine R.aug ok Ai .int BQ (.nil (.next ?_))
  exact fin (k+1) hd2
 ·rw[if_neg (by rw[hb];decide)] at fin
  exact R.nil (fin k hd)
theorem aJ {x:Str}{b:Bool}{ps:List (Nat×Nat)}(rm:Rm (n+2) A) (hd:D x k r) (hp:FV r=some ((b,ps),r')) (hx:x.length<10000)
  (h:∀F' a v k' u',Le F F'→Tu F' a [v,.int (k':Nat) u']→CT F' v (Bq (b,ps))→ps.length≤20→D x k' r'→Q (.ref a) F' V):RV (cx w os) A (.call (.ref 350) ⟨[.str x t,.int k u],[]⟩) F V Q:=by
 obtain⟨c,r0,rfl,rfl,hpp⟩:=Zk hp
 exact aK rm hd hpp hx h
theorem IK (x:Str) (c:Nat):Txt.contains x (ch c)=decide (c ∈ cl x):=StrLaws.found_one x c
theorem Z8:Str.ofString ")"=ch 41:=by decide+kernel
theorem aa:Str.ofString "."=ch 46:=by decide+kernel
theorem ab:Str.ofString "["=ch 91:=by decide+kernel
theorem OO:Str.ofString "(?>.*?"=tx [40,63,62,46,42,63]:=by decide+kernel
theorem ON:Str.ofString ".*"=tx [46,42]:=by decide+kernel
theorem ag:Str.ofString "^$*+?{}|("=tx [94,36,42,43,63,123,125,124,40]:=by decide+kernel
theorem Hu {l l':List Nat}{b:Bool}(h:y=tx l') (e:(l==l')=b):(tx l==y)=b:=by rw[h,Kc];exact e
theorem Wz {l:List Nat}{c:Nat}{b:Bool}(h:y=tx l) (e:decide (c ∈ l)=b):Txt.contains y (ch c)=b:=by simp only[h,IK,DL];exact e
inductive RwS (x:Str) (its res:List (Bool×List (Nat×Nat))) (f k:Nat):Prop
 |more {g c r:_}:g<f→its.length+1+g=20→(k:Int)<x.length - 3→D x k (c::r)→((c::r).take 6==[40,63,62,46,42,63])=false→((c::r).take 2==[46,42])=false→(c==41)=false→(c==46)=false→
  ((c==91)=true→∃b ps r',FV r=some ((b,ps),r')∧B3 g (its++[(b,ps)]) r'=some res)→
  ((c==91)=false→∃d r',decide (c ∈ [94,36,42,43,63,123,125,124,40])=false∧DB (c::r)=some (d,r')∧B3 g (its++[(false,[(d,d)])]) r'=some res)→RwS x its res f k
 |fin:¬(k:Int)<x.length - 3→its=res→RwS x its res f k
theorem Z6 {x:Str}{its res:List (Bool×List (Nat×Nat))}{f:Nat}(hp:B3 f its r=some res) (hf:its.length+f=20) (hd:D x k r):RwS x its res f k:=by
 have hl:=hd.len
 cases f with
 |zero=>cases hp
 |succ f=>
 dsimp only[B3] at hp
 split at hp
 ·cases hp
  exact .fin (by lia) rfl
 rename_i h3
 cases r with
 |nil=>cases hp
 |cons c r=>
 dsimp only at hp
 split at hp
 ·cases hp
 rename_i hno
 have nn:∀{b:Bool},¬b=true→b=false:=fun h=>Bool.eq_false_iff.mpr h
 refine .more (ey f) (Gm ‹_›) (by lia) hd (nn fun q=>hno (.inl q)) (nn fun q=>hno (.inr (.inl q))) (nn fun q=>hno (.inr (.inr (.inl q)))) (nn fun q=>hno (.inr (.inr (.inr q)))) (fun hc=>?_) fun hc=>?_
 ·rw[if_pos hc] at hp
  split at hp
  ·cases hp
  ·rename_i it r' e
   exact CP it.1 it.2 r' e hp
 ·rw[if_neg (by refine(hc)▸?_;decide)] at hp
  split at hp
  ·cases hp
  rename_i hin
  split at hp
  ·cases hp
  ·rename_i d r' e
   exact Bg d r' (eV hin) e hp
noncomputable abbrev OI (x:Str) (rl:Addr) (k:Int) (si sg:Sp):Sm:=[("text",.str x),("rows",.val (.ref rl)),("k",.int k),("item",si),("sign",sg)]
inductive RwI (x:Str) (rl a0:Addr) (F2:FM) (res:List (Bool×List (Nat×Nat))) (V:Aa):Nat→FM→Sm→Aa→Prop
 |start {F si sg:_}:Le F2 F→RwI x rl a0 F2 res V 21 F (OI x rl 4 si sg) ((rl,Ab [.ref a0])::V)
 |run {f F k r its vs si sg a1 t1 l1:_}:B3 f its r=some res→its.length+f=20→D x k r→Af (CT F) vs (its.map Bq)→(∀p ∈ its,p.2.length≤20)→Tu F a1 [.str (Str.ofString "tail") t1,.ref l1]→Le F2 F→
   RwI x rl a0 F2 res V f F (OI x rl (k:Nat) si sg) ((l1,Ab vs)::(rl,Ab [.ref a0,.ref a1])::V)
theorem Kp {its:List (Bool×List (Nat×Nat))}{q:Bool×List (Nat×Nat)}(h:∀p ∈ its,p.2.length≤20) (hq:q.2.length≤20):∀p ∈ its++[q],p.2.length≤20:=fun p hp=>by
 rcases List.mem_append.mp hp with hp|hp
 ·exact h p hp
 ·cases List.mem_singleton.mp hp;exact hq
theorem Z2 {x:Str}{res:List (Bool×List (Nat×Nat))}(rm:Rm (n+3) A) (hd:D x 0 ([40,63,115,58,46,42]++r)) (hz:Txt.slice x (some (-3)) none=Str.ofString ")\\Z") (hr:3<r.length+2) (hp:B3 20 [] r=some res) (hx:x.length<10000)
  (h:∀F' a,Le F F'→Cw Rw F' (.ref a) [(Str.ofString "",[]),(Str.ofString "tail",res.map Bq)]→res.length≤20→(∀p ∈ res,p.2.length≤20)→Q (.ref a) F' V):RV (cx w os) A (.call (.ref 357) ⟨[.str x t],[]⟩) F V Q:=by
 have hl:r.length+6=x.length:=by
  have hl:=hd.len
  rw[eO] at hl
  exact(Nat.add_comm ..).trans ((Nat.zero_add _).symm.trans hl.symm)
 have hd4:D x 4 (46::42::r):=hd.skip 4 (by simp)
 have hd6:D x 6 r:=hd.skip 6 (by simp)
 refine RV.fn ["text","rows","k","item","sign"] ["len","_law_set","_law_one"] [("text",.str x),("rows",.any),("k",.any),("item",.any),("sign",.any)]
  rm (Mn w os) (binds:=[("text",.str x t)]) rfl (by kernel_rfl) (by kernel_rfl) (by rfl) ⟨⟨_,rfl⟩,trivial,trivial,trivial,trivial,trivial⟩ ?_
 rintro y ok - -
 refine(?_:R _ (_::_) _ _ _ _)
 refine R.A3 (Tb.or (Tb.cmp (Ev.sl (.nm ok has0) (hi:=some _) (i:=none) (j:=some 4) trivial (Ev.int) (ec ‹_›)) .str Ac.Dx) (fun _=>Tb.cmp (Ev.sl (.nm ok has0) (lo:=some _) (i:=some (-3)) (j:=none) (Ev.neg Ev.int) trivial (ec ‹_›)) .str Ac.Dx)) ?_ ?_
 ·rw[hd.a9 4 (j:=4) rfl,hz,show Str.ofString "(?s:"=tx [40,63,115,58] from by decide+kernel]
  simp[bne]
 refine R.nil ?_;refine R.next ?_
 refine R.Bi ok (Rx.JH (Rx.Kb (s1:=.str (Str.ofString "")) .str (Rx.DZ .nil fun l0 t0 F1 a0 le1 tu0 rl=>As.fC BQ ?_)))
 refine R.sb (W:=(l0,Ab [])::(rl,Ab [.ref a0])::V) (Part.sb (.cons (.tail .head) .refl)) (R.Ds fun F2 le2 hl0=>?_)
 have tu0:=tu0.le le2
 refine R.AC ok .int put2 ?_
 refine R.Cu (RwI x rl a0 F2 res V) ?_ 21 (.start (Le.refl _))
 intro f F3 m3 V3 hI
 induction hI with
 |start le23=>
  intro le3
  refine .t (Tb.cmp (.nm ok Al) (.bin (.Bv ok AK (.nm ok has0) (ec (ea ‹_› (d7 rfl)))) .int .Bh) Ac.ltI) (eU (by lia)) ?_
  refine R.A3 (Tb.cmp (Ev.D8 6 (.nm ok has0) (.nm ok Al) (.bin (.nm ok Al) .int .Aw) hd4 (by rfl) (by rfl) hx) .str Ac.AO) (Hu OO rfl) ?_
  refine R.B2 (Tb.cmp (Ev.D8 2 (.nm ok has0) (.nm ok Al) (.bin (.nm ok Al) .int .Aw) hd4 (by rfl) (by rfl) hx) .str Ac.AO) (Hu ON rfl) ?_
  refine R.EP ok (.nm ok Ai) (Rx.Kb (s1:=.str (Str.ofString "tail")) .str (Rx.DZ .nil fun l1 t1 F4 a1 le4 tu1=>.mk (vs:=[.ref a0]) BQ (d7 rfl) ?_)) ⟨_,has0⟩
  refine R.aug ok Al .int put2 (.nil (.next (.nil (.next (.nil ?_)))))
  exact .mk 20 (by decide) (.run hp rfl hd6 .nil (fun p hp=>(nomatch hp)) tu1 (Le.trans le23 le4))
 |run hpr hf hdk hvs hps tu1 le23=>
  rename_i k r' its vs si sg a1 t1 l1
  intro le3
  cases Z6 hpr hf hdk with
  |more hgf hlg hk hdk n1 n2 n3 n4 ha hb=>
   rename_i g c r'
   refine .t (Tb.cmp (.nm ok Al) (.bin (.Bv ok AK (.nm ok has0) (ec (ea ‹_› (d7 rfl)))) .int .Bh) Ac.ltI) (eU hk) ?_
   refine R.A3 (Tb.cmp (Ev.D8 6 (.nm ok has0) (.nm ok Al) (.bin (.nm ok Al) .int .Aw) hdk (by rfl) (by rfl) hx) .str Ac.AO) (Hu OO n1) ?_
   refine R.A3 (Tb.cmp (Ev.D8 2 (.nm ok has0) (.nm ok Al) (.bin (.nm ok Al) .int .Aw) hdk (by rfl) (by rfl) hx) .str Ac.AO) (Hu ON n2) ?_
   refine R.A3 (Tb.cmp (Ev.Bn (.nm ok has0) (.nm ok Al) hdk (by rfl) hx) .str Ac.AO) ((Cz c Z8).trans n3) ?_
   refine R.A3 (Tb.cmp (Ev.Bn (.nm ok has0) (.nm ok Al) hdk (by rfl) hx) .str Ac.AO) ((Cz c aa).trans n4) ?_
   refine R.BE (Tb.conv (Tb.cmp (Ev.Bn (.nm ok has0) (.nm ok Al) hdk (by rfl) hx) .str Ac.AO) (Cz c ab)) (fun hc=>?_) (fun hc=>?_)
   ·refine FE (ha hc) fun b ps r'' hps' hpr=>?_
    refine R.ER ok (Rx.BI ok Bx Vc (Mr _ _) (.cons (s:=.str x) (.nm ok has0) (.cons (s:=.int (k+1:Nat)) (Ev.to (s:=.int ((k:Int)+1)) (.bin (.nm ok Al) .int .Aw) rfl) .nil)) fun t u=>aJ ok.rm hdk.next hps' hx fun F4 a4 v4 k4 u4 le4 tu4 hi4 hl4 hd4'=>.mk rfl tu4 (.fC ok put3) (.fq ok put2) ?_)
    have tu1':=tu1.le le4
    refine R.EP ok (Ev.Bq (k:=1) (s:=.val (.ref l1)) (Ev.Nk (vs:=[.ref a0]) (s:=.val (.ref a1)) (.nm ok Ai) (.neg .int) Ai (by rfl) (d7 rfl) rfl) .int tu1' rfl (by rfl) rfl) (Rx.Bm (s:=.val v4) (.nm ok Ay) (.mk (vs:=vs) CG (by rw[hvs.len,eM];exact Gn ‹_› rfl) ?_)) ⟨_,has0⟩
    refine R.nil (.next (.nil (.next (.nil (.next (.nil (.next (.nil (.next (.nil ?_))))))))))
    refine .mk g hgf (.run hpr (by rw[eO];exact hlg) hd4' ?_ (Kp hps hl4) tu1' (Le.trans le23 le4))
    rw[eQ]
    exact(hvs.mono fun _ _ q=>q.le le4).snoc hi4
   ·refine Bk (hb hc) fun d r'' hin h1 hpr=>?_
    refine R.A3 (Tb.cmp (Ev.Bn (.nm ok has0) (.nm ok Al) hdk (by rfl) hx) .str Ac.FR) (Wz ag hin) ?_
    refine R.ER ok (Rx.BI ok Ce Jk (HD _ _) (.cons (s:=.str x) (.nm ok has0) (.cons (s:=.int (k:Nat)) (.nm ok Al) .nil)) fun t u=>JS (n:=n+1) ok.rm hdk h1 hx fun F4 a4 k4 t4 u4 le4 tu4 hd4'=>.mk rfl tu4 (.fy ok BF) (.fq ok put2) ?_)
    have tu1':=tu1.le le4
    refine R.EP ok (Ev.Bq (k:=1) (s:=.val (.ref l1)) (Ev.Nk (vs:=[.ref a0]) (s:=.val (.ref a1)) (.nm ok Ai) (.neg .int) Ai (by rfl) (d7 rfl) rfl) .int tu1' rfl (by rfl) rfl)
     (Rx.Kb (s1:=.val (.bool false)) .bool (Rx.JH (Rx.BR (.cons (s:=.str (ch d)) (.nm ok Az) (.cons (s:=.str (ch d)) (.nm ok Az) .nil)) fun t5 u5 F5 a5 le5 tu5 l5 F6 a6 le6 tu6=>.mk (vs:=vs) BQ (by rw[hvs.len,eM];exact Gn ‹_› rfl) (R.Ds fun F7 le7 hl7=>?_)))) ⟨_,has0⟩
    refine R.nil (.next (.nil (.next (.nil (.next (.nil (.next (.nil (.next (.nil (.next (.nil ?_))))))))))))
    have leA:=Le.trans le5 (Le.trans le6 le7)
    refine .mk g hgf (.run hpr (by rw[eO];exact hlg) hd4' ?_ (Kp hps (d7 rfl)) (tu1'.le leA) (Le.trans le23 (Le.trans le4 leA)))
    rw[eQ]
    exact(hvs.mono fun _ _ q=>q.le (Le.trans le4 leA)).snoc ⟨a6,_,rfl,tu6.le le7,l5,_,rfl,hl7,.cons ⟨a5,_,_,rfl,tu5.le (Le.trans le6 le7)⟩ .nil⟩
  |fin hk e=>
   refine .f (Tb.cmp (.nm ok Al) (.bin (.Bv ok AK (.nm ok has0) (ec (ea ‹_› (d7 rfl)))) .int .Bh) Ac.ltI) (eV hk) ?_
   refine R.Ds fun F4 le4 hl1=>R.Ds fun F5 le5 hrl=>?_
   refine R.D6 (v:=.ref rl) (.nm ok Ai) ?_
   have leA:=Le.trans le23 (Le.trans le4 le5)
   exact En.one (h F5 rl (Le.trans le1 (Le.trans le2 leA)) ⟨rl,_,rfl,hrl,.cons ⟨a0,t0,_,rfl,tu0.le leA,l0,_,rfl,hl0.le leA,.nil⟩ (.cons ⟨a1,t1,_,rfl,tu1.le (Le.trans le4 le5),l1,vs,rfl,hl1.le le5,e▸hvs.mono fun _ _ q=>q.le (Le.trans le4 le5)⟩ .nil)⟩ (e▸Gn ‹_› rfl) (e▸hps))
noncomputable def An (al:List Nat) (form:Int) (c:Nat):List Nat:=
 if form=2 then[91,33]++al.filter (fun d=>ch d !=ch c)++[93] else if form=3∧c≠93 then[91,c,45,c,93] else if form=0∧c ∉ [42,63,91] then[c] else[91,c,93]
noncomputable def BU (al:List Nat) (at_:Int):List Nat→List (List Nat)
 |[]=>[]
 |c::r=>An al (at_.fmod 4) c::BU al (at_+1) r
theorem MG (al:List Nat) (form:Int) (c:Nat):(An al form c).length≤al.length+5:=by
 unfold An
 have:=List.length_filter_le (fun d=>ch d !=ch c) al
 split
 ·simp;exact eb ‹_› (Nat.le_add_right _ _)
 ·split
  ·simp
  ·split<;>simp
theorem GK (al:List Nat) (r:List Nat):∀at_:Int,(BU al at_ r).length=r.length:=by
 induction r with
 |nil=>intro _;rfl
 |cons c r ih=>intro at_;simp[BU,ih]
theorem I2 (h:∀l ∈ ls,l.length≤b):ls.flatten.length≤ls.length*b:=by
 induction ls with
 |nil=>simp
 |cons l ls ih=>
  have:=h l (.head _)
  have:=ih fun y hy=>h y (.tail _ hy)
  simp only[List.flatten_cons,eO,List.length_cons,Nat.succ_mul]
  lia
theorem Vq (al:List Nat) (r:List Nat):∀(at_:Int),∀l ∈ BU al at_ r,l.length≤al.length+5:=by
 induction r with
 |nil=>intro _ l h;cases h
 |cons c r ih=>
  intro at_ l h
  rcases fj h with rfl|h
  ·exact MG ..
  ·exact ih _ l h
theorem MH (al:List Nat) {c:Nat}:∀(r:List Nat) (j:Nat) (at_:Int),r[j]? =some c→(BU al at_ r)[j]? =some (An al ((at_+j).fmod 4) c)
 |[],j,_,h=>nomatch h
 |d::r,0,at_,h=>by cases h;rw[show at_+((0:Nat):Int)=at_ by exact Int.add_zero _];rfl
 |d::r,j+1,at_,h=>by
  have:=MH al r j (at_+1) h
  rw[show at_+1+(j:Int)=at_+((j+1:Nat):Int) by lia] at this
  exact this
theorem Jn {c:Nat}:(ch c !=Str.ofString "]")= !(c==93):=by simp only[show Str.ofString "]"=ch 93 from by decide+kernel,bne,B8]
theorem MN {c:Nat}:Txt.contains (Str.ofString "*?[") (ch c)=decide (c ∈ [42,63,91]):=by rw[IK,show cl (Str.ofString "*?[")=[42,63,91] from by decide+kernel]
theorem VB {c:Nat}(h:(form==2)=true):An al form c=[91,33]++al.filter (fun d=>ch d !=ch c)++[93]:=if_pos (eq_of_beq h)
theorem VC {c:Nat}(h1:(form==2)=false) (h2:(form==3 && ch c !=Str.ofString "]")=true):An al form c=[91,c,45,c,93]:=by
 rw[Jn] at h2
 unfold An;rw[if_neg (by simpa using h1),if_pos (by simpa using h2)]
theorem VD {c:Nat}(h1:(form==2)=false) (h2:(form==3 && ch c !=Str.ofString "]")=false) (h3:(form==0 && !Txt.contains (Str.ofString "*?[") (ch c))=true):An al form c=[c]:=by
 rw[Jn] at h2
 rw[MN] at h3
 unfold An;rw[if_neg (by simpa using h1),if_neg (by simpa using h2),if_pos (by simpa using h3)]
theorem VE {c:Nat}(h1:(form==2)=false) (h2:(form==3 && ch c !=Str.ofString "]")=false) (h3:(form==0 && !Txt.contains (Str.ofString "*?[") (ch c))=false):An al form c=[91,c,93]:=by
 rw[Jn] at h2
 rw[MN] at h3
 unfold An;rw[if_neg (by simpa using h1),if_neg (by simpa using h2),if_neg (by simpa using h3)]
theorem GE:∀l:List Nat,(l.map fun d=>[d]).flatten=l
 |[]=>rfl
 |d::l=>by simp only[eP,List.flatten_cons,GE l];rfl
noncomputable abbrev MF (part al:List Nat) (at_:Int) (il:Addr) (sk sf:Sp):Sm:=[("part",.str (tx part)),("alphabet",.str (tx al)),("at",.int at_),("items",.val (.ref il)),("k",sk),("form",sf)]
inductive GlI (part al:List Nat) (at_:Int) (il c1:Addr) (V:Aa) (j:Nat) (F:FM):Sm→Aa→Prop
 |mk {vs sc sk sf:_}:Af Ah vs ((BU al at_ part).take j)→GlI part al at_ il c1 V j F (MF part al at_ il sk sf) ((il,Ab vs)::(c1,Ar sc)::V)
inductive GlJ (al:List Nat) (c:Nat) (F:FM) (W:Aa) (i:Nat) (us:List Value):FM→Sm→Aa→Prop
 |mk {so:_}:us.length≤i→Af Ah us (((al.take i).filter fun d=>ch d !=ch c).map fun d=>[d])→GlJ al c F W i us F [("other",so)] W
theorem Vn {c:Nat}(hd:al[i]? =some d) (hq:(ch d !=ch c)=true) (hl:us.length≤i) (hus:Af Ah us (((al.take i).filter fun d=>ch d !=ch c).map fun d=>[d])):GlJ al c F W (i+1) (us++[.str (ch d) t]) F [("other",so)] W:=
 .mk (by rw[eO];exact eL hl) (by
  rw[take_snoc hd,List.filter_append,eQ,List.filter_cons_of_pos (by exact hq)]
  exact hus.snoc ⟨t,rfl⟩)
theorem Vo {c:Nat}(hd:al[i]? =some d) (hq:(ch d !=ch c)=false) (hl:us.length≤i) (hus:Af Ah us (((al.take i).filter fun d=>ch d !=ch c).map fun d=>[d])):GlJ al c F W (i+1) us F [("other",so)] W:=
 .mk (Nat.le_succ_of_le hl) (by
  rw[take_snoc hd,List.filter_append,eQ,List.filter_cons_of_neg (by rw[hq];decide),List.filter_nil,List.map_nil,eJ]
  exact hus)
theorem JC (ha:al.all (·<128)=true):AS c F (.str (tx al) t) al.length (fun i v=>∃k,al[i]? =some k∧(Sp.str (ch k)).ok (some v)):=by
 have:=AS.str (c:=c) (F:=F) (y:=tx al) (t:=t) (by simpa [tx] using ha)
 simpa [tx] using this
theorem Vs {part:List Nat}(rm:Rm (n+1) A) (hpl:part.length<100) (hal:al.length<10) (ha:al.all (·<128)=true)
  (h:∀F' v,Le F F'→Ah v (BU al at_ part).flatten→Q v F' V):RV (cx w os) A (.call (.ref 374) ⟨[.str (tx part) t,.str (tx al) u,.int at_ v'],[]⟩) F V Q:=by
 refine RV.Uu (k1:="sign") (s1:=.any) ["part","alphabet","at","items","k","form"] ["range","len"] [("part",.str (tx part)),("alphabet",.str (tx al)),("at",.int at_),("items",.any),("k",.any),("form",.any)] [none]
  rm (Mh w os) (binds:=[("part",.str (tx part) t),("alphabet",.str (tx al) u),("at",.int at_ v')]) rfl (by kernel_rfl) (by kernel_rfl) (by rfl) ⟨⟨_,rfl⟩,⟨_,rfl⟩,⟨_,rfl⟩,trivial,trivial,trivial,trivial⟩ (by rfl) ⟨trivial,trivial⟩ ?_
 intro x c1 ok l1
 refine(?_:R _ (_::_) _ _ _ _)
 have hlen:(tx part).length=part.length:=Av part
 refine R.Bi ok (Rx.DZ .nil fun il=>As.fC put3 ?_)
 refine R.DP ok part.length (fun i v=>(Sp.int (0+i*1)).ok (some v)) (GlI part al at_ il c1 V) (Rx.Ey ok AK (.Bv ok Bx (.nm ok has0) (ec (ea ‹_› (d7 rfl)))) fun F' r le hr=>⟨AS.rg (Av part▸hr) (F9 (ea ‹_› (d7 rfl))) (Ga _),.mk .nil⟩) ?_ ?_
 ·intro j F' m' W v hj hI
  induction hI with|mk hvs=>
  rename_i vs sc sk sf
  rintro⟨t,e⟩ le
  refine .mk (Au.loc (s:=.int j) ok ⟨t,by rw[e,Int.mul_one,Int.zero_add]⟩ BF) ?_
  refine BZ (⟨_,eN hj⟩:∃c,part[j]? =some c) fun c hc=>?_
  have hD:D (tx part) j _:=D.of (x:=tx part) (k:=j) (c:=c) hc
  have hvl:vs.length≤100000:=by
   have hvl:=hvs.len
   rw[eZ,GK] at hvl
   lia
  have fin:∀{sf:Sp}{v},Ah v (An al ((at_+j).fmod 4) c)→GlI part al at_ il c1 V (j+1) F' (MF part al at_ il (.int j) sf) ((il,Ab (vs++[v]))::(c1,Ar (.str (ch c)))::V):=fun hv=>.mk (by
   rw[take_snoc (MH al part j at_ hc)]
   exact hvs.snoc hv)
  refine R.KN ok l1 (Ev.Bn (.nm ok has0) (.nm ok Az) hD (by rfl) (ea ‹_› (d7 rfl))) BQ ?_
  refine R.AC ok (Ev.bin (Ev.bin (.nm ok Al) (.nm ok Az) Aq.Aw) .int (Aq.GY (by decide))) Br ?_
  generalize (at_+(j:Int)).fmod 4=form at fin⊢
  clear hvs hc hD e
  have cc:ch c=tx [c]:=rfl
  refine R.BE (Tb.cmp (.nm ok Ax) .int Ac.DO) (fun hb=>?_) (fun hb=>?_)
  ·have hfl:=List.length_filter_le (fun d=>ch d !=ch c) al
   refine R.CW ok (.nm ok Ay) (Ev.to (s':=.str (tx (An al form c))) (Ev.bin (Ev.bin (Ev.Bc (l:=[91,33]) (by decide+kernel)) (Ev.Y6 (s:=.str (tx (al.filter fun d=>ch d !=ch c))) (Rx.GQ .str (Rx.lc ["other"] ["sign"] [] [c1] ok ⟨l1,trivial⟩ (by kernel_rfl) al.length (fun i v=>∃k,al[i]? =some k∧(Sp.str (ch k)).ok (some v)) (GlJ al c F' ((il,Ab vs)::(c1,Ar (.str (ch c)))::V))
    (Rx.Bm (s:=.str (tx al)) (.nm ok Ai) fun t=>⟨JC ha,.mk (eh _) .nil⟩) ?_ ?_ (.inl ⟨_,_,rfl⟩)))) (Aq.B7 (by decide) (ec (ef ‹_› (ea ‹_› (d7 rfl)))))) (Ev.Bc (l:=[93]) (by decide+kernel)) (Aq.B7 (by simp;exact ec (ef ‹_› (ea ‹_› (d7 rfl)))) (by decide))) (by rw[VB hb])) (fun _=>.head) hvl fun t=>?_
   ·rintro y oky cy - - - i us F3 m3 W3 v hi hI
    induction hI with|mk hul hus=>
    intro hv le3
    refine Ag hv fun d hd hv=>?_
    refine Ag (K3 cy) fun _ e n1=>?_
    cases e
    refine .mk (.nm (.loc (s:=.str (ch d)) oky hv CG)) ?_
    exact Tx.tb (Tb.cmp (.nm oky has0) (.ce oky n1 Ai) Ac.Dx) ⟨fun hq=>.Bm (s:=.str (ch d)) (.nm oky has0) fun t=>⟨by lia,Vn hd hq hul hus⟩,fun hq=>Vo hd hq hul hus⟩
   ·intro us F3 m3 W3 D hI le3
    induction hI with|mk hul hus=>
    rw[List.take_length] at hus
    exact .mk rfl has0 hus (by rw[GE];exact ec (ef ‹_› (ea ‹_› (d7 rfl)))) fun t=>⟨rfl,Part.sb (.cons (.tail .head) (.cons (.tail .head) (.skip .refl))),t,by rw[GE]⟩
   ·refine R.nil (.next (.nil ?_))
    exact fin ⟨t,rfl⟩
  ·refine R.BE (Tb.and (Tb.cmp (.nm ok Ax) .int Ac.DO) (fun _=>Tb.cmp (.ce ok l1 Ai) .str Ac.Dx)) (fun hc=>?_) (fun hc=>?_)
   ·refine R.CW ok (.nm ok Ay) (Ev.to (s':=.str (tx (An al form c))) (s:=.str (tx ([91]++[c]++[45]++[c]++[93]))) (Ev.bin (Ev.bin (Ev.bin (Ev.bin (Ev.Bc (l:=[91]) (by decide+kernel)) (by rw[cc];exact .ce ok l1 Ai) (Aq.B7 (d7 rfl) (d7 rfl))) (Ev.Bc (l:=[45]) (by decide+kernel)) (Aq.B7 (d7 rfl) (d7 rfl))) (by rw[cc];exact .ce ok l1 Ai) (Aq.B7 (d7 rfl) (d7 rfl))) (Ev.Bc (l:=[93]) (by decide+kernel)) (Aq.B7 (d7 rfl) (d7 rfl))) (by rw[VC hb hc];rfl)) (fun _=>.head) hvl fun t=>?_
    refine R.nil (.next (.nil (.next (.nil ?_))))
    exact fin ⟨t,rfl⟩
   ·refine R.BE (Tb.and (Tb.cmp (.nm ok Ax) .int Ac.DO) (fun _=>Tb.cmp (.ce ok l1 Ai) .str Ac.N5)) (fun hd=>?_) (fun hd=>?_)
    ·refine R.CW ok (.nm ok Ay) (Ev.to (s':=.str (tx (An al form c))) (s:=.str (ch c)) (.ce ok l1 Ai) (by rw[VD hb hc hd];rfl)) (fun _=>.head) hvl fun t=>?_
     refine R.nil (.next (.nil (.next (.nil (.next (.nil ?_))))))
     exact fin ⟨t,rfl⟩
    ·refine R.CW ok (.nm ok Ay) (Ev.to (s':=.str (tx (An al form c))) (s:=.str (tx ([91]++[c]++[93]))) (Ev.bin (Ev.bin (Ev.Bc (l:=[91]) (by decide+kernel)) (by rw[cc];exact .ce ok l1 Ai) (Aq.B7 (d7 rfl) (d7 rfl))) (Ev.Bc (l:=[93]) (by decide+kernel)) (Aq.B7 (d7 rfl) (d7 rfl))) (by rw[VE hb hc hd];rfl)) (fun _=>.head) hvl fun t=>?_
     refine R.nil (.next (.nil (.next (.nil (.next (.nil ?_))))))
     exact fin ⟨t,rfl⟩
 ·intro F' m' W hI
  induction hI with|mk hvs=>
  intro le
  rw[List.take_of_length_le (by rw[GK];exact eh _)] at hvs
  have hb:(BU al at_ part).flatten.length≤100000:=by
   have hb:=I2 (Vq al part at_)
   rw[GK] at hb
   have:part.length*(al.length+5)≤100*15:=Nat.mul_le_mul (ec ‹_›) (by lia)
   exact eb ‹_› (eb ‹_› (d7 rfl))
  exact R.DE (Rx.GQ .str (Rx.Bm (s:=.val (.ref il)) (.nm ok Ay) (.mk rfl has0 hvs hb fun t=>En.sb (W:=V) (Part.sb (.skip (.skip .refl))) (En.one (h F' _ le ⟨t,rfl⟩)))))
theorem Tt {c:Nat}(rm:Rm (n+1) A) (hc:c<128) (h:∀F' v,Le F F'→Ah v (E3 c)→Q v F' V):RV (cx w os) A (.call (.ref 287) ⟨[.str (ch c) t],[]⟩) F V Q:=by
 refine RV.fn ["pattern"] ["isinstance","str","_special_chars_map"] [("pattern",.str (ch c))] rm (Mg w os) (binds:=[("pattern",.str (ch c) t)]) rfl (by kernel_rfl) (by kernel_rfl) (by rfl) ⟨⟨_,rfl⟩,trivial⟩ ?_
 rintro x ok - -
 refine(?_:R _ (_::_) _ _ _ _)
 refine R.BE (b:=true) (Tb.val (Ev.rx fun Q hQ=>Rx.bi ok AK Vm (.cons (s:=.str (ch c)) (.nm ok has0) (.cons (Ev.bl ok Bx Vw) .nil)) fun vs o=>?_) Bz.bool) (fun _=>?_) (fun hb=>nomatch hb)
 ·obtain⟨_,_,rfl,⟨t,⟨⟩⟩,⟨⟩⟩:=o.two
  exact .pure (.val (.bool true)) (fun V Q hQ s S=>PySem.IsiPair.str_str (Ae F V S (hQ _ rfl))) hQ
 ·refine R.ret (Rx.Fb PySem.F.slot_str_translate PySem.F.type_str_translate (.nm ok has0) (.cons (s:=.val (.ref 277)) (Ev.gl ok Ce Vg) .nil) (fun u vs o K=>?_) (Q:=fun v F' W=>Le F F'∧V=W∧Ah v (E3 c))) ?_
  ·obtain⟨_,rfl,⟨⟩⟩:=o.one
   exact dB ok.rm hc fun u=>⟨Le.refl _,V,Sb.refl,Le.refl _,rfl,u,rfl⟩
  ·rintro v F' _ _ ⟨le,rfl,hv⟩
   exact En.one (h F' v le hv)
theorem Run.Ut (h:∀t',Q (.str y t') F V) (hs:y.length≤sizeLine):Run c A (formatField (.str y t) Str.empty) F V Q:=.mk fun s S=>
 formatField_str (fun t' tk=>Ae F V ⟨S.own,S.base,S.gens,S.os⟩ (h t')) hs
theorem Run.WH {a b:Value}(hp:plainIs a b=true) (h:Q (.bool (a==b)) F V):Run c A (compareOp .Is a b) F V Q:=fun s S=>wpAny_is_plain hp (Ae F V S h)
theorem Run.WG {a b:Value}(hp:plainIs a b=true) (h:Q (.bool (!(a==b))) F V):Run c A (compareOp .IsNot a b) F V Q:=fun s S=>wpAny_isNot_plain hp (Ae F V S h)
theorem Run.Jy (h:Q (.bool true) F V):Run c A (compareOp .Is (.ref a) (.ref a)) F V Q:=fun s S=>wpAny_is_ref_self (Ae F V S h)
theorem Run.Jw (h:Q (.bool false) F V):Run c A (compareOp .IsNot (.ref a) (.ref a)) F V Q:=fun s S=>wpAny_isNot_ref_self (Ae F V S h)
theorem Ac.Jy:Ac .Is (.val (.ref a)) (.val (.ref a)) true:=.of fun _ _ _ _ _ h=>Run.Jy h
theorem Ac.Jw:Ac .IsNot (.val (.ref a)) (.val (.ref a)) false:=.of fun _ _ _ _ _ h=>Run.Jw h
theorem Ac.Ng:Ac .IsNot (.str y) (.val (.ref a)) true:=.of fun _ _ _ _ _ h t=>Run.WG rfl h
section
variable {y3:Str}
theorem RC.go {t:Sem Value}{K:Aa}(h:RC x.fo x.A t F1 V Q) (le:Le F F1) (f:Sb (full x m (V++K)) Vf) (kk:∀v F' V' W,Le F F'→Sb (full x m (W++K)) V'→Q v F' W→Q' v F' V'):Run x.fo x.A t F1 Vf Q':=
 Run.fit (Fc f).fit (h.fu fun v F' V' W le' ft q=>kk v F' V' W (Le.trans le le') (Fd ft) q)
theorem Ev.wS {K:Aa}{P:Value→Shared→Prop}(h:Ev x F m V e1 (.str y)) (ft:Sb (full x m (V++K)) Vf) (S:St x.fo F Vf s) (k:∀V' t s',Sb (full x m (V++K)) V'→St x.fo F V' s'→P (.str y t) s'):wpAny (Mo x.fo) x.A (eval e1 x.env) P (fun _ _=>False) s:=
 Run.fu (h.kS (Q:=fun v F' V'=>∀s',St x.fo F' V' s'→P v s') ft fun V' t f s' S'=>k V' t s' f S') S fun _ s' _ _ S' q=>q s' S'
theorem Ev.fv (h:Ev x F m V e1 (.str y)) (hs:y.length≤100000):Ev x F m V (.FormattedValue e1 (-1) .none p) (.str y):=.ki fun K Vf Q ft kk s S=>
 FormattedValue_plain (h.wS ft S fun V1 t s1 f1 S1=>Run.Ut (Q:=Q) (fun t'=>kk V1 _ f1 ⟨t',rfl⟩) (by rw[eT];exact eb ‹_› (d7 rfl)) s1 S1)
theorem Ev.Md (h1:Ev x F m V e1 (.str y1)) (h2:Ev x F m V e2 (.str y2)) (h3:Ev x F m V e3 (.str y3)) (hs:(y1++y2++y3).length≤100000):Ev x F m V (.JoinedStr [e1,e2,e3] p) (.str (y1++y2++y3)):=by
 have l3:(y1++y2++y3).length≤sizeLine:=by rw[eT];exact eb ‹_› (d7 rfl)
 have l2:(y1++y2).length≤sizeLine:=by rw[strLen_append] at l3;exact Iw ‹_› rfl
 have l1:y1.length≤sizeLine:=by rw[strLen_append] at l2;exact Iw ‹_› rfl
 have e0:Str.empty++y1=y1:=by
  refine(?_:Str.mk (#[]++y1.cps)=y1)
  rw[Array.empty_append]
 exact .ki fun K Vf Q ft kk s S=>JoinedStr_many (joinParts_cons (h1.wS ft S fun V1 t s1 f1 S1=>⟨e0.symm▸l1,e0.symm▸joinParts_cons (h2.wS f1 S1 fun V2 t s2 f2 S2=>⟨l2,joinParts_cons (h3.wS f2 S2 fun V3 t s3 f3 S3=>⟨l3,joinParts_nil (Ae F V3 ⟨⟨S3.own,S3.base,S3.gens,S3.os⟩,eA _⟩ (kk V3 _ f3 ⟨_,rfl⟩)) l3⟩)⟩)⟩))
end
theorem Ah.ok {l:List Nat}(h:Ah v l):(Sp.str (tx l)).ok (some v):=BZ (h) fun t e=>⟨t,by exact congrArg _ (e)⟩
theorem Ah.of {l:List Nat}(h:(Sp.str (tx l)).ok (some v)):Ah v l:=BZ (h) fun t e=>⟨t,ed e⟩
theorem GR {a l:Nat}(ha:env.scope.names.lookup ida=some .local) (hl:(a==l)=true):(env.kindOf ida==some .local && a==l)=true:=
 Bool.and_eq_true_iff.mpr ⟨(congrArg (·==some NameKind.local) ha:(env.kindOf ida==some .local)=_).trans rfl,hl⟩
theorem GI {α β:Type}{f:α→Option β}{a:α}{b:β}{l:List α}{r:List β}(h:f a=some b) (k:l.filterMap f=r):(a::l).filterMap f=b::r:=k▸List.filterMap_cons_some h
theorem Pn {ts vs:List Expr}(hk:env.scope.kind= .function) (h0:(!(ts.length==2||ts.length==3)||vs.length !=ts.length)=false)
  (h1:∀e ∈ vs,notStar e=true) (hN:∀f:Expr→Option Str,(∀id p,(env.kindOf id==some .local && p.line==((ts.head?.map (·.pos.line)).getD 0))=true→f (.Name id p)=some id)→ts.filterMap f=names)
  (h2:(names.length !=ts.length||names.eraseDups.length !=names.length)=false) (hf:vs.all (foldedForSure 8)=false) (hc:vs.all (constantsAlone 8)=false):
  swappedStores [.Tuple ts k tp] (.Tuple vs kd pos) env=Pure.pure (some names):=by
 have k3:(env.blockKind != .function)=false:=(congrArg (·!=ScopeKind.function) (if_neg (by rw[hk];exact Bool.false_ne_true):env.blockKind=_)).trans (by rw[hk];rfl)
 have ne {b:Bool}(h:b=false):¬b=true:=h▸Bool.false_ne_true
 refine(if_neg (ne (Bool.or_eq_false_iff.mpr ⟨h0,k3⟩))).trans ((if_neg (ne ?_)).trans ?_)
 ·refine List.any_eq_false.mpr fun e he=>?_
  have h:=h1 e he
  clear he
  induction e using Expr.casesOn<;>first|exact Bool.false_ne_true|exact absurd h Bool.false_ne_true
 ·dsimp only
  rw[hN]
  ·exact(if_neg (ne h2)).trans ((if_neg (ne hf)).trans (if_neg (ne hc)))
  ·exact fun id p h=>if_pos h
theorem c6 (hk:env.scope.kind= .function) (ha:env.scope.names.lookup ida=some .local) (hb:env.scope.names.lookup idb=some .local)
  (h1:notStar e1=true) (h2:notStar e2=true) (hl:(pb.line==pa.line)=true) (hne:[ida,idb].eraseDups.length=2) (hf:[e1,e2].all (foldedForSure 8)=false) (hc:[e1,e2].all (constantsAlone 8)=false):
  swappedStores [.Tuple [.Name ida pa,.Name idb pb] k tp] (.Tuple [e1,e2] kd pos) env=Pure.pure (some [ida,idb]):=
 Pn hk rfl (List.forall_mem_cons.mpr ⟨h1,List.forall_mem_singleton.mpr h2⟩) (fun _ q=>GI (q _ _ (GR ha (eX _))) (GI (q _ _ (GR hb hl)) rfl)) ((congrArg (fun n=>false||n !=2) hne).trans rfl) hf hc
section
variable {sb:Sp}{Q:Flow→FM→Sm→Aa→Prop}
inductive AsW2 (x:Cc) (ida idb:Str) (rest:List Stmt) (Q:Flow→FM→Sm→Aa→Prop) (m:Sm) (V:Aa) (v1 v2:Value) (F:FM):Prop
 |mk {m1 W1 m2 W2:_}:Au x idb v2 m V m1 W1→Au x ida v1 m1 W1 m2 W2→R x rest F m2 W2 Q→AsW2 x ida idb rest Q m V v1 v2 F
theorem R.KP (ok:Ok x n gs) (ha:Ad ida sa m) (hb:Ad idb sb m) (h1:Ev x F m V e1 s1) (h2:Ev x F m V e2 s2)
  (kk:s1.fm fun v1=>s2.fm fun v2=>∀F',Le F F'→AsW2 x ida idb rest Q m V v1 v2 F') (hn1:autoParam (notStar e1=true) aR) (hn2:autoParam (notStar e2=true) aR)
  (hs:autoParam (swapsWithSole [.Tuple [.Name ida pa,.Name idb pb] k tp] (.Tuple [e1,e2] kd pos) p.line x.env=Pure.pure false) aU)
  (hl:autoParam ((pb.line==pa.line)=true) aR) (hne:autoParam ([ida,idb].eraseDups.length=2) aD) (hf:autoParam ([e1,e2].all (foldedForSure 8)=false) aD) (hc:autoParam ([e1,e2].all (constantsAlone 8)=false) aD):
  R x (.Assign [.Tuple [.Name ida pa,.Name idb pb] k tp] (.Tuple [e1,e2] kd pos) p::rest) F m V Q:=fun K Vf ft=>Run.fit ft.fit fun s S=>
 have y:=(S.own.get .head).elim fun o q=>q.2.1
 R.Ra ok h1 h2 (fun F' v1 v2 le o1 o2=>(Sp.G3 (P:=fun v1 v2=>∀F',Le F F'→AsW2 x ida idb rest Q m V v1 v2 F') o1 o2 kk F' le).casesOn fun{m1 W1 m2 W2} a b c=>Jr m1 W1 m2 W2 a b c) hn1 hn2 hs (c6 ok.lo.kind (ok.lo.loc _ (y▸C3 ha)) (ok.lo.loc _ (y▸C3 hb)) hn1 hn2 hl hne hf hc) K _ Sb.refl s S
end
noncomputable def DV (ls:List (List Nat)):List Nat:=[40,63,115,58,46,42]++ls.flatten++[41,92,90]
noncomputable abbrev HN (il st rl b:Addr) (i:Int) (k:Nat) (sf:Sp):Sm:=[("inp",.val (.ref il)),("STAR",.val (.ref st)),("res",.val (.ref rl)),("add",.val (.ref b)),("i",.int i),("n",.int (k+1)),("fixed",sf)]
inductive JnA (il st rl b:Addr) (k:Nat) (V:Aa):Nat→FM→Sm→Aa→Prop
 |mk {F:_}:JnA il st rl b k V 0 F (HN il st rl b 0 k .any) ((rl,Ab [])::V)
inductive JnB (il st rl b:Addr) (k:Nat) (p:List Nat) (V:Aa):Nat→FM→Sm→Aa→Prop
 |one {F:_}:JnB il st rl b k p V 1 F (HN il st rl b 0 k .any) ((rl,Ab [])::V)
 |zero {F u1 u2 sf:_}:JnB il st rl b k p V 0 F (HN il st rl b (k+1) k sf) ((rl,Ab [.str (tx [46,42]) u1,.str (tx p) u2])::V)
inductive JnC (il st rl b fl:Addr) (k:Nat) (vs:List Value) (W:Aa) (f:Nat):FM→Sm→Aa→Prop
 |mk {F:_}{j:Nat}:j+f=k→JnC il st rl b fl k vs W f F (HN il st rl b (j+1:Nat) k (.val (.ref fl))) ((fl,Ab (vs.take j))::W)
theorem Ni (h:Af Ah vs ls) {j:Nat}(hj:j<ls.length):∃l t,vs[j]? =some (.str (tx l) t):=by
 obtain⟨l0,hl0⟩:∃l,ls[j]? =some l:=⟨_,eN hj⟩
 obtain⟨v0,hv0,t,rfl⟩:=h.get hl0
 exact⟨l0,t,hv0⟩
theorem WW {il st:Addr}(rm:Rm (n+1) A) (hil:Ls F il (.ref st::vs)) (hvs:Af Ah vs ls) (hne:0<ls.length) (hll:ls.length≤100) (hfl:ls.flatten.length≤1000)
  (h:∀F' v,Le F F'→Ah v (DV ls)→Q v F' V):RV (cx w os) A (.call (.ref 301) ⟨[.ref il,.ref st],[]⟩) F V Q:=by
 refine RV.fn ["inp","STAR","res","add","i","n","fixed"] ["len"] [("inp",.val (.ref il)),("STAR",.val (.ref st)),("res",.any),("add",.any),("i",.any),("n",.any),("fixed",.any)]
  rm (Mj w os) (binds:=[("inp",.ref il),("STAR",.ref st)]) rfl (by kernel_rfl) (by kernel_rfl) (by rfl) ⟨rfl,rfl,trivial,trivial,trivial,trivial,trivial,trivial⟩ ?_
 rintro x ok - -
 refine(?_:R _ (_::_) _ _ _ _)
 have hvl:=hvs.len
 have hz:(Value.ref st::vs).length=ls.length+1:=congrArg (·+1) hvl
 refine R.Bi ok (Rx.DZ .nil fun rl=>As.fC put2 ?_)
 refine R.Bi ok (Rx.KV ok Al has0 fun F1 b le1 bd=>As.fC put3 ?_)
 refine R.KP ok (s1:=.int 0) (s2:=.int (ls.length+1)) Az Ax .int (Ev.to (Ev.DW ok AK (.nm ok has0) (hil.le le1) (by lia)) (show Sp.int ((Value.ref st::vs).length:Nat)=Sp.int ((ls.length:Int)+1) from congrArg (fun n:Nat=>Sp.int n) hz)) fun t1 t2 F2 le2=>.mk (.fq ok Br) (.fq ok BF) ?_
 have bd2:=bd.le le2
 have hil2:=(hil.le le1).le le2
 have le02:=Le.trans le1 le2
 refine R.Cu (JnA il st rl b ls.length V) ?_ 0 .mk
 intro f F3 m3 W3 hI
 induction hI with|mk=>
 rename_i F3
 intro le23
 have itk:∀{m:Sm}{V:Aa}{p q r:Pos}{i:Int}{s:Sp}(k:Nat) {F'}(v:Value),Le F3 F'→Ad ("inp":Str) (Sp.val (.ref il)) m→Ad ("i":Str) (Sp.int i) m→i=(k:Int)→(Value.ref st::vs)[k]? =some v→s.ok (some v)→Ev x F' m V (.Subscript (.Name "inp" p) (.Name "i" q) r) s:=fun k F' v le h1 h2 e hv hs=>Ev.GP (.nm ok h1) (.nm ok h2) (hil2.le (Le.trans le23 le)) (k:=k) hv e (by
  have:=(List.getElem?_eq_some_iff.mp hv).1
  lia) hs
 refine .f (Tb.and (.cmp (.nm ok Az) (.nm ok Ax) .ltI) fun _=>Tb.cmp (itk 0 _ (Le.refl _) has0 Az (by rfl) (by rfl) (s:=.val (.ref st)) rfl) (.nm ok Ai) Ac.Jw) (Bool.and_false _) ?_
 refine R.Cu (JnB il st rl b ls.length ls.flatten V) ?_ 1 .one
 intro f F4 m4 W4 hI
 induction hI with
 |one=>
  rename_i F4
  intro le34
  refine .t (Tb.cmp (.nm ok Az) (.nm ok Ax) Ac.ltI) (eU KI) ?_
  refine R.FC (Tb.cmp (itk 0 _ le34 has0 Az (by rfl) (by rfl) (s:=.val (.ref st)) rfl) (.nm ok Ai) Ac.Jy) ?_
  refine R.aug ok Az .int BF ?_
  refine R.A3 (Tb.cmp (.nm ok Az) (.nm ok Ax) Ac.DO) (beq_eq_false_iff_ne.mpr (by lia)) ?_
  refine R.nil (.next ?_)
  refine GA (Ni hvs hne) fun l0 t0 hv0=>?_
  refine R.FC (Tb.cmp (itk 1 _ le34 has0 Az (by rfl) hv0 (s:=.str (tx l0)) ⟨t0,rfl⟩) (.nm ok Ai) Ac.Ng) ?_
  refine R.Bi ok (Rx.DZ .nil fun fl=>As.fC Db ?_)
  refine R.Cu (JnC il st rl b fl ls.length vs ((rl,Ab [])::V)) ?_ ls.length (.mk (j:=0) (Nat.zero_add _))
  intro f F5 m5 W5 hI
  induction hI with|mk hj=>
  rename_i F5 j
  intro le45
  cases f with
  |succ f=>
   refine GA (Ni hvs (j:=j) (Ku ‹_›)) fun l1 t1 hv1=>?_
   refine .t (Tb.and (b2:=true) (Tb.cmp (.nm ok Az) (.nm ok Ax) Ac.ltI) fun _=>Tb.cmp (itk (j+1) _ (Le.trans le34 le45) has0 Az (by rfl) hv1 (s:=.str (tx l1)) ⟨t1,rfl⟩) (.nm ok Ai) Ac.Ng) (by rw[Bool.and_true];exact eU (by lia)) ?_
   refine R.CW ok (.nm ok AG) (s:=.val (.str (tx l1) t1)) (itk (j+1) _ (Le.trans le34 le45) has0 Az (by rfl) hv1 rfl) (fun _=>.head) (by rw[eZ];lia) ?_
   refine(?_:R _ _ _ _ _ _)
   refine R.aug ok Az .int BF (.nil ?_)
   exact .mk f (ey f) (take_snoc hv1▸JnC.mk (j:=j+1) (Gm ‹_›))
  |zero=>
   refine .f (Tb.and (b2:=true) (Tb.cmp (.nm ok Az) (.nm ok Ax) Ac.ltI) fun hb=>absurd (ee hb) (KG ‹_›)) (by rw[Bool.and_true];exact eV (KG ‹_›)) ?_
   rw[List.take_of_length_le (by lia)]
   refine R.Bi ok (Rx.GQ .str (Rx.Bm (s:=.val (.ref fl)) (.nm ok AG) (.mk rfl has0 hvs (eb ‹_› (d7 rfl)) fun t2=>.mk (s:=.str (tx ls.flatten)) ⟨t2,rfl⟩ Db ?_)))
   refine R.B2 (Tb.cmp (.nm ok Az) (.nm ok Ax) Ac.DO) (beq_iff_eq.mpr (by lia)) ?_
   refine R.sb (W:=(rl,Ab [])::V) (Part.sb (.cons (.tail .head) (.skip .refl))) ?_
   have bd5:=bd2.le (Le.trans le23 (Le.trans le34 le45))
   refine R.Dq ok (Rx.Gu ok bd5 Ay (Rx.Bm (s:=.str (tx [46,42])) (Ev.Bc (by decide+kernel)) fun u1=>.mk (vs:=[]) .head (d7 rfl) ?_))
   refine R.Dq ok (Rx.Gu ok bd5 Ay (Rx.Bm (s:=.str (tx ls.flatten)) (.nm ok AG) fun u2=>.mk (vs:=[.str (tx [46,42]) u1]) .head (d7 rfl) ?_))
   refine R.nil (.next (.nil ?_))
   exact .mk 0 (by decide) (by have e:((j+1:Nat):Int)=ls.length+1:=by{lia};rw[e];exact .zero)
 |zero=>
  rename_i F4 u1 u2 sf
  intro le34
  refine .f (Tb.cmp (.nm ok Az) (.nm ok Ax) Ac.ltI) (eV (Int.lt_irrefl _)) ?_
  refine R.FC (Tb.conv (Tb.cmp (.nm ok Az) (.nm ok Ax) Ac.DO) (eX _)) ?_
  have e2:[[46,42],ls.flatten].flatten=[46,42]++ls.flatten:=by rw[List.flatten_cons,List.flatten_cons,List.flatten_nil,eJ]
  have e3:([46,42]++ls.flatten).length≤1002:=by rw[eO];exact Nat.add_le_add (eh 2) hfl
  refine R.Bi ok (Rx.GQ .str (Rx.Bm (s:=.val (.ref rl)) (.nm ok Al) (.mk (ls:=[[46,42],ls.flatten]) rfl has0 (.cons ⟨u1,rfl⟩ (.cons ⟨u2,rfl⟩ .nil)) (by rw[e2];exact ea ‹_› (d7 rfl)) fun t2=>.mk (s:=.str (tx ([46,42]++ls.flatten))) ⟨t2,by rw[e2]⟩ put2 ?_)))
  refine R.H3 (s:=.str (tx [40,63,115,58]++tx ([46,42]++ls.flatten)++tx [41,92,90])) (Ev.Md (Ev.Bc (by decide+kernel)) (Ev.fv (.nm ok Al) (by rw[Av];exact ea ‹_› (d7 rfl))) (Ev.Bc (by decide+kernel)) (by rw[strLen_append,strLen_append,Av,Av,Av];exact eb (Nat.add_le_add (Nat.add_le_add (eh 4) e3) (eh 3)) (by decide))) fun v hv=>?_
  refine En.sb (W:=V) (Part.sb (.skip .refl)) (En.one (h F4 v (Le.trans le02 (Le.trans le23 le34)) ?_))
  rw[Gh,Gh] at hv
  exact .of hv
section
open PySem PySem.W PySem.Calls PyProof.Rows PySem.Builtin.Re
noncomputable def JV:Array Nat:=#[14,14,4,1,1,9,0,64,0,1342177280,0,0,0,0,0,17,0,13,11,9,0,64,0,1342177280,0,0,0,0,0,17,1,1]
noncomputable def Gy:Nat→Sre.M→Option Sre.M
 |0,_=>none
 |k+1,m=>if (m.runFor reTurnSteps).outcome.isSome then some (m.runFor reTurnSteps) else Gy k (m.runFor reTurnSteps)
noncomputable def sr (text:List Nat) (start:Nat) (must:Bool):Option Sre.M:=Gy 30 (Sre.forSearch JV text.toArray 1 start text.length must)
theorem Run.drive {Q:Sre.M→FM→Aa→Prop}:∀{k n:Nat}{m m':Sre.M},Gy k m=some m'→k≤n→Q m' F V→Run c A (reDrive n m) F V Q
 |0,_,_,_,h,_,_=>nomatch h
 |k+1,0,_,_,_,hk,_=>absurd hk (absurd ‹_› (Nat.not_lt_zero _))
 |k+1,n+1,m,m',h,hk,hQ=>by
  dsimp only[Gy] at h
  refine(?_:Run c A (if (m.runFor reTurnSteps).outcome.isSome then Pure.pure (m.runFor reTurnSteps) else do PySem.rule "sre.turn";reDrive n (m.runFor reTurnSteps)) F V Q)
  by_cases q:(m.runFor reTurnSteps).outcome.isSome=true
  ·rw[if_pos q] at h⊢;obtain rfl:=ed h;exact .pure hQ
  ·rw[if_neg q] at h⊢;exact .bind (.rule (Run.drive h (ex ‹_›) hQ))
theorem Run.UE {α:Type}{xs:List α}{f:α→PUnit→Sem (ForInStep PUnit)}{Q:PUnit→FM→Aa→Prop}(hf:∀a (Q:ForInStep PUnit→FM→Aa→Prop),Q (.yield ⟨⟩) F V→Run c A (f a ⟨⟩) F V Q) (h:Q ⟨⟩ F V):Run c A (forIn xs PUnit.unit f) F V Q:=by
 induction xs with
 |nil=>exact .pure h
 |cons a xs ih=>
  rw[e7]
  exact .bind (hf a _ ih)
theorem Run.toEnd {Q:Option Sre.M→FM→Aa→Prop}{m m':Sre.M}(h:Gy k m=some m') (hk:k≤2 ^ 64) (ho:(∃o,m'.outcome=some o∧((o= .matched∧Q (some m') F V)∨(o= .failed∧Q Option.none F V)))):Run c A (reRunToEnd m) F V Q:=by
 unfold reRunToEnd
 refine .bind (Run.drive h hk (.bind (Run.UE (fun a Q hQ=>?_) ?_)))
 ·by_cases q:m'.seen.has a=true
  ·rw[if_pos q];exact .bind (.rule (.pure hQ))
  ·rw[if_neg q];exact .pure hQ
 ·obtain⟨o,e,⟨rfl,q⟩|⟨rfl,q⟩⟩:=ho
  ·rw[e];exact .pure q
  ·rw[e];exact .pure q
noncomputable def tgt (l:List Nat) (u:Tok):ReTarget:={pattern:=.ref 268,string:=.str (tx l) u,code:=JV,text:=l.toArray,kind:=0,groups:=1,pos:=0,lim:=l.length}
def Dl (F:FM):Prop:=(∃o,F 268=some o∧o.cls= .type "re.Pattern"∧∃t1 t2 t3 t4,o.data= .fields #[.str (Str.ofString "([&~|])") t1,.int 32 t2,.int 1 t3,.none,.none,.ref 267,.int 0 t4])∧∃o,F 267=some o∧∃xs n,o.data= .seq xs n∧(xs.map reRawOf).map (·.toNat)=JV
theorem Run.target {l:List Nat}{Q:ReTarget→FM→Aa→Prop}(hp:Dl F) (h:Q (tgt l u) F V):Run c A (reWholeTarget (.ref 268) (.str (tx l) u)) F V Q:=fun s S=>by
 obtain⟨⟨o,ho,hc,t1,t2,t3,t4,hd⟩,o2,ho2,xs,n,hd2,hx⟩:=hp
 refine d8 (wpAny_fieldsOf (S.own.fro _ _ ho) hd ?_)
 refine(?_:wpAny _ _ (Pure.pure ((tx l).cps,0)>>=_) _ _ _)
 refine d8 (d9 ?_)
 refine(?_:wpAny _ _ (Pure.pure ()>>=fun _=>Pure.pure ()>>=fun _=>Pure.pure ()>>=fun _=>_) _ _ _)
 refine d8 (d9 (d8 (d9 (d8 (d9 ?_)))))
 refine(?_:wpAny _ _ (reRawItems (.ref 267)>>=_) _ _ _)
 refine d8 (d8 (wpAny_seqItems (S.own.fro _ _ ho2) hd2 (d9 ?_)))
 refine d9 (Ae F V S ?_)
 refine(?_:Q {pattern:=_,string:=_,code:=(xs.map reRawOf).map (·.toNat),text:=_,kind:=_,groups:=_,pos:=_,lim:=_} F V)
 refine(hx)▸?_
 exact h
theorem Run.next {l:List Nat}{b:Bool}{m':Sre.M}{Q:Option Sre.M→FM→Aa→Prop}(h:sr l i b=some m') (ho:(∃o,m'.outcome=some o∧((o= .matched∧Q (some m') F V)∨(o= .failed∧Q Option.none F V)))):Run c A (reNextFound (tgt l u) i b) F V Q:=
 Run.toEnd h (by decide) ho
end
section
open PySem PySem.W PySem.Calls PyProof.Rows PySem.Builtin PySem.Builtin.Re
noncomputable def sl (l:List Nat) (b e:Nat):List Nat:=(l.drop b).take (e - b)
noncomputable def oc:Option Sre.Outcome→Nat
 |some .failed=>0
 |some .matched=>1
 |_=>2
theorem Oe {o:Option Sre.Outcome}:(oc o=0→o=some .failed)∧(oc o=1→o=some .matched):=by
 rcases o with _|_|_|_<;>constructor<;>intro h<;>first|rfl|rcases h with _|_
theorem gd {α:Type}{c:Prop} [Decidable c] {a:Option α}{r:α}(h:(if c then a else none)=some r):c∧a=some r:=by
 split at h
 ·exact⟨‹_›,h⟩
 ·contradiction
noncomputable def ends (m:Sre.M):Option (Nat×Nat):=(m.marks.toList[0]?).join.bind fun b=>(m.marks.toList[1]?).join.bind fun e=>if m.marks.toList=[some b,some e] then some (b,e) else none
theorem Tg {m:Sre.M}{p:Nat×Nat}(h:ends m=some p):m.marks.toList=[some p.1,some p.2]:=by
 obtain⟨b, -,h⟩:=Option.bind_eq_some_iff.mp h
 obtain⟨e, -,h⟩:=Option.bind_eq_some_iff.mp h
 have h:=gd h
 exact ed h.2▸h.1
noncomputable def Fp (l:List Nat) (k:Nat):Nat→Bool→List (List Nat)→Option (List (List Nat)):=
 Nat.rec (fun _ _ _=>none) (fun _ ih at_ must acc=>(sr l at_ must).bind fun m=>
  if oc m.outcome=0 then if (acc++[sl l at_ l.length]).flatten.length≤1000 then some (if at_<l.length then acc++[sl l at_ l.length] else acc) else none
  else if oc m.outcome=1 then(ends m).bind fun p=>if m.lastmark=1∧p.1=m.start∧p.2=m.handed∧p.1≤p.2∧p.2≤l.length then ih m.handed (m.handed==m.start) ((if at_<m.start then acc++[sl l at_ m.start] else acc)++[92::sl l p.1 p.2]) else none else none) k
inductive EN (l:List Nat) (res:List (List Nat)):Nat→Nat→Bool→List (List Nat)→Prop
 |fin {k at_ must acc m:_}:sr l at_ must=some m→m.outcome=some .failed→(acc++[sl l at_ l.length]).flatten.length≤1000→(at_<l.length→res=acc++[sl l at_ l.length])→(¬at_<l.length→res=acc)→EN l res (k+1) at_ must acc
 |go {k at_ must acc m b e acc':_}:sr l at_ must=some m→m.outcome=some .matched→m.marks.toList=[some b,some e]→m.lastmark=1→b=m.start→e=m.handed→b≤e→(at_<m.start→acc'=acc++[sl l at_ m.start])→(¬at_<m.start→acc'=acc)→EN l res k m.handed (m.handed==m.start) (acc'++[92::sl l b e])→EN l res (k+1) at_ must acc
theorem EN.of {l:List Nat}:∀{at_ must acc},Fp l k at_ must acc=some res→EN l res k at_ must acc:=by
 induction k with
 |zero=>exact fun h=>nomatch h
 |succ k ih=>
  intro at_ must acc h
  refine Ag (Option.bind_eq_some_iff.mp h) fun m hs h=>?_
  by_cases hf:oc m.outcome=0
  ·rw[if_pos hf] at h
   have h:=gd h
   exact .fin hs (Oe.1 hf) h.1 (fun q=>(ed h.2).symm.trans (if_pos q)) fun q=>(ed h.2).symm.trans (if_neg q)
  ·rw[if_neg hf] at h
   have h:=gd h
   refine Ag (Option.bind_eq_some_iff.mp h.2) fun p hp h2=>?_
   have h2:=gd h2
   exact .go hs (Oe.2 h.1) (Tg hp) h2.1.1 h2.1.2.1 h2.1.2.2.1 h2.1.2.2.2.1 (fun q=>if_pos q) (fun q=>if_neg q) (ih h2.2)
def Mt (F:FM) (a:Addr) (l:List Nat) (b e:Nat):Prop:=∃o,F a=some o∧o.cls= .type "re.Match"∧o.dict= .none∧∃u lim li sp,o.data= .fields #[.str (tx l) u,.ref 268,rawInt 0,rawInt lim,rawInt li,.ref sp]∧∃o2,F sp=some o2∧o2.data= .seq #[rawInt b,rawInt e,rawInt b,rawInt e]
theorem AM.bi {id:String}{b:Builtin}(hb:entryFor table id=some b)
  (h:Run c (A.under (.builtin id args)) (b args) F V (fun fin F' V'=>match fin with| .done f=>∃v,f= .ret v∧Q v F' V'| .again k=>k.quiet=true∧AM c A k F' V' Q)):AM c A (.builtin id args) F V Q:=fun s S=>
 codeAny_builtin hb ((Run.fu h S fun fin s1 F1 V1 S1 q=>by
  induction fin with
  |done f=>obtain⟨v,rfl,q⟩:=q;exact⟨_,F1,V1,rfl,S1,v,rfl,q⟩
  |again k=>exact⟨q.1,q.2 s1 S1⟩))
theorem Run.By {Q:Unit→FM→Aa→Prop}(hl:Aj l (Ab vs) (Ab (vs++[v])) V V') (hs:vs.length≤100000) (h:Q () F V'):Run c A (updateSeq l (·.push v)) F V Q:=.mk fun s S=>by
 refine Exists.elim (BW hl.has S) fun n e=>?_
 exact wpAny_updateSeq e rfl (Ae F V' (S.Fr hl _ (List.push_toArray ..)) h) (by rw[eT,eY];exact eb ‹_› (d7 rfl)) (by rw[Array.size_push,eT,eY];exact ef ‹_› (d7 rfl))
theorem Run.Yr (hs:y.length≤100000) (h:∀t,Q (.str y t) F V):Run c A (mkStr y) F V Q:=.mk fun s S=>wpAny_mkStr (Ae F V ⟨S.own,S.base,S.gens,S.os⟩ (h _)) (by rw[eT];exact eb ‹_› (d7 rfl))
theorem a8 (l:List Nat) (b e:Nat):(⟨l.toArray.extract b e⟩:Str)=tx (sl l b e):=by
 refine(?_:Str.mk _=Str.mk _)
 rw[List.extract_toArray]
 rfl
theorem OZ (l:List Nat) (b e:Nat):(sl l b e).length≤l.length:=eb (List.length_take_le' _ _) (by rw[List.length_drop];exact Nat.sub_le ..)
theorem Run.H2 {l:List Nat}{e:Nat}(hs:l.length≤1000) (h:∀v,Ah v (sl l b e)→Q v F V):Run c A (reSlice l.toArray 0 b e) F V Q:=by
 refine(?_:Run c A (mkStr ⟨l.toArray.extract b e⟩) F V Q)
 rw[a8]
 exact Run.Yr (by have:=OZ l b e;rw[Av];exact eb ‹_› (eb ‹_› (d7 rfl))) fun t=>h _ ⟨t,rfl⟩
noncomputable def O8 (b e:Nat):Obj:={cls:=.type "tuple",data:=.seq #[rawInt b,rawInt e,rawInt b,rawInt e]}
noncomputable def NS (l:List Nat) (u:Tok) (lim:Nat) (li:Int) (sp:Addr):Obj:={cls:=.type "re.Match",data:=.fields #[.str (tx l) u,.ref 268,rawInt 0,rawInt lim,rawInt li,.ref sp]}
theorem Run.YE {l:List Nat}{m:Sre.M}{e lim:Nat}(hm:m.marks.toList=[some b,some e]) (h1:m.lastmark=1) (hb:b=m.start) (he:e=m.handed) (hbe:b≤e)
  (h:∀a sp li,Q (.ref a) F ((a,(·=NS l u lim li sp))::(sp,(·=O8 b e))::V)):Run c A (reNewMatch (.ref 268) (.str (tx l) u) 1 0 lim m) F V Q:=.mk fun s S=>by
 have hm':m.marks=#[some b,some e]:=Array.toList_inj.mp hm
 obtain⟨code,text,lim',start,lastStart,wholeText,mustAdvance,pc,pos,handed,outermost,marks,lastmark,lastindex,loops,inner,frames,weight,answer,seen,outcome⟩:=m
 subst hm' h1 hb he
 unfold reNewMatch
 dsimp only
 refine(if_neg (fun q=>by
  have q':(((decide (((2*0+1:Nat):Int)≤1)) && decide (e<b))||false)=true:=q
  rw[eV (by lia:¬e<b),Bool.and_false,Bool.or_false] at q'
  exact Bool.noConfusion q'))▸?_
 refine d8 (wpAny_newTuple ?_ (by rw[eT];exact d7 rfl))
 refine eD ?_ (by refine(?_:_≤sizeLine+2);rw[eT];exact d7 rfl)
 have S1:=S.push (P:=(·=O8 b e)) (k:=s.toks) rfl
 exact Ae F _ (S1.push (P:=(·=NS l u lim lastindex s.heap.objs.size)) (k:=s.toks) rfl) (h _ _ _)
theorem LA:entryFor table "re.Pattern.sub.loop"=some Builtin.«re.Pattern.sub.loop»:=entryFor_of_tree (by kernel_rfl)
def Hb (c:Cx) (A:Around) (F:FM) (la:Addr) (l:List Nat):Prop:=∀args F' V' b e mt,Le F F'→Mt F' mt l b e→Run c (A.under (.builtin "re.Pattern.sub.loop" args)) (PySem.call (.ref la) [.ref mt]) F' V' (fun v F'' V''=>Le F' F''∧Sb V' V''∧Ah v (92::sl l b e))
theorem L1 {l:List Nat}{acc:List (List Nat)}{K:Value→Sem PySem.Fin}{Q:PySem.Fin→FM→Aa→Prop}(hK:∀v,K v=ret v) (hl:l.length≤1000) (hvs:Af Ah vs acc) (hf:acc.flatten.length≤100000) (h:∀v,Ah v acc.flatten→Q (.done (.ret v)) F ((pl,Ab vs)::V)):
  Run c A (reSlice l.toArray 0 0 0>>=fun joiner=>seqItems? (.ref pl)>>=fun xs=>if (xs.getD #[]).isEmpty=true then(Pure.pure joiner>>=fun text=>K text) else(PySem.call (.builtin "str.join") [joiner,.ref pl]>>=fun text=>K text)) F ((pl,Ab vs)::V) Q:=by
 refine .bind (Run.H2 hl fun v qz=>BZ qz fun t hv=>.bind (m:=seqItems? (.ref pl)) (Q:=Q) fun s S=>?_)
 refine Exists.elim (BW (.head:Ad pl (Ab vs) _) S) fun n e=>?_
 refine wpAny_seqItems e rfl (Ae F _ S ?_)
 subst hv
 induction hvs with
 |nil=>
  refine Run.of_eq (show(if (((some (#[]:Array Value)).getD #[]).isEmpty)=true then(Pure.pure (Value.str (tx (sl l 0 0)) t)>>=fun text=>K text) else(PySem.call (.builtin "str.join") [Value.str (tx (sl l 0 0)) t,.ref pl]>>=fun text=>K text))=K (Value.str (tx (sl l 0 0)) t) from rfl) ?_
  rw[hK]
  refine .pure (h _ ⟨t,?_⟩)
  rw[show sl l 0 0=[] by simp[sl]]
  rfl
 |cons h1 h2=>
  refine Ag (Pj (Af.cons h1 h2)) fun ys e1 e=>?_
  rw[e1] at h⊢
  have e0:tx (sl l 0 0)=Str.ofString "":=by
   rw[show sl l 0 0=[] by simp[sl]];decide+kernel
  rw[if_neg (by rw[←e1];exact fun q=>Bool.noConfusion (show false=true from q))]
  refine .bind (Run.KT .head e (by rw[e0];exact Nn hf) fun k=>?_)
  rw[hK]
  exact .pure (h _ ⟨k,by rw[e0,No]⟩)
theorem Pk {l:List Nat}{m:Sre.M}{e:Nat}{X Z:Sem PySem.Fin}{Y:Value→Sem Value}{Q:PySem.Fin→FM→Aa→Prop}(hm:m.marks.toList=[some b,some e]) (h1:m.lastmark=1) (hb:b=m.start) (he:e=m.handed) (hbe:b≤e) (hv:vs.length≤100000)
  (cb:∀F' V' mt,Le F F'→Mt F' mt l b e→Run c A (PySem.call (.ref la) [.ref mt]) F' V' (fun v F'' V''=>Le F' F''∧Sb V' V''∧Ah v (92::sl l b e)))
  (h:∀v F',Le F F'→Ah v (92::sl l b e)→Run c A Z F' ((pl,Ab (vs++[v]))::V) Q):
  Run c A (if ((1:Int)==0)=true then X else(reNewMatch (.ref 268) (.str (tx l) u) 1 0 l.length m>>=fun found=>holding [found] (if ((1:Int)==1)=true then PySem.call (.ref la) [found] else Y found)>>=fun item=>if (item != .none)=true then(updateSeq pl (·.push item)>>=fun _=>Z) else Z)) F ((pl,Ab vs)::V) Q:=by
 rw[if_neg (by decide)]
 refine .bind (Run.YE hm h1 hb he hbe fun a sp li=>.bind (.holding ?_))
 rw[if_pos (by decide)]
 refine Run.freeze fun F1 o le1 ha hp=>Run.freeze fun F2 o2 le2 ha2 hp2=>?_
 subst hp;subst hp2
 refine(cb F2 _ a (Le.trans le1 le2) ⟨_,le2 _ _ ha,rfl,rfl,u,_,li,sp,rfl,_,ha2,rfl⟩).mono fun v F3 V3 qz=>Bj qz fun le3 sb hv'=>?_
 obtain⟨t,e⟩:=hv'
 refine e▸?_
 refine Run.fit sb.fit ?_
 rw[if_pos (by rfl)]
 exact .bind (Run.By .head hv (h _ F3 (Le.trans (Le.trans le1 le2) le3) ⟨t,rfl⟩))
theorem Hb.le {l:List Nat}(h:Hb c A F la l) (le:Le F F'):Hb c A F' la l:=fun args F1 V1 b e mt le1 hm=>h args F1 V1 b e mt (Le.trans le le1) hm
theorem Dl.le' (h:Dl F) (le:Le F F'):Dl F':=⟨h.1.imp fun o x=>⟨le _ _ x.1,x.2⟩,h.2.imp fun o x=>⟨le _ _ x.1,x.2⟩⟩
theorem cQ {l:List Nat}{at_:Nat}{must:Bool}{acc:List (List Nat)}(hl:l.length≤1000) (quiet:∀as:Args,(Code.builtin "re.Pattern.sub.loop" as).quiet=true) (hR:EN l res k at_ must acc):∀(n:Int) (F:FM) (vs:List Value) (V:Aa),
  Dl F→Hb c A F la l→Af Ah vs acc→acc.length+3*k≤1000→(∀v F' V',Le F F'→Sb V V'→Ah v res.flatten→Q v F' V')→
  AM c A (.builtin "re.Pattern.sub.loop" ⟨[.ref 268,.str (tx l) u,.ref la,rawInt 1,rawInt 0,rawInt n,rawInt at_,rawInt at_,.bool must,.ref pl,.bool false],[]⟩) F ((pl,Ab vs)::V) Q:=by
 induction hR with
 |fin hs ho hf h1 h2=>
  intro n F vs V hp cb hvs hk hQ
  have hvl:=hvs.len
  refine AM.bi LA (.bind (m:=reWholeTarget (.ref 268) (.str (tx l) u)) (Run.target hp (.bind (m:=reNextFound (tgt l u) _ _) (Run.next hs (Ak _ ho (.inr ⟨rfl,Run.ite (fun q=>?_) (fun q=>?_)⟩))))))
  ·exact .bind (Run.H2 hl fun v hv=>.bind (Run.By .head (by lia) (L1 (fun _=>rfl) hl (hvs.snoc hv) (eb hf (by decide)) fun v hv=>⟨v,rfl,hQ v F _ (Le.refl _) Sb.refl.skip (h1 q▸hv)⟩)))
  ·rw[List.flatten_append,eO] at hf
   exact L1 (fun _=>rfl) hl hvs (Iw ‹_› rfl) fun v hv=>⟨v,rfl,hQ v F _ (Le.refl _) Sb.refl.skip (h2 q▸hv)⟩
 |go hs ho hmk hlm hb he hbe h1 h2 hR ih=>
  intro n F vs V hp cb hvs hk hQ
  have hvl:=hvs.len
  refine AM.bi LA (.bind (m:=reWholeTarget (.ref 268) (.str (tx l) u)) (Run.target hp (.bind (m:=reNextFound (tgt l u) _ _) (Run.next hs (Ak _ ho (.inl ⟨rfl,Run.ite (fun q=>?_) (fun q=>?_)⟩))))))
  ·exact .bind (Run.H2 hl fun v hv=>.bind (Run.By .head (by lia) (Pk hmk hlm hb he hbe (by simp;lia) (fun F' V' mt le hm=>cb _ F' V' _ _ mt le hm) fun v2 F' le hv2=>.pure ⟨quiet _,ih _ _ _ _ (hp.le' le) (cb.le le) (Af.snoc (h1 q▸hvs.snoc hv) hv2) (by refine(h1 q)▸?_;simp;lia) fun v F2 V2 le2=>hQ v F2 V2 (le.trans le2)⟩)))
  ·exact Pk hmk hlm hb he hbe (by lia) (fun F' V' mt le hm=>cb _ F' V' _ _ mt le hm) fun v2 F' le hv2=>.pure ⟨quiet _,ih _ _ _ _ (hp.le' le) (cb.le le) (Af.snoc (h2 q▸hvs) hv2) (by refine(h2 q)▸?_;simp;lia) fun v F2 V2 le2=>hQ v F2 V2 (le.trans le2)⟩
end
section
open PySem PySem.W PySem.Calls PyProof.Rows PySem.Builtin PySem.Builtin.Re
theorem Zt:PlainAttrs "re.Pattern":=
 ⟨⟨"object.__getattribute__",by rw[eS,eR];kernel_rfl,by decide+kernel⟩,by rw[eS,eR];kernel_rfl⟩
theorem Zs:PlainAttrs "re.Match":=
 ⟨⟨"object.__getattribute__",by rw[eS,eR];kernel_rfl,by decide+kernel⟩,by rw[eS,eR];kernel_rfl⟩
theorem O3:Slot "re.Pattern" "sub" "re.Pattern.sub":=
 .of (owner:="re.Pattern") (n:="sub") (by rw[eS,eR];kernel_rfl) (by decide+kernel) (by decide+kernel) (by decide+kernel)
  (by first|exact .inl (by decide+kernel)|exact .inr (by decide+kernel)) (by rw[e6];kernel_rfl)
theorem dT:typeOf (.builtin "re.Pattern.sub")=Pure.pure (.type "method_descriptor"):=by refine(?_:builtinType _=_);rw[builtinType_eq_fast];kernel_rfl
theorem Tj:entryFor table "re.Pattern.sub"=some Builtin.«re.Pattern.sub»:=entryFor_of_tree (by kernel_rfl)
theorem PQ (a b c:Value):argsOk "re.Pattern.sub" ⟨[a,b,c],[]⟩:=by unfold argsOk;kernel_rfl
theorem O2:Slot "re.Match" "group" "re.Match.group":=
 .of (owner:="re.Match") (n:="group") (by rw[eS,eR];kernel_rfl) (by decide+kernel) (by decide+kernel) (by decide+kernel)
  (by first|exact .inl (by decide+kernel)|exact .inr (by decide+kernel)) (by rw[e6];kernel_rfl)
theorem dS:typeOf (.builtin "re.Match.group")=Pure.pure (.type "method_descriptor"):=by refine(?_:builtinType _=_);rw[builtinType_eq_fast];kernel_rfl
theorem Ti:entryFor table "re.Match.group"=some Builtin.«re.Match.group»:=entryFor_of_tree (by kernel_rfl)
theorem PO (a b:Value):argsOk "re.Match.group" ⟨[a,b],[]⟩:=by unfold argsOk;kernel_rfl
theorem X3:typeLookup (.type "function") "__call__"=Pure.pure (some (.builtin "function.__call__")):=by rw[eS,eR];kernel_rfl
theorem cT:isSubtype (.type "str") (.type "bytearray")=(Pure.pure false:Sem Bool):=by rw[e6];kernel_rfl
theorem OB (as:Args):(Code.builtin "re.Pattern.sub.loop" as).quiet=true:=Code.quiet_builtin _ (by decide+kernel)
theorem Yw (a b:Value):reNamed "re.Pattern.sub" "sub" ["repl","string","count"] 2 [a,b] []=Pure.pure [some a,some b,none]:=by rfl
end
section
open PySem PySem.W PySem.Calls PyProof.Rows PySem.Builtin PySem.Builtin.Re
theorem Zu:plainId "re.Pattern.sub.loop"=true:=by decide+kernel
theorem AM.KY {id:String}{self:Value}{rest:List Value}(slot:Slot T name id) (hT:∀s,St c F V s→s.TypeIs self T)
  (entry:entryFor table id=some B) (args:argsOk id ⟨self::rest,[]⟩) (h:Run c A.in1 (B ⟨self::rest,[]⟩) F V (fun fin F' V'=>match fin with| .done f=>∃v,f= .ret v∧Q v F' V'| .again k=>k.quiet=true∧AM c A k F' V' Q)):
  AM c A (.call (.builtin id) ⟨self::rest,[]⟩) F V Q:=fun s S=>
 codeAny_call_builtin slot.plain entry (slot.check _ _ _ _ _ _ _ _ (hT s S) args ((Run.fu h S fun fin s1 F1 V1 S1 q=>by
  induction fin with
  |done f=>obtain⟨v,rfl,q⟩:=q;exact⟨_,F1,V1,rfl,S1,v,rfl,q⟩
  |again k=>exact⟨q.1,q.2 s1 S1⟩)))
theorem Run.RH {l:List Nat}(hl:l.length≤1000) (hp:Dl F) (hfn:∃o,F la=some o∧o.cls= .type "function")
  (cb:∀F' V' b e mt,Le F F'→Mt F' mt l b e→Run c A.in1 (PySem.call (.ref la) [.ref mt]) F' V' (fun v F'' V''=>Le F' F''∧Sb V' V''∧Ah v (92::sl l b e)))
  (hs:Fp l 20 0 false []=some res) (h:∀F' v V',Le F F'→Sb V V'→Ah v res.flatten→Q v F' V'):Run c A (PySem.call (.builtin "re.Pattern.sub") [.ref 268,.ref la,.str (tx l) u]) F V Q:=by
 refine Run.call (AM.KY O3 (fun s S=>?_) Tj (PQ _ _ _) ?_)
 ·exact hp.1.elim fun o q=>⟨o,S.own.fro _ _ q.1,q.2.1⟩
 refine(?_:Run c A.in1 (reNamed "re.Pattern.sub" "sub" ["repl","string","count"] 2 [.ref la,.str (tx l) u] []>>=fun _=>_) F V _)
 rw[Yw]
 refine .bind (.pure ?_)
 refine .bind (.pure (.bind (m:=specialOf (.ref la) "__call__") fun s S=>?_))
 refine Ag (hfn) fun o ho hc=>?_
 refine wpAny_specialOf (Ak o (S.own.fro _ _ ho) hc) X3 (Ae F V S ?_)
 dsimp only[Option.isSome]
 rw[if_pos rfl]
 refine .bind (.pure ?_)
 rw[if_pos rfl]
 refine .bind (.pure (.bind (.holding (Run.target hp ?_))))
 refine Run.of_eq (if_pos (by rfl)) ?_
 refine .bind ?_
 dsimp only[reNotHeld]
 refine .bind (m:=isInstance (.str (tx l) u) (.type "bytearray")) fun s S=>wpAny_isInstance (typeIs_str _ _ _) cT (Ae F V S ?_)
 dsimp only
 rw[if_neg (by decide)]
 refine .pure (.bind (m:=newList []) fun s S=>wpAny_newList (Ae F _ ⟨S.push (P:=Ab []) (k:=s.toks) ⟨0,rfl⟩,S.tk⟩ ?_) (by rw[eT];decide))
 exact .pure ⟨OB _,cQ hl OB (EN.of hs) 0 F [] V hp (fun args F' V' b e mt le hm=>by rw[Around.under_plainId Zu];exact cb F' V' b e mt le hm) .nil (by decide) fun v F' V'=>h F' v V'⟩
end
section
open PySem PySem.W PySem.Calls PyProof.Rows PySem.Builtin PySem.Builtin.Re
theorem Run.RE {l:List Nat}{e:Nat}{mt:Addr}(hl:l.length≤1000) (hm:Mt F mt l b e) (h:∀v,Ah v (sl l b e)→Q v F V):Run c A (PySem.call (.builtin "re.Match.group") [.ref mt,.int 1 t]) F V Q:=by
 obtain⟨o,ho,hc, -,u,lim,li,sp,hd,o2,ho2,hd2⟩:=hm
 refine Run.call (AM.KY O2 (fun s S=>Ak o (S.own.fro _ _ ho) hc) Ti (PO _ _) ?_)
 refine .bind (.pure ?_)
 dsimp only
 refine .bind (.bind (m:=fieldsOf (.ref mt)) fun s S=>wpAny_fieldsOf (S.own.fro _ _ ho) hd (Ae F V S ?_))
 refine .bind (.bind (m:=seqItems? (.ref sp)) fun s S=>wpAny_seqItems (S.own.fro _ _ ho2) hd2 (Ae F V S (.pure (.pure ?_))))
 have hsp:Array.map reRawOf ((some #[rawInt b,rawInt e,rawInt b,rawInt e]).getD #[])=#[(b:Int),e,b,e]:=by simp[reRawOf,rawInt]
 refine(hsp)▸?_
 refine .bind (.bind ?_)
 refine(Run.pure (a:=some (1:Int)) ?_:Run c A.in1 (Pure.pure (some (1:Int))) F V _)
 dsimp only[Option.isSome]
 rw[if_pos rfl]
 refine .bind ?_
 refine(Run.pure (a:=(1:Int)) ?_:Run c A.in1 (Pure.pure (1:Int)) F V _)
 refine Run.of_eq (if_neg (show ¬(decide ((1:Int)<0)||decide ((2*1:Int)≥4))=true by decide)) ?_
 refine .pure (.bind ?_)
 refine(?_:Run c A.in1 (reGroupText {fields:=#[.str (tx l) u,.ref 268,rawInt 0,rawInt lim,rawInt li,.ref sp],spans:=#[(b:Int),e,b,e]} 1 .none) F V _)
 dsimp only[reGroupText]
 refine Run.of_eq (if_neg (show ¬(decide ((b:Int)<0)||decide ((e:Int)<0))=true by simp)) ?_
 refine .bind (m:=reTextOf (.str (tx l) u)) ((Run.pure (a:=(l.toArray,0)) ?_:Run c A.in1 (Pure.pure (l.toArray,0)) F V _))
 exact Run.H2 hl fun v hv=>.pure (Ak v rfl (h v hv))
end
theorem Ss {a b:Int}{c:Value}(l:List Value) (ht:TriplesOk l) (h:codeAmong pos (l++[rawInt a,rawInt b,c])=some cv):codeAmong pos l=some cv∨(a=pos.line∧b=pos.col∧cv=c):=by
 fun_induction TriplesOk l with
 |case1=>
  dsimp only[List.nil_append,codeAmong,rawInt] at h
  split at h
  ·rename_i hc
   have:=fi hc
   exact .inr ⟨eq_of_beq this.1,eq_of_beq this.2,(ed h).symm⟩
  ·contradiction
 |case2 x t y u z rest ih=>
  dsimp only[List.cons_append,codeAmong] at h⊢
  split at h
  ·rename_i hc;rw[if_pos hc];exact .inl h
  ·rename_i hc;rw[if_neg hc];exact ih ht h
 |case3 l h1 h2=>exact ht.elim
def Ea (F:FM) (cv:Value) (q:Str):Prop:=∃d od vs t,cv= .ref d∧F d=some od∧od.data= .fields vs∧vs[1]? =some (.str q t)
theorem Ea.le {F F' cv q:_}(x:Ea F cv q) (h:Le F F'):Ea F' cv q:=Ht (x) fun d od vs t a b r=>⟨d,od,vs,t,a,h _ _ b,r⟩
def tb (F:FM) (qs:Nat→Nat→Str) (o:Obj):Prop:=∃ps,o=tabObj ps∧TriplesOk ps.toList∧∀pos cv,codeAmong pos ps.toList=some cv→Ea F cv (qs pos.line pos.col)
theorem tb.le {F F' qs o:_}(x:tb F qs o) (h:Le F F'):tb F' qs o:=AX (x) fun ps a b k=>⟨ps,a,b,fun p cv e=>(k p cv e).le h⟩
theorem tb.snoc {ps:Array Value}{c:Addr}(ht:TriplesOk ps.toList) (hk:∀pos cv,codeAmong pos ps.toList=some cv→Ea F cv (qs pos.line pos.col)) (le:Le F F1) (rc:Ea F1 (.ref c) (qs pos.line pos.col)):tb F1 qs (tabObj (ps++#[rawInt pos.line,rawInt pos.col,.ref c])):=by
 refine AE _ rfl (by rw[Array.toList_append];exact TriplesOk_snoc _ _ _ _ ht) (fun p cv hc=>?_)
 rw[Array.toList_append] at hc
 rcases Ss _ ht hc with hc|⟨h1,h2,rfl⟩
 ·exact(hk p cv hc).le le
 ·simp only[←show pos.line=p.line from Int.ofNat.inj h1,←show pos.col=p.col from Int.ofNat.inj h2]
  exact rc
theorem Own.tabs {P c:Addr}{oc:Obj}(O:Own F ((P,tb F qs)::V) h) (hx:Heap.ExtBut P h h') (hsz:h.objs.size≤c) (htb:h'.get? P=some o) (hoc:h'.get? c=some oc):Own F ((c,(·=oc))::(P,(·=o))::V) h':=
 (O.putK (P':=(·=o)) .head hx (Ak _ htb rfl)).ins (P:=(·=oc)) (O.none (Heap.get?_none_of_le hsz)) (O.ne (Heap.get?_none_of_le hsz)) hoc rfl
def Eb (F:FM) (c P:Addr):Prop:=∃o,F c=some o∧∀h:Heap,h.get? c=some o→CodeHd h c P∧∀ps,h.get? P=some (tabObj ps)→TriplesOk ps.toList→h.IsCode c P ps∧h.TableAt c P ps
theorem Eb.at {c P:Addr}(x:Eb F c P) (k:∀a o,F a=some o→h.get? a=some o):CodeHd h c P∧∀ps,h.get? P=some (tabObj ps)→TriplesOk ps.toList→h.IsCode c P ps∧h.TableAt c P ps:=
 Ag (x) fun _ e r=>r h (k _ _ e)
def EK (F:FM) (mg:Str→Option Value) (P:Addr):Prop:=(∃o es ep,F mainGlobals=some o∧o.data= .dict es ep∧StrKeys es∧∀n,nsFind es n=mg n)∧
 ∃bm o,mg "__builtins__"=some (.ref bm)∧bm≠builtinsNs∧bm≠mainGlobals∧bm≠P∧F bm=some o∧o.cls= .type "module"∧o.dict=some builtinsNs∧o.data= .plain
theorem EK.at {P:Addr}(x:EK F mg P) (k:∀a o,F a=some o→h.get? a=some o):h.Ns mainGlobals mg∧h.BuiltinsAt mg P:=by
 obtain⟨⟨o,es,ep,e,r⟩,bm,ob,b1,b2,b3,b4,b5,b6⟩:=x
 exact⟨(CP o es ep (k _ _ e) r),bm,ob,b1,b2,b3,b4,k _ _ b5,b6⟩
def DH (F:FM) (a:Addr) (fd:FuncData):Prop:=(∃o,F a=some o∧o.cls= .type "function"∧o.data= .func fd)∧Ea F fd.code fd.qualname
theorem DH.le {F F' a fd:_}(x:DH F a fd) (h:Le F F'):DH F' a fd:=⟨Ag (x.1) fun o e r=>⟨o,h _ _ e,r⟩,x.2.le h⟩
theorem up.imp {α:Type}{Q:α→FM→Aa→Prop}{a:α}{b:Addr}(i:∀o,P o→P' o) (h:Internal.up Q a F ((b,P')::V)):Internal.up Q a F ((b,P)::V):=fun hp O=>h hp (O.imp i)
section
variable {body:Expr}{d P:Addr}{firstLine:Nat}{clos:List (Str×Addr)}
theorem Run.Yq (hcl:closureFor scope env=Pure.pure clos) (hge0:env.globals=mainGlobals) (hcode:env.code= .ref d) (C:Eb c.F0 d P) (G:EK c.F0 mg P) (hq:qs pos.line pos.col=qual)
  (h:∀F' a pm cv ctv,Le F F'→DH F' a (kla_fn name qual params body scope clos pm cv ctv)→Q (.ref a) F' ((P,tb F' qs)::V)):
  Run c A (makeFunction name qual params (.expr body) scope env [] [] [] pos firstLine) F ((P,tb F qs)::V) (Internal.up Q):=.mk fun s S=>by
 obtain⟨oP,hP,ps,rfl,ht,hk⟩:=S.own.get .head
 have base:∀a o,c.F0 a=some o→s.heap.get? a=some o:=fun a o e=>S.own.fro _ _ (S.base _ _ e)
 have⟨hg,hb⟩:=G.at base
 cases hf:codeAmong pos ps.toList with
 |some cv=>
  refine kla_makeFunctionHit hcl hge0 hg hcode (C.at base).1 hP ht hf hb fun ctv h' tk keep hsz=>?_
  refine Ae F _ ⟨((S.own.keep keep).push (P:=(·=({cls:=.type "function",data:=.func (kla_fn name qual params body scope clos ((mg "__name__").getD .none) cv ctv)}:Obj))) rfl),S.base,S.gens,S.os⟩ (up.AY fun F1 o le e ho=>?_)
  exact up.imp (fun o x=>tb.le x le) (up.one (h F1 _ _ _ _ le ⟨(AE _ (ho▸e) rfl rfl),hq▸(hk pos cv hf).le le⟩))
 |none=>
  have hgP:mainGlobals≠P:=fun q=>by
   have⟨⟨o,_,_,e,_⟩,_⟩:=G
   have:=S.base _ _ e
   simp only[q,(S.own.own _ (.head _)).1] at this
   contradiction
  refine kla_makeFunction hcl hge0 hg hcode (C.at base).1 hP ht hf hgP hb fun c' ctv h' tk hx hsz hlt qz htb=>E0 qz fun c2 oc vs t e2 hoc hd hv=>?_
  injection e2 with e2;subst e2
  refine Ae F _ ⟨(S.own.tabs hx hsz htb hoc).push (P:=(·=kla_obj name qual params body scope clos ((mg "__name__").getD .none) c' ctv)) rfl,S.base,S.gens,S.os⟩ (up.AY fun F1 o le e ho=>up.AY fun F2 o2 le2 e2 ho2=>?_)
  have rc:Ea F2 (.ref c') qual:=Ep c' _ vs t rfl (ho2▸e2) hd hv
  exact up.imp (P':=tb F2 qs) (fun o x=>x▸tb.snoc ht hk (Le.trans le le2) (hq▸rc)) (up.one (h F2 _ _ _ _ (Le.trans le le2) ⟨(AE _ (ho▸le2 _ _ e) rfl rfl),rc⟩))
end
theorem AM.Ja {R:Value→FM→Aa→Prop}(ks gs:List Str) (m:Fm)
  (rm:Rm (n+1) A) (fn:Fun c a fd) (hbind:bindArgs fd args=(Pure.pure binds:Sem _)) (hok:Fg fd ks (binds.map (·.1))=true) (hg:Cs fd gs=true) (hm:m=ks.map fun k=>(k,binds.reverse.lookup k))
  (h:∀L A' env ks,Rm n A'→Loc env L ks→Gv env→Gb env gs→env.code=fd.code→env.qual=fd.qualname++".<locals>."→Run c A' (execs (bodyOf fd) env) F ((L,Cq ks m)::V) (fin R)):
  AM c A (.call (.ref a) args) F V R:=
 AM.FN ks gs m rm fn (fun _ _=>.of_eq hbind) hok hg hm h
theorem RV.Ja (ks gs:List Str) (m:Sm) (rm:Rm (n+1) A) (fn:Fun (cx w os) a fd) (hbind:bindArgs fd args=(Pure.pure binds:Sem _)) (hok:Fg fd ks (binds.map (·.1))=true) (hg:Cs fd gs=true)
  (hm:m.map (·.1)=ks) (hv:EL m binds) (h:∀x:Cc,Ok x n gs→x.w=w→x.os=os→x.env.code=fd.code→x.env.qual=fd.qualname++".<locals>."→R x (bodyOf fd) F m V (fun f F' _ W=>En Q (BK f) F' W)):RV (cx w os) A (.call (.ref a) args) F V Q:=fun K=>
 AM.Ja ks gs _ rm fn hbind hok hg rfl fun L A' env ks' rm' lo gv gb hc hq=>by
  refine Run.fit (W:=(L,AJ ks' m)::(V++K)) (fun _ _ O=>O.imp fun o ho=>AJ.of (binds:=binds) ho hm hv.mem) ?_
  exact(h ⟨w,os,A',env,L,ks'⟩ ⟨rm',lo,gv,gb⟩ rfl rfl hc hq K _ Sb.refl).mono fun f F' V' ⟨le,m',W,sb,q⟩=>q.fin le sb
theorem AM.lam {R:Value→FM→Aa→Prop}{body:Expr}(ks gs:List Str) (m:Fm)
  (rm:Rm (n+1) A) (lm:DH F a fd) (hbody:fd.body= .expr body) (hgl:fd.globals=3) (hbl:fd.builtins=0) (hco:fd.scope.isCoroutine=false) (hgen:fd.scope.isGenerator=false) (hkind:fd.scope.kind= .function)
  (hbind:bindArgs fd args=(Pure.pure binds:Sem _)) (hok:Fg fd ks (binds.map (·.1))=true) (hg:Cs fd gs=true) (hm:m=ks.map fun k=>(k,binds.reverse.lookup k))
  (h:∀L A' env ks,Rm n A'→Loc env L ks→Gv env→Gb env gs→Run c A' (eval body env) F ((L,Cq ks m)::V) R):
  AM c A (.call (.ref a) args) F V R:=by
 have hnd:ks.Nodup:=by
  have:=(fi (fi (fi hok).1).1).2
  exact ee this
 have hal:∀x ∈ ks,fd.scope.names.lookup x=some .local∧(x==("__debug__":Str))=false:=fun x hx=>by
  have:=fk (fi (fi hok).1).2 x hx
  obtain⟨e1,e2⟩:=fi this
  exact⟨eq_of_beq e1,(Bool.not_eq_true' _).mp (e2)⟩
 have hin:∀x ∈ ks,fd.scope.names.lookup x=some .local:=fun x hx=>(hal x hx).1
 have hdb:∀x ∈ ks,(x==("__debug__":Str))=false:=fun x hx=>(hal x hx).2
 have hb:∀x ∈ binds,x.1 ∈ ks:=fun x hx=>by
  have:=fk (fi hok).2 x.1 (ew hx)
  exact List.contains_iff_mem.mp (this)
 obtain⟨⟨o,h1, -,h2⟩,d,ob,vs,t,e1,e2,e3,e4⟩:=lm
 intro s S
 have hcell:∀x ∈ fd.scope.names,x.2≠.cell:=fun x hx e=>by
  have:=fk (fi (fi (fi hok).1).1).1 x hx
  rw[e] at this
  exact absurd this (by decide)
 have lim:s.heap.NoLimit:=c.lim _ fun a o e=>S.own.fro _ _ (S.base _ _ e)
 have q:AM c A (.call (.ref a) args) F V R→_:=fun x=>x s S
 refine q ?_
 intro s S
 refine kla_callFunE (by have:=rm.1;refine(?_:A.depth<1000);exact CX ‹_› rfl) (S.own.fro _ _ h1) h2 hco hgen hbody (Ep d ob vs t e1 (S.own.fro _ _ e2) e3 e4) ?_
 simp only[hbind]
 refine d9 (wpAny_newFunctionEnv hcell (fun x hx=>hin _ (hb _ hx)) (fun h₀ hns hsb=>⟨(c.lim _ fun a o e=>S.own.fro _ _ (S.base _ _ e):s.heap.NoLimit).fresh _ hsb,?_⟩) hkind)
 have hkeep:∀b o,s.heap.get? b=some o→h₀.get? b=some o:=fun b o e=>hsb.extBut b o (eG (eE e)) (eg _ e)
 have lt:∀{a:Addr}{x:Obj},s.heap.get? a=some x→a≠s.heap.objs.size:=fun e=>eG (eE e)
 have S':St c F ((s.heap.objs.size,Cq ks m)::V) {s with heap:=h₀,toks:=s.toks+binds.length}:=by
  refine⟨⟨⟨fun a x e=>hkeep _ _ (S.own.fro a x e),fun p hp=>?_,?_⟩,S.base,S.gens,S.os⟩,ea S.tk (Nat.le_add_right ..)⟩
  ·rcases fj hp with rfl|hp
   ·refine Cm (hns) fun o' es ep g1 g2 g3 g4=>?_
    refine⟨?_,o',g1,?_,hnd,es,ep,g2,g3,fun p hp=>?_⟩
    ·cases e:F s.heap.objs.size with
     |none=>rfl
     |some x=>exact absurd rfl (lt (S.own.fro _ _ e))
    ·rw[hm,e8]
     exact List.map_id _
    ·rw[g4]
     rw[hm] at hp
     obtain⟨k, -,rfl⟩:=List.mem_map.mp hp
     rfl
   ·obtain⟨a,x,b,e⟩:=S.own.own p hp
    exact⟨a,x,hkeep _ _ b,e⟩
  ·rw[eP,List.nodup_cons]
   refine⟨fun hm'=>?_,S.own.nod⟩
   refine Ag (List.mem_map.mp hm') fun p hp' e=>?_
   obtain⟨-,x,b, -⟩:=S.own.own p hp'
   exact lt b e
 have:=h s.heap.objs.size _ (callEnv fd s.heap.objs.size a) ks (rm.deeper (callEnv fd s.heap.objs.size a)) ⟨hkind,hin,hdb,rfl⟩ ⟨hkind,hgl,hbl⟩ (Jj hg rfl) _ S'
 exact kla_codeExpr (ej this (fun v s' qz=>BH qz fun F' V' S'' k=>⟨_,F',V',rfl,S'',_,rfl,k⟩) fun _ _ e=>e.elim)
theorem RV.lam {body:Expr}(ks gs:List Str) (m:Sm)
  (rm:Rm (n+1) A) (lm:DH F a fd) (hbody:fd.body= .expr body) (hgl:fd.globals=3) (hbl:fd.builtins=0) (hco:fd.scope.isCoroutine=false) (hgen:fd.scope.isGenerator=false) (hkind:fd.scope.kind= .function)
  (hbind:bindArgs fd args=(Pure.pure binds:Sem _)) (hok:Fg fd ks (binds.map (·.1))=true) (hg:Cs fd gs=true) (hm:m.map (·.1)=ks) (hv:EL m binds)
  (h:∀x:Cc,Ok x n gs→x.w=w→x.os=os→Rx x F m V body Q):RV (cx w os) A (.call (.ref a) args) F V Q:=fun K=>
 AM.lam ks gs _ rm lm hbody hgl hbl hco hgen hkind hbind hok hg rfl fun L A' env ks' rm' lo gv gb=>by
  refine Run.fit (W:=(L,AJ ks' m)::(V++K)) (fun _ _ O=>O.imp fun o ho=>AJ.of (binds:=binds) ho hm hv.mem) ?_
  exact(h ⟨w,os,A',env,L,ks'⟩ ⟨rm',lo,gv,gb⟩ rfl rfl K _ Sb.refl).mono fun v F' V' ⟨le,W,sb,q⟩=>⟨le,W,(Sb.skip Sb.refl).trans sb,q⟩
theorem Rx.lam {body:Expr}{d P:Addr}{q0:Str}(ok:Ok x n gs) (hc:x.env.code= .ref d) (hq:x.env.qual=q0) (C:Eb x.fo.F0 d P) (G:EK x.fo.F0 mg P)
  (hqs:qs pos.line pos.col=q0++"<lambda>") {F1:FM}(hF:Le F1 F) (hV:Dm P (tb F1 qs) V V') (k:∀F' a pm cv ctv,Le F F'→DH F' a (kla_fn "<lambda>" (q0++"<lambda>") params body scope [] pm cv ctv)→Q (.ref a) F' ((P,tb F' qs)::V'))
  (hdef:autoParam (defaultsOf params x.env=([],[])) aR) (hcl:autoParam (closureFor scope x.env=Pure.pure []) aR):Rx x F m V (.Lambda params body scope pos) Q:=fun K Vf ft=>by
 have pm:(full x m (V++K)).Perm ((P,tb F1 qs)::full x m (V'++K)):=((hV.perm.append_right K).cons _).trans (.swap ..)
 refine .up (Run.fit (W:=(P,tb F qs)::full x m (V'++K)) (fun _ _ O=>(((Sb.perm pm.symm).trans ft).fit _ _ O).imp fun o y=>y.le hF) fun s S=>kla_eval hdef ?_)
 rw[hq]
 exact Run.Yq hcl ok.gv.gl hc C G hqs (fun F' a pm cv ctv le lm=>⟨le,(P,tb F' qs)::V',Sb.perm (.swap ..),k F' a pm cv ctv le lm⟩) s S
theorem Rx.NP {id:String}(pa:PlainAttrs T) (slot:Slot T name id) (ty:typeOf (.builtin id)=Pure.pure (.type "method_descriptor")) (h0:Ev x F m V e0 (.val (.ref a))) (ha:∃o,F a=some o∧o.cls= .type T∧o.dict= .none)
  (h1:Rx x F m V e1 Q1) (k:∀v F' W,Le F F'→Q1 v F' W→Ev x F' m W e2 s2∧∀u,s2.ok (some u)→RC x.fo x.A (PySem.call (.builtin id) [.ref a,v,u]) F' W Q)
  (hn1:autoParam (notStar e1=true) aR) (hn2:autoParam (notStar e2=true) aR) (hbase:autoParam (attributeBase e0 name x.env (eval e0 x.env)=eval e0 x.env) aU)
  (hfew:autoParam (((backTo pos (starEach [e1,e2] x.env)).all (fun x=> !x.1) && (backToKw pos (keywordEach [] x.env)).all (fun x=>x.1.isSome) && decide ([e1,e2].length+([]:List Keyword).length+(if ([]:List Keyword).isEmpty then 0 else 1)<30))=true) aU)
  (hline:autoParam ((apos.endLine==pos.line)=true) aU):Rx x F m V (.Call (.Attribute e0 name apos) [e1,e2] [] pos) Q:=.ki fun K Vf Q' ft kk=>.Es (h0.kV ft fun V1 f1=>AX ha fun o ho hc hd=>⟨T,id,pa,slot,ty,fun s S=>⟨⟨o,S.own.fro _ _ ho,hc⟩,fun a' e=>by injection e with e;subst e;exact⟨o,S.own.fro _ _ ho,hd⟩⟩,
 Run.Dp (Run.AL (h1.fu f1 fun v F2 V2 W le f2 q=>Run.AL ((k v F2 W le q).1.fu f2 fun V3 u f3 o3=>Run.A0 (((k v F2 W le q).2 u o3).go le f3 kk)) (AD hn2)) (AD hn1)) (AD hn1) (by rw[AD hn2];rfl)⟩) hbase hfew hline
theorem Rm.in1 {n A:_}(h:Rm (n+1) A):Rm n A.in1:=⟨by have:=h.1;refine(?_:A.depth+n≤900);exact ec ‹_›,by have:=h.2.1;refine(?_:A.units+1+10*n≤9000);lia,h.2.2⟩
theorem Rx.Ym {id:String}(pa:PlainAttrs T) (slot:Slot T name id) (ty:typeOf (.builtin id)=Pure.pure (.type "method_descriptor")) (h0:Ev x F m V e0 (.val (.ref a))) (ha:∃o,F a=some o∧o.cls= .type T∧o.dict= .none)
  (h1:Ev x F m V e1 s1) (k:∀u,s1.ok (some u)→RC x.fo x.A (PySem.call (.builtin id) [.ref a,u]) F V Q)
  (hn1:autoParam (notStar e1=true) aR) (hbase:autoParam (attributeBase e0 name x.env (eval e0 x.env)=eval e0 x.env) aU)
  (hfew:autoParam (((backTo pos (starEach [e1] x.env)).all (fun x=> !x.1) && (backToKw pos (keywordEach [] x.env)).all (fun x=>x.1.isSome) && decide ([e1].length+([]:List Keyword).length+(if ([]:List Keyword).isEmpty then 0 else 1)<30))=true) aU)
  (hline:autoParam ((apos.endLine==pos.line)=true) aU):Rx x F m V (.Call (.Attribute e0 name apos) [e1] [] pos) Q:=.ki fun K Vf Q' ft kk=>.Es (h0.kV ft fun V1 f1=>AX ha fun o ho hc hd=>⟨T,id,pa,slot,ty,fun s S=>⟨⟨o,S.own.fro _ _ ho,hc⟩,fun a' e=>by injection e with e;subst e;exact⟨o,S.own.fro _ _ ho,hd⟩⟩,
 Run.Dp (Run.AL (h1.fu f1 fun V2 v f2 o2=>Run.A0 ((k v o2).go (Le.refl _) f2 kk)) (AD hn1)) (AD hn1) rfl⟩) hbase hfew hline
section
variable {x0:Str}
theorem Run.Sy {Q:List Value→FM→Aa→Prop}(h:∀u v:Tok,u≠0→v≠0→u≠v→Q [.str y u,.str z v] F V):Run c A (spliced (backTo pos (starEach [.Constant (.str y) k1 p1,.Constant (.str z) k2 p2] env))) F V Q:=.mk fun s S=>by
 refine wpAny_items_cons (wpAny_Constant_str (wpAny_items_cons (wpAny_Constant_str (wpAny_items_nil ⟨F,V,⟨S.own,S.base,S.gens,S.os⟩,h s.toks (s.toks+1) ?_ ?_ ?_⟩)) rfl)) rfl
 ·exact eF (S.tk)
 ·exact Nat.succ_ne_zero _
 ·exact eG (ey _)
theorem Run.Rk {v:Tok}(hu:u≠0) (hv:v≠0) (huv:u≠v) (hyz:(y==z)=false) (hb:x0.length+(x0.length+1)*z.length≤16777216) (h:∀t,Q (.str (Txt.replace x0 y z) t) F V):
  Run c A (PySem.call (.builtin "str.replace") [.str x0 t,.str y u,.str z v]) F V Q:=.mk fun s S=>PySem.SC.replace hu hv huv hyz hb fun t' k=>⟨F,V,⟨S.own,S.base,S.gens,S.os⟩,h t'⟩
end
theorem Bz.str (hy:y.length≤100000):Bz (.str y) ((y.length:Int) !=0):=by
 rintro c A F V _ Q ⟨t,⟨⟩⟩ h
 exact .mk fun s S=>PySem.P.truthy_str (by lia) ⟨F,V,⟨S.own,S.base,S.gens,S.os⟩,h⟩
section
variable {x0:Str}
theorem Ev.replace (h0:Ev x F m V e0 (.str x0)) (hyz:(y==z)=false) (hb:x0.length+(x0.length+1)*z.length≤16777216) (hbase:autoParam (attributeBase e0 (Str.ofString "replace") x.env (eval e0 x.env)=eval e0 x.env) aU)
  (hline:autoParam ((apos.endLine==pos.line)=true) aU):Ev x F m V (.Call (.Attribute e0 (Str.ofString "replace") apos) [.Constant (.str y) k1 p1,.Constant (.str z) k2 p2] [] pos) (.str (Txt.replace x0 y z)):=fun K Vf ft=>by
 refine .Es ((h0 K Vf ft).mono fun v F1 V1 ⟨a1,f1,u,o1⟩=>?_) hbase (by with_unfolding_all rfl) hline
 refine a1▸?_;obtain rfl:=ed o1
 refine Run.Fb (t:=fun i=>callWith pos (.builtin i) [.str x0 u] (backTo pos (starEach [.Constant (.str y) k1 p1,.Constant (.str z) k2 p2] x.env)) []) PySem.F.slot_str_replace PySem.F.type_str_replace (Run.Dp (Run.Sy fun u1 u2 q1 q2 q3=>?_) rfl rfl)
 exact Run.Rk q1 q2 q3 hyz hb fun t=>⟨rfl,f1,t,rfl⟩
theorem Ev.Zi (h1:Ev x F m V e1 (.str y)) (h2:Ev x F m V e2 (.str z)) (hy:y.length≤100000) (hz:y.length=0→z=y):Ev x F m V (.BoolOp .Or [e1,e2] p) (.str y):=fun K Vf ft=>
 .Zg ((h1 K Vf ft).mono fun v _ V1 ⟨a,f,d⟩=>by
  rw[a]
  refine Bz.str hy _ _ _ _ _ _ d ⟨fun q=>⟨rfl,f,d⟩,fun q=>(h2 K V1 f).mono fun v2 _ V2 ⟨a,f2,d2⟩=>?_⟩
  refine a▸?_
  have:y.length=0:=by
   have:=q
   simp at this
   exact this
  rw[hz this] at d2
  exact⟨rfl,f2,d2⟩)
end
noncomputable def KZ:Arguments:={posonlyargs:=[],args:=[{arg:="_m",annotation:=none,pos:=⟨484,46,484,48⟩}],vararg:=none,kwonlyargs:=[],kw_defaults:=[],kwarg:=none,defaults:=[]}
noncomputable def II:Expr:=.BinOp (.Constant (.str "\\") 0 ⟨484,50,484,54⟩) .Add (.BoolOp .Or [.Call (.Attribute (.Name "_m" ⟨484,58,484,60⟩) "group" ⟨484,58,484,66⟩) [.Constant (.int 1) 0 ⟨484,67,484,68⟩] [] ⟨484,58,484,69⟩,.Constant (.str "") 0 ⟨484,73,484,75⟩] ⟨484,58,484,75⟩) ⟨484,50,484,76⟩
noncomputable def K0:Scope:={kind:=.function,names:=[("_m",.local)],isGenerator:=false,isCoroutine:=false,more:=[]}
theorem RM {l:List Nat}{e:Nat}{mt:Addr}{q:Str}(rm:Rm (n+1) A) (lm:DH F la (kla_fn "<lambda>" q KZ II K0 [] pm cv ctv)) (hm:Mt F mt l b e) (hl:l.length≤1000) (h:∀v,Ah v (92::sl l b e)→Q v F V):RV (cx w os) A (.call (.ref la) ⟨[.ref mt],[]⟩) F V Q:=by
 refine RV.lam ["_m"] [] [("_m",.val (.ref mt))] rm lm (body:=II) rfl rfl rfl rfl rfl rfl (binds:=[("_m",.ref mt)]) rfl (by kernel_rfl) (by kernel_rfl) (by rfl) ⟨rfl,trivial⟩ ?_
 rintro x ok - -
 have hsl:=OZ l b e
 refine Rx.ev (s:=.str (tx (92::sl l b e))) (Ev.bin (Ev.Bc (l:=[92]) (by decide+kernel)) (Ev.Zi (y:=tx (sl l b e)) (Ev.rx fun Q hQ=>?_) (z:=tx []) (Ev.Bc (by decide+kernel)) (by rw[Av];exact eb ‹_› (eb ‹_› (d7 rfl))) (fun h0=>?_)) (Aq.B7 (by decide) (eb ‹_› (eb ‹_› (d7 rfl))))) fun v hv=>h v (.of hv)
 ·have⟨o,ho,hc,hd,_⟩:=hm
  refine Rx.Ym Zs O2 dS (.nm ok has0) ⟨o,ho,hc,hd⟩ (s1:=.int 1) .int fun u qz=>BZ qz fun t hu=>?_
  cases hu
  exact fun K=>Run.RE hl hm fun v hv=>⟨Le.refl _,V,Sb.refl,hQ v hv.ok⟩
 ·rw[Av] at h0
  rw[List.eq_nil_of_length_eq_zero h0]
section
open PySem PySem.W PySem.Calls PyProof.Rows PySem.Builtin.Re
theorem Lh:Eb (cx w os:_).F0 293 289:=
 ⟨Hx fc,by kernel_rfl,fun _ g=>⟨⟨_,_,_,_,_,_,_,_,_,g,rfl,rfl,rfl,rfl,rfl,rfl,rfl,rfl,by decide⟩,fun _ p t=>⟨⟨_,_,_,_,_,_,_,_,_,_,g,rfl,rfl,rfl,rfl,rfl,rfl,p,rfl,t,by decide⟩,⟨_,_,g,rfl,rfl,rfl⟩,p⟩⟩⟩
noncomputable def Yp (w:World):Str→Option Value:=fun n=>nsFind (BC (DA w.params)) n
theorem JJ (P:Addr) (h:(4:Nat)≠P):EK (cx w os).F0 (Yp w) P:=
 ⟨⟨DA w.params,BC (DA w.params),_,by kernel_rfl,rfl,Ji w,fun _=>rfl⟩,4,Od,by kernel_rfl,by decide,by decide,h,by kernel_rfl,rfl,rfl,rfl⟩
theorem Zn:Dl (cx w os:_).F0:=⟨⟨o268v0,by kernel_rfl,rfl,_,_,_,_,rfl⟩,Oc,by kernel_rfl,_,_,rfl,by kernel_rfl⟩
theorem Zo:∃o, (cx w os).F0 268=some o∧o.cls= .type "re.Pattern"∧o.dict= .none:=⟨o268v0,by kernel_rfl,rfl,rfl⟩
end
section
open PySem PySem.W PySem.Calls PyProof.Rows PySem.Builtin.Re
theorem Dl.le {F F':_}(x:Dl F) (h:Le F F'):Dl F':=⟨x.1.imp fun o y=>⟨h _ _ y.1,y.2⟩,x.2.imp fun o y=>⟨h _ _ y.1,y.2⟩⟩
noncomputable def AV:Nat→Nat→Str:=fun l _=>if l=484 then Str.ofString "_translate.<locals>."++Str.ofString "<lambda>" else Str.ofString "_translate.<locals>."++Str.ofString "<genexpr>"
theorem Rx.base (h:Le x.fo.F0 F→Rx x F m V e Q):Rx x F m V e Q:=fun K Vf ft s S=>h S.base K Vf ft s S
theorem cS {l:List Nat}{p3:Pos}(ok:Ok x (n+2) gs) (hc:x.env.code= .ref 293) (hq:x.env.qual=Str.ofString "_translate.<locals>.") (hgs:Str.ofString "_twin_re_1" ∈ gs) (hst:Ad (Str.ofString "stuff") (.str (tx l)) m) (hl:l.length≤1000)
  {F1:FM}(hF:Le F1 F) (hV:Dm 289 (tb F1 AV) V V') (hs:Fp l 20 0 false []=some res) (hp:(p2.endLine==p5.line)=true) (h:∀v F1 F',Le F F'→Le F1 F'→Ah v res.flatten→Q v F' ((289,tb F1 AV)::V'))
  (hb:autoParam (attributeBase (.Name (Str.ofString "_twin_re_1") p1) (Str.ofString "sub") x.env (eval (.Name (Str.ofString "_twin_re_1") p1) x.env)=eval (.Name (Str.ofString "_twin_re_1") p1) x.env) aU):
  Rx x F m V (.Call (.Attribute (.Name (Str.ofString "_twin_re_1") p1) (Str.ofString "sub") p2) [.Lambda KZ II K0 ⟨484,39,484,76⟩,.Name (Str.ofString "stuff") p4] [] p5) Q:=
 .base fun hbase=>Rx.NP (s2:=.str (tx l)) Zt O3 dT (Ev.gl ok hgs Vi) (Zo.imp fun o y=>⟨hbase _ _ y.1,y.2⟩)
  (Rx.lam ok hc hq Lh (JJ 289 (by decide)) (qs:=AV) rfl hF hV fun F' a pm cv ctv le lm=>⟨Ev.nm ok hst,fun u hu=>hu.elim fun t hu=>ed hu▸fun K=>Run.RH hl ((Zn.le hbase).le le) (lm.1.imp fun o y=>⟨y.1,y.2.1⟩)
   (fun F2 V2 b e mt le2 hm=>Run.call (RV.to (RM (n:=n) (w:=x.w) (os:=x.os) (V:=[]) ok.rm.in1 (lm.le le2) hm hl fun v hv V3 sb=>⟨Le.refl _,sb,hv⟩))) hs fun F2 v V2 le2 sb hv=>⟨le2,(289,tb F' AV)::V',sb,h v F' F2 (Le.trans le le2) le2 hv⟩⟩) (fun _ _ _ _ q=>q) (by rfl) (by rfl) hb (by with_unfolding_all rfl) hp
end
theorem RL:TypeCalled "object" "object.__new__" "object.__init__" where
 notType:=by decide
 canCreate:=by decide+kernel
 mro:=⟨.type "object",[],by kernel_rfl⟩
 made:=madeBy_type (c:=.type "object") (tl:=[]) (by kernel_rfl) (by rw[eS,eR];kernel_rfl) (by decide+kernel)
 plain:=by decide+kernel
 sub:=by rw[e6];kernel_rfl
 init:=.of (owner:="object") (n:="__init__") (by rw[eS,eR];kernel_rfl) (by decide+kernel) (by decide+kernel) (by decide+kernel)
  (by first|exact .inl (by decide+kernel)|exact .inr (by decide+kernel)) (by rw[e6];kernel_rfl)
theorem Y3:Builtin.«object.__new__» ⟨[.type "object"],[]⟩=(newObj (.type "object") .plain .none>>=fun v=>ret v):=by kernel_rfl
theorem Y2:Meets (Builtin.«object.__new__» ⟨[.type "object"],[]⟩) (fun _ R s=>R (.ok (.ret (.ref s.heap.objs.size))) {s with heap:=s.heap.push {cls:=.type "object",data:=.plain}}):=by
 refine Meets.of_wp fun prog w A R s hs=>?_
 rw[Y3]
 exact d8 (eD (d9 ⟨_,rfl,hs⟩) (by exact True.intro))
theorem Y1 (a:Addr):Meets (Builtin.«object.__init__» ⟨[.ref a],[]⟩) (fun _ R s=>R (.ok (.ret .none)) s):=
 Meets.of_wp fun prog w A R s hs=>d9 ⟨_,rfl,hs⟩
def G2 (o:Obj):Prop:=o={cls:=.type "object",data:=.plain}
theorem Run.JO (h:∀a,Q (.ref a) F ((a,G2)::V)):Run c A (PySem.call (.type "object") []) F V Q:=.mk fun s S=>by
 refine callType_meets (Q₁:=fun obj s₁=>obj= .ref s.heap.objs.size∧s₁={s with heap:=s.heap.push {cls:=.type "object",data:=.plain}}) RL (by kernel_rfl) (by kernel_rfl) (entryFor_of_tree (by kernel_rfl)) PySem.F.entry_object_init Y2 ⟨rfl,rfl⟩ fun obj s₁ ⟨e1,e2⟩=>?_
 subst e1;subst e2
 refine⟨⟨_,em _ rfl,rfl⟩,by unfold argsOk;kernel_rfl,_,Y1 _,rfl,F,_,S.push (P:=G2) (k:=s.toks) rfl,h _⟩
theorem Rx.JO (ok:Ok x n gs) (hx:Str.ofString "object" ∈ gs) (h:∀a,Q (.ref a) F ((a,G2)::V)):Rx x F m V (.Call (.Name (Str.ofString "object") p) [] [] pos) Q:=
 Rx.Pv ok hx Vt fun K=>Run.JO fun a=>⟨Le.refl _,(a,G2)::V,Sb.refl,h a⟩
section
open PySem PySem.W
noncomputable def H6 (f:Nat→List Nat) (l:List Nat):List Nat:=l.flatMap f
noncomputable def RA (d:Nat):List Nat:=if d=92 then[92,92] else[d]
noncomputable def IF (d:Nat):List Nat:=if d=92 then[92,92] else if d=45 then[92,45] else[d]
noncomputable def Cg:List Nat→List Nat
 |[c,45,d]=>H6 IF [c]++[45]++H6 IF [d]
 |l=>if 45 ∈ l then H6 IF l else H6 RA l
noncomputable def Ch (l:List Nat):List Nat:=((Fp (Cg l) 20 0 false []).getD []).flatten
noncomputable def De:List Nat→List Nat
 |33::r=>94::r
 |c::r=>if c=94∨c=91 then 92::c::r else c::r
 |[]=>[]
noncomputable def Ao:List Nat→List Nat
 |[c]=>E3 c
 |l=>[91]++De (Ch (l.tail.dropLast))++[93]
noncomputable def CV:List (List Nat):=["ab","*?","[-","]^","\\&","|~",".#"].map fun s=>s.toList.map Char.toNat
end
section
open PySem PySem.W
def stepOk (p:List Nat) (it:Bool×List (Nat×Nat)):Prop:=∀f its rest,3≤rest.length→B3 (f+1) its (p++rest)=B3 f (its++[it]) rest
theorem AB {p:List Nat}{it:Bool×List (Nat×Nat)}(hp:0<p.length) (h:∀f its rest,(match p++rest with
  |[]=>none
  |c::r'=>if ((p++rest).take 6==[40,63,62,46,42,63])=true∨((p++rest).take 2==[46,42])=true∨(c==41)=true∨(c==46)=true then none
   else if (c==91)=true then(match FV r' with|none=>none|some (it,r'')=>B3 f (its++[it]) r'')
   else if c ∈ [94,36,42,43,63,123,125,124,40] then none
   else match DB (p++rest) with|none=>none|some (d,r'')=>B3 f (its++[(false,[(d,d)])]) r'')=B3 f (its++[it]) rest):stepOk p it:=fun f its rest hr=>by
 exact Eq.trans (if_neg (c:=(p++rest).length≤3) (by rw[eO];lia)) (h f its rest)
end
section
open PySem PySem.W
theorem bx:stepOk [97] (false,[(97,97)]):=AB (by decide) fun f its rest=>by rfl
theorem bz:stepOk [91,97,93] (false,[(97,97)]):=AB (by decide) fun f its rest=>by rfl
theorem bI:stepOk [91,94,98,93] (true,[(98,98)]):=AB (by decide) fun f its rest=>by rfl
theorem bS:stepOk [91,97,45,97,93] (false,[(97,97)]):=AB (by decide) fun f its rest=>by rfl
theorem cg:stepOk [98] (false,[(98,98)]):=AB (by decide) fun f its rest=>by rfl
theorem cD:stepOk [91,98,93] (false,[(98,98)]):=AB (by decide) fun f its rest=>by rfl
theorem cG:stepOk [91,94,97,93] (true,[(97,97)]):=AB (by decide) fun f its rest=>by rfl
theorem cH:stepOk [91,98,45,98,93] (false,[(98,98)]):=AB (by decide) fun f its rest=>by rfl
theorem Ph:stepOk [91,42,93] (false,[(42,42)]):=AB (by decide) fun f its rest=>by rfl
theorem cI:stepOk [91,94,63,93] (true,[(63,63)]):=AB (by decide) fun f its rest=>by rfl
theorem bA:stepOk [91,42,45,42,93] (false,[(42,42)]):=AB (by decide) fun f its rest=>by rfl
theorem Pe:stepOk [91,63,93] (false,[(63,63)]):=AB (by decide) fun f its rest=>by rfl
theorem bB:stepOk [91,94,42,93] (true,[(42,42)]):=AB (by decide) fun f its rest=>by rfl
theorem bC:stepOk [91,63,45,63,93] (false,[(63,63)]):=AB (by decide) fun f its rest=>by rfl
theorem Pf:stepOk [91,92,91,93] (false,[(91,91)]):=AB (by decide) fun f its rest=>by rfl
theorem bD:stepOk [91,94,92,45,93] (true,[(45,45)]):=AB (by decide) fun f its rest=>by rfl
theorem bE:stepOk [91,92,91,45,91,93] (false,[(91,91)]):=AB (by decide) fun f its rest=>by rfl
theorem bF:stepOk [92,45] (false,[(45,45)]):=AB (by decide) fun f its rest=>by rfl
theorem bG:stepOk [91,92,45,93] (false,[(45,45)]):=AB (by decide) fun f its rest=>by rfl
theorem bH:stepOk [91,94,91,93] (true,[(91,91)]):=AB (by decide) fun f its rest=>by rfl
theorem bJ:stepOk [91,92,45,45,92,45,93] (false,[(45,45)]):=AB (by decide) fun f its rest=>by rfl
theorem bK:stepOk [92,93] (false,[(93,93)]):=AB (by decide) fun f its rest=>by rfl
theorem Pg:stepOk [91,93,93] (false,[(93,93)]):=AB (by decide) fun f its rest=>by rfl
theorem bL:stepOk [91,94,94,93] (true,[(94,94)]):=AB (by decide) fun f its rest=>by rfl
theorem bM:stepOk [92,94] (false,[(94,94)]):=AB (by decide) fun f its rest=>by rfl
theorem bN:stepOk [91,92,94,93] (false,[(94,94)]):=AB (by decide) fun f its rest=>by rfl
theorem bO:stepOk [91,94,93,93] (true,[(93,93)]):=AB (by decide) fun f its rest=>by rfl
theorem bP:stepOk [91,92,94,45,94,93] (false,[(94,94)]):=AB (by decide) fun f its rest=>by rfl
theorem bQ:stepOk [92,92] (false,[(92,92)]):=AB (by decide) fun f its rest=>by rfl
theorem bR:stepOk [91,92,92,93] (false,[(92,92)]):=AB (by decide) fun f its rest=>by rfl
theorem bT:stepOk [91,94,92,38,93] (true,[(38,38)]):=AB (by decide) fun f its rest=>by rfl
theorem bU:stepOk [91,92,92,45,92,92,93] (false,[(92,92)]):=AB (by decide) fun f its rest=>by rfl
theorem bV:stepOk [92,38] (false,[(38,38)]):=AB (by decide) fun f its rest=>by rfl
theorem bW:stepOk [91,92,38,93] (false,[(38,38)]):=AB (by decide) fun f its rest=>by rfl
theorem bX:stepOk [91,94,92,92,93] (true,[(92,92)]):=AB (by decide) fun f its rest=>by rfl
theorem bY:stepOk [91,92,38,45,92,38,93] (false,[(38,38)]):=AB (by decide) fun f its rest=>by rfl
theorem bZ:stepOk [92,124] (false,[(124,124)]):=AB (by decide) fun f its rest=>by rfl
theorem b0:stepOk [91,92,124,93] (false,[(124,124)]):=AB (by decide) fun f its rest=>by rfl
theorem b9:stepOk [91,94,92,126,93] (true,[(126,126)]):=AB (by decide) fun f its rest=>by rfl
theorem cf:stepOk [91,92,124,45,92,124,93] (false,[(124,124)]):=AB (by decide) fun f its rest=>by rfl
theorem ci:stepOk [92,126] (false,[(126,126)]):=AB (by decide) fun f its rest=>by rfl
theorem cj:stepOk [91,92,126,93] (false,[(126,126)]):=AB (by decide) fun f its rest=>by rfl
theorem ck:stepOk [91,94,92,124,93] (true,[(124,124)]):=AB (by decide) fun f its rest=>by rfl
theorem cq:stepOk [91,92,126,45,92,126,93] (false,[(126,126)]):=AB (by decide) fun f its rest=>by rfl
theorem cr:stepOk [92,46] (false,[(46,46)]):=AB (by decide) fun f its rest=>by rfl
theorem cu:stepOk [91,46,93] (false,[(46,46)]):=AB (by decide) fun f its rest=>by rfl
theorem cz:stepOk [91,94,35,93] (true,[(35,35)]):=AB (by decide) fun f its rest=>by rfl
theorem cA:stepOk [91,46,45,46,93] (false,[(46,46)]):=AB (by decide) fun f its rest=>by rfl
theorem cB:stepOk [92,35] (false,[(35,35)]):=AB (by decide) fun f its rest=>by rfl
theorem cC:stepOk [91,35,93] (false,[(35,35)]):=AB (by decide) fun f its rest=>by rfl
theorem cE:stepOk [91,94,46,93] (true,[(46,46)]):=AB (by decide) fun f its rest=>by rfl
theorem cF:stepOk [91,35,45,35,93] (false,[(35,35)]):=AB (by decide) fun f its rest=>by rfl
theorem bw:∀al ∈ CV,∀c ∈ al,∀f ∈ ([0,1,2,3]:List Int),∃it,stepOk (Ao (An al f c)) it∧(al.all fun d=>((it.2.any fun p=>decide (p.1≤d) && decide (d≤p.2)) !=it.1)==(d==c))=true∧it.2.length≤20:=by
 intro al ha c hc f hf
 rw[show CV=[[97,98],[42,63],[91,45],[93,94],[92,38],[124,126],[46,35]] from by decide+kernel] at ha
 simp only[List.mem_cons,List.not_mem_nil,or_false] at ha hf
 rcases ha with rfl|rfl|rfl|rfl|rfl|rfl|rfl
 ·simp only[List.mem_cons,List.not_mem_nil,or_false] at hc
  rcases hc with rfl|rfl
  ·rcases hf with rfl|rfl|rfl|rfl
   ·exact⟨(false,[(97,97)]),(show Ao (An [97,98] 0 97)=[97] from by decide+kernel).symm▸bx,by decide+kernel,by decide⟩
   ·exact⟨(false,[(97,97)]),(show Ao (An [97,98] 1 97)=[91,97,93] from by decide+kernel).symm▸bz,by decide+kernel,by decide⟩
   ·exact AE (true,[(98,98)]) ((show Ao (An [97,98] 2 97)=[91,94,98,93] from by decide+kernel).symm▸bI) (by decide+kernel) (by decide)
   ·exact⟨(false,[(97,97)]),(show Ao (An [97,98] 3 97)=[91,97,45,97,93] from by decide+kernel).symm▸bS,by decide+kernel,by decide⟩
  ·rcases hf with rfl|rfl|rfl|rfl
   ·exact⟨(false,[(98,98)]),(show Ao (An [97,98] 0 98)=[98] from by decide+kernel).symm▸cg,by decide+kernel,by decide⟩
   ·exact⟨(false,[(98,98)]),(show Ao (An [97,98] 1 98)=[91,98,93] from by decide+kernel).symm▸cD,by decide+kernel,by decide⟩
   ·exact AE (true,[(97,97)]) ((show Ao (An [97,98] 2 98)=[91,94,97,93] from by decide+kernel).symm▸cG) (by decide+kernel) (by decide)
   ·exact⟨(false,[(98,98)]),(show Ao (An [97,98] 3 98)=[91,98,45,98,93] from by decide+kernel).symm▸cH,by decide+kernel,by decide⟩
 ·simp only[List.mem_cons,List.not_mem_nil,or_false] at hc
  rcases hc with rfl|rfl
  ·rcases hf with rfl|rfl|rfl|rfl
   ·exact⟨(false,[(42,42)]),(show Ao (An [42,63] 0 42)=[91,42,93] from by decide+kernel).symm▸Ph,by decide+kernel,by decide⟩
   ·exact⟨(false,[(42,42)]),(show Ao (An [42,63] 1 42)=[91,42,93] from by decide+kernel).symm▸Ph,by decide+kernel,by decide⟩
   ·exact AE (true,[(63,63)]) ((show Ao (An [42,63] 2 42)=[91,94,63,93] from by decide+kernel).symm▸cI) (by decide+kernel) (by decide)
   ·exact⟨(false,[(42,42)]),(show Ao (An [42,63] 3 42)=[91,42,45,42,93] from by decide+kernel).symm▸bA,by decide+kernel,by decide⟩
  ·rcases hf with rfl|rfl|rfl|rfl
   ·exact⟨(false,[(63,63)]),(show Ao (An [42,63] 0 63)=[91,63,93] from by decide+kernel).symm▸Pe,by decide+kernel,by decide⟩
   ·exact⟨(false,[(63,63)]),(show Ao (An [42,63] 1 63)=[91,63,93] from by decide+kernel).symm▸Pe,by decide+kernel,by decide⟩
   ·exact AE (true,[(42,42)]) ((show Ao (An [42,63] 2 63)=[91,94,42,93] from by decide+kernel).symm▸bB) (by decide+kernel) (by decide)
   ·exact⟨(false,[(63,63)]),(show Ao (An [42,63] 3 63)=[91,63,45,63,93] from by decide+kernel).symm▸bC,by decide+kernel,by decide⟩
 ·simp only[List.mem_cons,List.not_mem_nil,or_false] at hc
  rcases hc with rfl|rfl
  ·rcases hf with rfl|rfl|rfl|rfl
   ·exact⟨(false,[(91,91)]),(show Ao (An [91,45] 0 91)=[91,92,91,93] from by decide+kernel).symm▸Pf,by decide+kernel,by decide⟩
   ·exact⟨(false,[(91,91)]),(show Ao (An [91,45] 1 91)=[91,92,91,93] from by decide+kernel).symm▸Pf,by decide+kernel,by decide⟩
   ·exact AE (true,[(45,45)]) ((show Ao (An [91,45] 2 91)=[91,94,92,45,93] from by decide+kernel).symm▸bD) (by decide+kernel) (by decide)
   ·exact⟨(false,[(91,91)]),(show Ao (An [91,45] 3 91)=[91,92,91,45,91,93] from by decide+kernel).symm▸bE,by decide+kernel,by decide⟩
  ·rcases hf with rfl|rfl|rfl|rfl
   ·exact⟨(false,[(45,45)]),(show Ao (An [91,45] 0 45)=[92,45] from by decide+kernel).symm▸bF,by decide+kernel,by decide⟩
   ·exact⟨(false,[(45,45)]),(show Ao (An [91,45] 1 45)=[91,92,45,93] from by decide+kernel).symm▸bG,by decide+kernel,by decide⟩
   ·exact AE (true,[(91,91)]) ((show Ao (An [91,45] 2 45)=[91,94,91,93] from by decide+kernel).symm▸bH) (by decide+kernel) (by decide)
   ·exact⟨(false,[(45,45)]),(show Ao (An [91,45] 3 45)=[91,92,45,45,92,45,93] from by decide+kernel).symm▸bJ,by decide+kernel,by decide⟩
 ·simp only[List.mem_cons,List.not_mem_nil,or_false] at hc
  rcases hc with rfl|rfl
  ·rcases hf with rfl|rfl|rfl|rfl
   ·exact⟨(false,[(93,93)]),(show Ao (An [93,94] 0 93)=[92,93] from by decide+kernel).symm▸bK,by decide+kernel,by decide⟩
   ·exact⟨(false,[(93,93)]),(show Ao (An [93,94] 1 93)=[91,93,93] from by decide+kernel).symm▸Pg,by decide+kernel,by decide⟩
   ·exact AE (true,[(94,94)]) ((show Ao (An [93,94] 2 93)=[91,94,94,93] from by decide+kernel).symm▸bL) (by decide+kernel) (by decide)
   ·exact⟨(false,[(93,93)]),(show Ao (An [93,94] 3 93)=[91,93,93] from by decide+kernel).symm▸Pg,by decide+kernel,by decide⟩
  ·rcases hf with rfl|rfl|rfl|rfl
   ·exact⟨(false,[(94,94)]),(show Ao (An [93,94] 0 94)=[92,94] from by decide+kernel).symm▸bM,by decide+kernel,by decide⟩
   ·exact⟨(false,[(94,94)]),(show Ao (An [93,94] 1 94)=[91,92,94,93] from by decide+kernel).symm▸bN,by decide+kernel,by decide⟩
   ·exact AE (true,[(93,93)]) ((show Ao (An [93,94] 2 94)=[91,94,93,93] from by decide+kernel).symm▸bO) (by decide+kernel) (by decide)
   ·exact⟨(false,[(94,94)]),(show Ao (An [93,94] 3 94)=[91,92,94,45,94,93] from by decide+kernel).symm▸bP,by decide+kernel,by decide⟩
 ·simp only[List.mem_cons,List.not_mem_nil,or_false] at hc
  rcases hc with rfl|rfl
  ·rcases hf with rfl|rfl|rfl|rfl
   ·exact⟨(false,[(92,92)]),(show Ao (An [92,38] 0 92)=[92,92] from by decide+kernel).symm▸bQ,by decide+kernel,by decide⟩
   ·exact⟨(false,[(92,92)]),(show Ao (An [92,38] 1 92)=[91,92,92,93] from by decide+kernel).symm▸bR,by decide+kernel,by decide⟩
   ·exact AE (true,[(38,38)]) ((show Ao (An [92,38] 2 92)=[91,94,92,38,93] from by decide+kernel).symm▸bT) (by decide+kernel) (by decide)
   ·exact⟨(false,[(92,92)]),(show Ao (An [92,38] 3 92)=[91,92,92,45,92,92,93] from by decide+kernel).symm▸bU,by decide+kernel,by decide⟩
  ·rcases hf with rfl|rfl|rfl|rfl
   ·exact⟨(false,[(38,38)]),(show Ao (An [92,38] 0 38)=[92,38] from by decide+kernel).symm▸bV,by decide+kernel,by decide⟩
   ·exact⟨(false,[(38,38)]),(show Ao (An [92,38] 1 38)=[91,92,38,93] from by decide+kernel).symm▸bW,by decide+kernel,by decide⟩
   ·exact AE (true,[(92,92)]) ((show Ao (An [92,38] 2 38)=[91,94,92,92,93] from by decide+kernel).symm▸bX) (by decide+kernel) (by decide)
   ·exact⟨(false,[(38,38)]),(show Ao (An [92,38] 3 38)=[91,92,38,45,92,38,93] from by decide+kernel).symm▸bY,by decide+kernel,by decide⟩
 ·simp only[List.mem_cons,List.not_mem_nil,or_false] at hc
  rcases hc with rfl|rfl
  ·rcases hf with rfl|rfl|rfl|rfl
   ·exact⟨(false,[(124,124)]),(show Ao (An [124,126] 0 124)=[92,124] from by decide+kernel).symm▸bZ,by decide+kernel,by decide⟩
   ·exact⟨(false,[(124,124)]),(show Ao (An [124,126] 1 124)=[91,92,124,93] from by decide+kernel).symm▸b0,by decide+kernel,by decide⟩
   ·exact AE (true,[(126,126)]) ((show Ao (An [124,126] 2 124)=[91,94,92,126,93] from by decide+kernel).symm▸b9) (by decide+kernel) (by decide)
   ·exact⟨(false,[(124,124)]),(show Ao (An [124,126] 3 124)=[91,92,124,45,92,124,93] from by decide+kernel).symm▸cf,by decide+kernel,by decide⟩
  ·rcases hf with rfl|rfl|rfl|rfl
   ·exact⟨(false,[(126,126)]),(show Ao (An [124,126] 0 126)=[92,126] from by decide+kernel).symm▸ci,by decide+kernel,by decide⟩
   ·exact⟨(false,[(126,126)]),(show Ao (An [124,126] 1 126)=[91,92,126,93] from by decide+kernel).symm▸cj,by decide+kernel,by decide⟩
   ·exact AE (true,[(124,124)]) ((show Ao (An [124,126] 2 126)=[91,94,92,124,93] from by decide+kernel).symm▸ck) (by decide+kernel) (by decide)
   ·exact⟨(false,[(126,126)]),(show Ao (An [124,126] 3 126)=[91,92,126,45,92,126,93] from by decide+kernel).symm▸cq,by decide+kernel,by decide⟩
 ·simp only[List.mem_cons,List.not_mem_nil,or_false] at hc
  rcases hc with rfl|rfl
  ·rcases hf with rfl|rfl|rfl|rfl
   ·exact⟨(false,[(46,46)]),(show Ao (An [46,35] 0 46)=[92,46] from by decide+kernel).symm▸cr,by decide+kernel,by decide⟩
   ·exact⟨(false,[(46,46)]),(show Ao (An [46,35] 1 46)=[91,46,93] from by decide+kernel).symm▸cu,by decide+kernel,by decide⟩
   ·exact AE (true,[(35,35)]) ((show Ao (An [46,35] 2 46)=[91,94,35,93] from by decide+kernel).symm▸cz) (by decide+kernel) (by decide)
   ·exact⟨(false,[(46,46)]),(show Ao (An [46,35] 3 46)=[91,46,45,46,93] from by decide+kernel).symm▸cA,by decide+kernel,by decide⟩
  ·rcases hf with rfl|rfl|rfl|rfl
   ·exact⟨(false,[(35,35)]),(show Ao (An [46,35] 0 35)=[92,35] from by decide+kernel).symm▸cB,by decide+kernel,by decide⟩
   ·exact⟨(false,[(35,35)]),(show Ao (An [46,35] 1 35)=[91,35,93] from by decide+kernel).symm▸cC,by decide+kernel,by decide⟩
   ·exact AE (true,[(46,46)]) ((show Ao (An [46,35] 2 35)=[91,94,46,93] from by decide+kernel).symm▸cE) (by decide+kernel) (by decide)
   ·exact⟨(false,[(35,35)]),(show Ao (An [46,35] 3 35)=[91,35,45,35,93] from by decide+kernel).symm▸cF,by decide+kernel,by decide⟩
end
section
open PySem PySem.W
inductive Steps:List (List Nat)→List (Bool×List (Nat×Nat))→Prop
 |nil:Steps [] []
 |cons {p it ps its:_}:stepOk p it→Steps ps its→Steps (p::ps) (it::its)
theorem ZZ (k:Nat) (acc:List (Bool×List (Nat×Nat))):B3 (k+1) acc [41,92,90]=some acc:=by rfl
theorem Z1 {its:List (Bool×List (Nat×Nat))}(h:Steps ps its):∀(k:Nat) (acc:List (Bool×List (Nat×Nat))),ps.length≤k→B3 (k+1) acc (ps.flatten++[41,92,90])=some (acc++its):=by
 induction h with
 |nil=>intro k acc _;rw[eJ];exact ZZ k acc
 |cons hp _ ih=>
  intro k acc hk
  rename_i p it ps its _
  cases k with
  |zero=>cases hk
  |succ k=>
   rw[List.flatten_cons,fa,hp (k+1) acc _ (by rw[eO];simp),ih k (acc++[it]) (Nat.le_of_succ_le_succ hk),fa]
   rfl
end
section
open PySem PySem.W
noncomputable def FT (s:List Nat):Bool:= !s.isEmpty && decide (s.length≤3) && s.all (·<128) && (Fp (Cg s) 20 0 false []).isSome && decide ((Cg s).length≤10) && decide ((Ch s).length≤20) && !(Ch s).isEmpty && Ch s !=[33] && (Ch s).all (·<128)
noncomputable def HE:List Nat→Bool
 |[c]=>decide (c<128) && !(c==42||c==63||c==91)
 |91::r=>r.getLast? ==some 93 && FT r.dropLast
 |_=>false
theorem Zq: (CV.all fun al=>al.all fun c=>[0,1,2,3].all fun f=>HE (An al f c))=true:=by decide+kernel
end
noncomputable def LB (y:Str) (v:Value):Bool:=match v with| .str z _=>z==y|_=>false
theorem PK (h:Af Ah vs ls):vs.any (LB y)=ls.any fun l=>tx l==y:=by
 induction h with
 |nil=>rfl
 |cons a _ ih=>obtain⟨t,rfl⟩:=a;rw[List.any_cons,List.any_cons,ih];rfl
theorem Af.isStr (h:Af Ah vs ls):∀v ∈ vs,∃l t,v= .str (tx l) t:=by
 induction h with
 |nil=>exact fun v hv=>nomatch hv
 |cons a _ ih=>
  intro v hv
  rcases fj hv with rfl|hv
  ·obtain⟨t,e⟩:=a;exact⟨_,t,e⟩
  ·exact ih v hv
theorem Run.Wy (ht:Tu F a vs) (hs:Af Ah vs ls) (h:Q (.bool (ls.any fun l=>tx l==y)) F V):Run c A (compareOp .In (.str y u) (.ref a)) F V Q:=fun s S=>
 PySem.SeqAt.in_tupleAt (LB y) (GO ht S) (fun v hv=>by
  obtain⟨l,t,rfl⟩:=hs.isStr v (by simpa using hv)
  exact PySem.SeqAt.EqAt.str_str _ _ _ _) ⟨F,V,S,by rw[List.any_toArray,PK hs];exact h⟩
inductive InK (QB:Bool→FM→Aa→Prop) (y:Str) (v:Value) (F:FM) (W:Aa):Prop
 |mk {a vs ls:_}:v= .ref a→Tu F a vs→Af Ah vs ls→QB (ls.any fun l=>tx l==y) F W→InK QB y v F W
theorem Tx.Wx (h1:Ev x F m V e1 (.str y)) (h2:Rx x F m V e2 (InK QB y)) (hm:autoParam (behindInMarks .In e2=false) aU):Tx x F m V (.Compare e1 [.In] [e2] p) QB:=.ki fun K Vf Q' ft kk=>
 .DF (h1.kS ft fun V1 t f1=>h2.fu f1 fun v2 F2 V2 W le f2 q=>q.casesOn fun{a vs ls} e ht hs hq=>e▸Run.Wy ht hs ⟨_,rfl,kk _ F2 V2 W le f2 hq⟩) hm
section
open PySem PySem.W PySem.Calls PyProof.Rows PySem.Builtin PySem.Builtin.Str
noncomputable def C2 (x y:Str) (i j:Int):Int:=match occurrences x y (fromIndex x.length i) (min (fromIndex x.length j) x.length) 1 with|k::_=>(k:Int)|[]=> -1
theorem U2 (x y:Str) (i j:Int) (t u v v':Tok):Gives («str.find» ⟨[.str x t,.str y u,.int i v,.int j v'],[]⟩) (.int (C2 x y i j)):=by
 refine(?_:Gives (match occurrences x y (fromIndex x.length i) (min (fromIndex x.length j) x.length) 1 with|k::_=>retInt k|[]=>(do rule "str.find.not-found";retInt (-1))) _)
 unfold C2
 cases occurrences x y (fromIndex x.length i) (min (fromIndex x.length j) x.length) 1 with
 |nil=>exact .rule (.of_eq rfl)
 |cons k _=>exact .of_eq rfl
theorem Run.Rf {x:Str}{i:Int}{v:Tok}(h:∀k,Q (.int (C2 x y i j) k) F V):Run c A (PySem.call (.builtin "str.find") [.str x t,.str y u,.int i v,.int j v']) F V Q:=.mk fun s S=>
 call_gives PySem.F.slot_str_find (typeIs_str _ _ _) PySem.F.entry_str_find (PySem.F.args_str_find_4 _ _ _ _) (U2 x y i j t u v v') ⟨F,V,⟨S.own,S.base,S.gens,S.os⟩,h _⟩
end
theorem Tb.fx (h:Ev x F m V e (.val (.ref l))) (hl:Ad l (Ab vs) V) (hv:vs.length≤100000) (he:autoParam (isTrue e x.env (eval e x.env)=(do let v ←eval e x.env;PySem.standAt e.pos;PySem.holding [v] (truthy v))) aR):Tb x F m V e (!vs.isEmpty):=fun K Vf ft=>
 .of_eq he (.bind ((h K Vf ft).mono fun v _ V1 ⟨a,f,d⟩=>.bind (.standAt (.holding (by
  refine a▸?_;obtain rfl:=ed d
  exact Run.fit f.fit (Run.tL (.tail hl.app) hv ⟨rfl,Sb.refl,rfl⟩))))))
theorem Tb.tt {b:Bool}:Tb x F m V (.Constant (.bool b) k p) b:=.val .bool .bool
noncomputable def JU (n₁:Nat) (C:Addr) (fp wr:List Addr) (n₀:Nat) (F:Nat→Value→Prop):Protocol:=fun m s₀ v s kap=>
 F (n₀ - 1 - m) v∧GenSince C wr s₀ s∧∀s'':Shared,n₁≤s''.toks→(∀b ∈ C::fp,∀o,s.heap.get? b=some o→s''.heap.get? b=some o)→kap (.send .none) s''
noncomputable def IS (C:Addr) (wr:List Addr):GenEnd:=fun n s₀ r s₁=>r= .ok .next∧(n=0∧GenSince C wr s₀ s₁)
section
variable {iter:Expr}{x:Str}{fp wr:List Addr}{n₀ n₁:Nat}{P:Nat→Value→Prop}{St₀:Nat→Heap→Prop}{cenv:Env}
theorem ao (hh:A.handled=none) (W₀:∀A':Around,A'.handled=none→Walks prog w A' I fp wr n₀ P St₀) (F:Nat→Value→Prop)
  (hx:cenv.kindOf x=some .local) (hp:(cenv.scope.kind== .class||(cenv.scope.kind== .module && cenv.locals !=cenv.globals))=false) (hco:cenv.scope.isCoroutine=false) (hCf:cenv.locals ∉ fp)
  (hq:∀(A':Around) E' i v (s₂:Shared) m₂,A'.handled=none→P i v→n₁≤s₂.toks→s₂.heap.Ns cenv.locals m₂→m₂ x=some v→wpAny (model prog w) A' (eval elt cenv) (fun y s₃=>F i y∧Keeps s₂ s₃) E' s₂):
  ∀(k i:Nat) (s₀ s:Shared) (m:Str→Option Value),n₀ - i=k→i≤n₀→n₁≤s.toks→St₀ i s.heap→s.heap.Ns cenv.locals m→GenSince cenv.locals wr s₀ s→
   Seg (model prog w) A (IS cenv.locals wr) (JU n₁ cenv.locals fp wr n₀ F) k s₀
    (.compLoop (.GeneratorExp elt [⟨.Name x px,iter,[],0⟩] scope pos) 0 (.ref I) .none cenv)
    ((model prog w).den (.compLoop (.GeneratorExp elt [⟨.Name x px,iter,[],0⟩] scope pos) 0 (.ref I) .none cenv)) [] s:=by
 have hh':(A.over (.compLoop (.GeneratorExp elt [⟨.Name x px,iter,[],0⟩] scope pos) 0 (.ref I) .none cenv) []).handled=none:=hh
 have hCw:cenv.locals ∉ wr:=fun h=>hCf ((W₀ A hh).sub _ h)
 intro k
 induction k with
 |zero=>
  intro i s₀ s m hk hi ht hst hn hsince
  obtain rfl:i=n₀:=KH ‹_› ‹_›
  refine(?_:Seg _ A _ _ _ s₀ _ ((compTurn _ 0 (.ref I) .none cenv).onRaise (leaving cenv)) [] s)
  rw[compTurn_gen,Sem.onRaise_eq_wrap]
  refine seg_bind_wrap (wpAny_standAt (seg_bind_wrap ((W₀ _ hh').done s _ _ hst fun h' tk hk'=>?_)))
  exact seg_end (.ok .next) ⟨rfl,rfl,hsince.step fun b o _ hw e=>hk' b o hw e⟩
 |succ k ih=>
  intro i s₀ s m hk hi ht hst hn hsince
  have hlt:i<n₀:=Nat.lt_of_sub_eq_succ ‹_›
  refine(?_:Seg _ A _ _ _ s₀ _ ((compTurn _ 0 (.ref I) .none cenv).onRaise (leaving cenv)) [] s)
  rw[compTurn_gen,Sem.onRaise_eq_wrap]
  refine seg_bind_wrap (wpAny_standAt (seg_bind_wrap (wpAny_with_toks ht ((W₀ _ hh').item i s _ _ hlt hst fun v h₁ tk₁ hv hst₁ hk₁ ht₁=>?_))))
  refine seg_bind_wrap (wpAny_of_eq (rfl:letOwnedTupleGo (.Name x px) (.ref I) v=pure ()) ?_)
  refine seg_bind_wrap (wpAny_assign_Name (wpAny_storeName_local hx (hn.at' fun o e=>hk₁ _ o hCw e) (fun h₂ hn₂ hs₂=>?_) hp))
  have up₂:∀b o,b≠cenv.locals→b ∉ wr→s.heap.get? b=some o→h₂.get? b=some o:=fun b o hbC hbw e=>hs₂.extBut b o hbC (hk₁ b o hbw e)
  have hst₂:St₀ (i+1) h₂:=(W₀ A hh).frame _ _ _ hst₁ fun b hb o e=>hs₂.extBut b o (fun h=>hCf (h▸hb)) e
  refine seg_bind_wrap ?_
  dsimp only[List.forIn_nil]
  refine d9 ?_
  simp only[if_true]
  have hy:∀v,yieldOut cenv v=yieldValue v:=fun v=>by simp only[yieldOut,hco,Bool.false_eq_true,if_false]
  simp only[hy]
  rw[Sem.bind_eq_wrap',Sem.bind_eq_wrap',Sem.wrap_wrap,Sem.wrap_wrap]
  refine seg_wrap (ej (hq _ _ i v _ _ hh' hv (Nat.le_succ_of_le ht₁) hn₂ (by simp)) (fun y s₄ h₄=>?_) fun _ _ e=>e)
  obtain⟨hF,h₄,tk₄,rfl,hk₄⟩:=h₄
  refine seg_at (seg_yield rfl rfl rfl ⟨?_,hsince.step fun b o hbC hbw e=>hk₄ b o (up₂ b o hbC hbw e),fun s'' ht'' hal=>?_⟩)
  ·rw[show n₀ - 1 - k=i by exact Ky ‹_›];exact hF
  ·exact seg_again rfl (ih (i+1) s'' s'' _ (Hf ‹_›) hlt ht'' ((W₀ A hh).frame _ _ _ hst₂ fun b hb o e=>hal b (eu _ hb) o (hk₄ b o e))
    ((hn₂.keeps hk₄).at' fun o e=>hal _ (eI ..) o e) (GenSince.refl _ _ _))
theorem aq (hh:A.handled=none) (W₀:∀A':Around,A'.handled=none→Walks prog w A' I fp wr n₀ P St₀) (F:Nat→Value→Prop)
  (hx:cenv.kindOf x=some .local) (hp:(cenv.scope.kind== .class||(cenv.scope.kind== .module && cenv.locals !=cenv.globals))=false) (hco:cenv.scope.isCoroutine=false) (hCf:cenv.locals ∉ fp)
  (hq:∀(A':Around) E' i v (s₂:Shared) m₂,A'.handled=none→P i v→n₁≤s₂.toks→s₂.heap.Ns cenv.locals m₂→m₂ x=some v→wpAny (model prog w) A' (eval elt cenv) (fun y s₃=>F i y∧Keeps s₂ s₃) E' s₂)
  (s:Shared) (m:Str→Option Value) (ht:n₁≤s.toks) (hst:St₀ 0 s.heap) (hn:s.heap.Ns cenv.locals m):
   Seg (model prog w) A (IS cenv.locals wr) (JU n₁ cenv.locals fp wr n₀ F) n₀ s
    (.compStart (.GeneratorExp elt [⟨.Name x px,iter,[],0⟩] scope pos) 0 (.ref I) .none cenv)
    ((model prog w).den (.compStart (.GeneratorExp elt [⟨.Name x px,iter,[],0⟩] scope pos) 0 (.ref I) .none cenv)) [] s:=by
 have hh':(A.over (.compStart (.GeneratorExp elt [⟨.Name x px,iter,[],0⟩] scope pos) 0 (.ref I) .none cenv) []).handled=none:=hh
 have loop:=ao (iter:=iter) (px:=px) (scope:=scope) (pos:=pos) hh W₀ F hx hp hco hCf hq n₀ 0 s s m (Nat.sub_zero _) (eB _) ht hst hn (GenSince.refl _ _ _)
 refine(?_:Seg _ A _ _ _ s _ ((compStart _ 0 (.ref I) .none cenv).onRaise (leaving cenv)) [] s)
 rw[Sem.onRaise_eq_wrap]
 refine(?_:Seg _ A _ _ _ s _ ((ask>>=_).wrap _ _ _ _) [] s)
 refine seg_bind_wrap (wpAny_askSetting ?_)
 split
 ·exact seg_again rfl loop
 ·refine seg_bind_wrap (wpAny_rule ?_)
  refine(?_:Seg _ A _ _ _ s _ ((standAt iter.pos>>=_).wrap _ _ _ _) [] s)
  exact seg_bind_wrap (wpAny_standAt (seg_bind_wrap ((W₀ _ hh').self 0 s _ _ hst (seg_again rfl loop))))
def Kh (prog:Program) (w:World) (A:Around) (a:Addr) (g:Nat) (C:Addr) (fp wr:List Addr) (n₀:Nat) (F:Nat→Value→Prop) (n₁ j:Nat) (s:Shared):Prop:=
 s.heap.IsGen a g∧s.heap.NoLimit∧n₁≤s.toks∧∃gs,s.gens[g]? =some gs∧∀s'':Shared,n₁≤s''.toks→(∀b ∈ C::fp,∀o,s.heap.get? b=some o→s''.heap.get? b=some o)→
  gs.Goes (model prog w) A.in1 (IS C wr) (JU n₁ C fp wr n₀ F) (n₀ - j) (.send .none) s''
theorem WalksS.U0 (hh:A.handled=none) (a:Addr) (g:Nat) (C:Addr) (fp wr:List Addr) (n₀ n₁:Nat) (F:Nat→Value→Prop) (haC:a≠C) (haf:a ∉ fp) (hsub:∀b ∈ wr,b ∈ fp)
  (hroom:A.depth<recursionLimit) (hcs:cStatics ∈ fp) (hcC:cStatics≠C) (hcw:cStatics ∉ wr):
  WalksS prog w A a (a::C::fp) (C::wr) (GenOnlyQ g) n₀ (fun j y=>F j y) (Kh prog w A a g C fp wr n₀ F n₁) where
 sub:=fun b hb=>by
  rcases fj hb with rfl|hb
  ·simp
  ·exact eu _ (eu _ (hsub b hb))
 grefl:=fun _=>.inl rfl
 gtrans:=fun _ _ _ x y=>x.trans y
 frame:=fun j s h' tk st htk hk=>
  ⟨let⟨o,nm,qn,ho,r⟩:=st.1;(CP o nm qn (hk a (eI ..) o ho) r),
  (let⟨mc,hns,hnn⟩:=st.2.1;(Ak mc (hns.at' fun o e=>hk cStatics (eu _ (eu _ hcs)) o e) hnn)),eb st.2.2.1 htk,
  Ag (st.2.2.2) fun gs hgs hgo=>(Ak gs hgs (fun s'' ht hal=>hgo s'' ht fun b hb o e=>hal b hb o (hk b (eu _ hb) o e)))⟩
 item:=fun j s Q E hj st hQ=>by
  obtain⟨hg,hl,htk,gs,hgs,hgo⟩:=st
  obtain⟨m,hm⟩:∃m,n₀ - j=m+1:=⟨n₀ - j - 1,Go ‹_›⟩
  rw[hm] at hgo
  refine wpAny_with_toks (eh s.toks) ?_
  refine wpAny_pyNext_genexpQ (P:=fun n s₀ s₁=>n=0∧GenSince C wr s₀ s₁) hh hl hroom hg hgs (hgo _ htk fun _ _ _ e=>e) (fun v s₁ gs' hb hv=>?_) (fun s₁ hp h' hk=>?_)
  ·obtain⟨hF,⟨h₁,tk₁,rfl,hk₁⟩,hkap⟩:=hv
   rw[show n₀ - 1 - (m+1 - 1)=j by exact Ky ‹_›] at hF
   have haw:a ∉ wr:=fun h=>haf (hsub a h)
   intro htk'
   refine hQ v _ hF ⟨let⟨o,nm,qn,ho,r⟩:=hg;(CP o nm qn (hk₁ a o haC haw ho) r),(let⟨mc,hns,hnn⟩:=hl;(Ak mc (hns.at' fun o e=>hk₁ cStatics o hcC hcw e) hnn)),eb htk htk',gs',setGen_self (gs:=.running) (setGen_self hgs),fun s'' ht'' hal=>?_⟩
    ⟨fun b o hb e=>hk₁ b o (fun h=>hb (h▸eI ..)) (fun h=>hb (eu _ h)) e,GenOnlyQ.of ((GenOnly.setGen s g .running).trans (GenOnly.setGen _ g gs')) (setGen_self (gs:=.running) (setGen_self hgs)) hb,rfl,rfl,htk'⟩
   rw[show n₀ - (j+1)=m by exact Hf ‹_›]
   exact hkap s'' ht'' hal
  ·exact absurd hp.1 (Nat.succ_ne_zero m)
 done:=fun s Q E st hQ=>by
  obtain⟨hg,hl,htk,gs,hgs,hgo⟩:=st
  rw[Nat.sub_self] at hgo
  refine wpAny_with_toks (eh s.toks) ?_
  refine wpAny_pyNext_genexpQ (P:=fun n s₀ s₁=>n=0∧GenSince C wr s₀ s₁) hh hl hroom hg hgs (hgo _ htk fun _ _ _ e=>e) (fun v s₁ gs' hb hv=>?_) (fun s₁ hp h' hk=>?_)
  ·refine Bj (hv) fun _ _ hkap=>?_
   exact(hkap {s₁ with toks:=max n₁ s₁.toks} (Nat.le_max_left ..) fun _ _ _ e=>e).elim
  ·obtain⟨_,h₁,tk₁,rfl,hk₁⟩:=hp
   intro htk'
   exact hQ _ ⟨fun b o hb e=>hk b o (hk₁ b o (fun h=>hb (h▸eI ..)) (fun h=>hb (eu _ h)) e),GenOnlyQ.of ((GenOnly.setGen s g .running).trans (GenOnly.setGen _ g .finished)) (setGen_self (gs:=.running) (setGen_self hgs)) rfl,rfl,rfl,htk'⟩
 self:=fun _ _ _ _ st hQ=>wpAny_pyIter_gen st.1 hQ
end
section
variable {x0:Str}
def Is (x:Str) (v:Value):Prop:=∃t,v= .str x t
theorem Keeps.trans {a b d:Shared}(h:Keeps a b) (k:Keeps b d):Keeps a d:=by
 obtain⟨h1,t1,rfl,k1⟩:=h
 obtain⟨h2,t2,rfl,k2⟩:=k
 exact Ae h2 t2 rfl (fun b o e=>k2 b o (k1 b o e))
theorem OD (hs:0<s.toks) (h0:wpAny (model prog w) A (eval e0 env) (fun v s1=>Is x0 v∧Keeps s s1) E s) (hyz:(y==z)=false) (hb:x0.length+(x0.length+1)*z.length≤16777216)
  (hbase:attributeBase e0 (Str.ofString "replace") env (eval e0 env)=eval e0 env) (hline:(apos.endLine==pos.line)=true):
  wpAny (model prog w) A (eval (.Call (.Attribute e0 (Str.ofString "replace") apos) [.Constant (.str y) k1 p1,.Constant (.str z) k2 p2] [] pos) env) (fun v s1=>Is (Txt.replace x0 y z) v∧Keeps s s1) E s:=by
 refine wpAny_Call_method_lateS hbase (by with_unfolding_all rfl) hline (ej (wpAny_toks_of (eh _) h0) (fun v s1 ⟨ht,⟨t,e⟩,kp⟩=>?_) fun _ _ e=>e.2)
 refine e▸?_
 have hp:0<s1.toks:=ea hs ht
 refine HM ("str") ("str.replace") PySem.F.plainAttrs_str PySem.F.slot_str_replace PySem.F.type_str_replace (typeIs_str _ _ _) (fun a e=>(nomatch e)) ?_
 refine callWith_method1 (wpAny_items_cons (wpAny_Constant_str (wpAny_items_cons (wpAny_Constant_str (wpAny_items_nil ?_)))))
 refine PySem.SC.replace (eF hp) (Nat.succ_ne_zero _) (eG (ey _)) hyz hb fun t' k=>⟨⟨t',rfl⟩,Keeps.trans kp (Ae _ _ rfl (fun _ _ e=>e))⟩
end
section
variable {d P:Addr}
theorem Run.V7 (hcode:env.code= .ref d) (C:Eb c.F0 d P) (hq:qs pos.line pos.col=qual) (h:∀F' v,Le F F'→Q v F' ((P,tb F' qs)::V)):Run c A (genexprCode env pos qual scope) F ((P,tb F qs)::V) (Internal.up Q):=.mk fun s S=>by
 obtain⟨oP,hP,ps,rfl,ht,hk⟩:=S.own.get .head
 have⟨i1,i2⟩:=(C.at fun a o e=>S.own.fro _ _ (S.base _ _ e)).2 ps hP ht
 cases hf:codeAmong pos ps.toList with
 |some cv=>exact wpAny_genexprCode_hit hcode i1 hf (Ae F _ S.toStP (up.one (h F cv (Le.refl _))))
 |none=>
  refine wpAny_genexprCodeX hcode i1 i2 hf fun c' h' tk hx hsz hlt hic qz htb _=>E0 qz fun c2 oc vs t e2 hoc hd hv=>?_
  injection e2 with e2;subst e2
  exact⟨F,_,⟨S.own.tabs hx hsz htb.2 hoc,S.base,S.gens,S.os⟩,up.AY fun F2 o2 le2 e2 ho2=>up.imp (P':=tb F2 qs) (fun o x=>x▸tb.snoc ht hk le2 (hq▸(Ep c' _ vs t rfl (ho2▸e2) hd hv))) (up.one (h F2 _ le2))⟩
theorem Run.Rh {QA:Addr→FM→Aa→Prop}{gl run:Addr}(hgl:gl=mainGlobals) (G:EK c.F0 mg P) (h:QA builtinsNs F V):Run c A (builtinsFor gl run) F V QA:=fun s S=>by
 obtain⟨⟨o,es,ep,e,r⟩,bm,ob,b1,b2,b3,b4,b5,b6,b7,b8⟩:=G
 subst hgl
 exact wpAny_builtinsFor (CP o es ep (S.own.fro _ _ (S.base _ _ e)) r) b1 b2 (S.own.fro _ _ (S.base _ _ b5)) b6 b7 b8 (Ae F V S h)
end
theorem Run.kc {α:Type}{t:Sem α}{P:α→Shared→Prop}(h:Run c A t F V fun a F' V'=>∀s',St c F' V' s'→P a s') (S:St c F V s):wpAny (Mo c) A t P (fun _ _=>False) s:=h.fu S fun _ s' _ _ S' q=>q s' S'
theorem WV {lt:List (Str×Tok)}{g:Str→Str}(hn:lt.length=ys.length) (h:∀(j:Nat) (v:Value),(strValues lt).toArray[j]? =some v→∃y,ys[j]? =some y∧Is (g y) v):lt.map (·.1)=ys.map g:=by
 apply List.ext_getElem?
 intro j
 by_cases hj:j<ys.length
 ·have hj':j<lt.length:=hn▸hj
  obtain⟨y,hy,u,hv⟩:=h j (.str lt[j].1 lt[j].2) (by simp[strValues,eN hj'])
  injection hv with h1 _
  simp[eN hj',hy,h1]
 ·rw[List.getElem?_eq_none (by simpa [hn] using Nat.le_of_not_lt hj),List.getElem?_eq_none ((eM ..).symm▸Nat.le_of_not_lt hj)]
theorem WS {q:Addr×(Obj→Prop)}{s4 s':Shared}{h5:Heap}(Se:St c F (q::(I,Pi)::V) s4) (keep5:∀b o,s4.heap.get? b=some o→h5.get? b=some o) (hm:∀a o,a ∉ s4.heap.objs.size::[I]→h5.get? a=some o→s'.heap.get? a=some o)
  (hg:AllBare s'.gens) (ho:s'.os=c.os):StP c F (q::V) s':=by
 have nw:∀{a:Addr}{o:Obj},s4.heap.get? a=some o→a≠I→a ∉ s4.heap.objs.size::[I]:=fun e ne hm=>by
  rcases fj hm with rfl|hm
  ·exact Nat.lt_irrefl _ (eE e)
  ·exact ne (List.mem_singleton.mp hm)
 have nd:=Se.own.nod
 simp only[eP,eP,List.nodup_cons,List.nodup_cons] at nd
 refine⟨⟨fun a o e=>?_,fun p hp=>?_,?_⟩,Se.base,hg,ho⟩
 ·have e4:=Se.own.fro _ _ e
  exact hm _ _ (nw e4 fun q=>by subst q;replace e:=((Se.own.own (a,Pi) (.tail _ (.head _))).1)▸e;contradiction) (keep5 _ _ e4)
 ·have hin:p ∈ q::(I,Pi)::V:=by
   rcases fj hp with rfl|hp
   ·exact .head _
   ·exact .tail _ (.tail _ hp)
  obtain⟨a,o,b,e⟩:=Se.own.own p hin
  refine⟨a,o,hm _ _ (nw b fun q=>?_) (keep5 _ _ b),e⟩
  rcases fj hp with rfl|hp
  ·exact nd.1 (q▸.head _)
  ·exact nd.2.1 (List.mem_map.mpr ⟨p,hp,q⟩)
 ·exact List.nodup_cons.mpr ⟨fun hm=>nd.1 (.tail _ hm),nd.2.2⟩
theorem Rx.WR {sep q0 nm z1 z2:Str}{d P:Addr}{gscope:Scope}{k0 k4:Nat}{p0 pi gpos:Pos}
  (ok:Ok x (n+1) gs) (hc:x.env.code= .ref d) (hq:x.env.qual=q0) (C:Eb x.fo.F0 d P) (G:EK x.fo.F0 mg P) (hqs:qs gpos.line gpos.col=q0++"<genexpr>") {F1:FM}(hF:Le F1 F) (hV:Dm P (tb F1 qs) V V')
  (hit:Ad id_ (.val (.ref l)) m) (hl:Ad l (Ab vs) V') (hvs:Af (fun v y=>Is y v) vs ys) (hy1:(y1==z1)=false) (hy2:(y2==z2)=false)
  (hb1:∀y ∈ ys,y.length+(y.length+1)*z1.length≤16777216∧(Txt.replace y y1 z1).length+((Txt.replace y y1 z1).length+1)*z2.length≤16777216)
  (hok:JoinOk sep (ys.map fun y=>Txt.replace (Txt.replace y y1 z1) y2 z2)=true) (hlen:ys.length≤1000)
  (h:∀v F',Le F F'→(Sp.str (Txt.join sep (ys.map fun y=>Txt.replace (Txt.replace y y1 z1) y2 z2))).ok (some v)→Q v F' ((P,tb F' qs)::V'))
  (hco:gscope.isCoroutine=false) (hclos:closureFor gscope x.env=Pure.pure []) (hcell:∀y ∈ gscope.names,y.2≠.cell) (h0:gscope.names.lookup (".0":Str)=some NameKind.local) (hx:gscope.names.lookup nm=some .local) (hkind:gscope.kind= .function) (hdbg:(nm==("__debug__":Str))=false)
  (hline:(apos.endLine==pos.line)=true) (hl1:(p3.endLine==p6.line)=true) (hl2:(p7.endLine==p10.line)=true):
  Rx x F m V (.Call (.Attribute (.Constant (.str sep) k0 p0) (Str.ofString "join") apos) [.GeneratorExp (.Call (.Attribute (.Call (.Attribute (.Name nm p2) (Str.ofString "replace") p3) [.Constant (.str y1) k1 p4,.Constant (.str z1) k2 p5] [] p6) (Str.ofString "replace") p7) [.Constant (.str y2) k3 p8,.Constant (.str z2) k4 p9] [] p10) [⟨.Name nm px,.Name id_ pi,[],0⟩] gscope gpos] [] pos) Q:=.ki fun K Vf Q' ft kk=>by
 have pm:(full x m (V++K)).Perm ((P,tb F1 qs)::full x m (V'++K)):=((hV.perm.append_right K).cons _).trans (.swap ..)
 refine Run.fit (W:=(P,tb F qs)::full x m (V'++K)) (fun _ _ O=>(((Sb.perm pm.symm).trans ft).fit _ _ O).imp fun o y=>y.le hF) (.mk fun s S=>?_)
 have rm:=ok.rm
 refine wpAny_Call_method_lateS rfl (by with_unfolding_all rfl) hline (wpAny_Constant_str ⟨"str","str.join",PySem.F.plainAttrs_str,PySem.F.slot_str_join,PySem.F.type_str_join,typeIs_str _ _ _,fun a e=>(nomatch e),?_⟩)
 refine callWith_method1 (wpAny_items_cons ?_)
 have S1:St x.fo F ((P,tb F qs)::full x m (V'++K)) {s with toks:=s.toks+1}:=⟨⟨S.own,S.base,S.gens,S.os⟩,eA _⟩
 refine wpAny_GeneratorExp_make hco hclos hcell h0 hkind (by have:=rm.1;refine(?_:x.A.depth<1000);exact CX ‹_› rfl) ?_ (by intro _;rfl)
 refine Run.kc (Run.C1 (V:=(P,tb F qs)::V') ok hit (Sb.perm (.swap ..)) fun s1 Sa=>?_) S1
 refine Run.kc (Run.WO (l:=l) (vs:=vs) (.tail (.tail hl.app)) fun I s2 Sb2=>?_) Sa
 refine⟨x.fo.lim _ fun a o e=>Sb2.own.fro _ _ (Sb2.base _ _ e),?_⟩
 refine Run.kc (Run.up (Run.V7 (V:=(I,AI "list_iterator" (.ref l) 0)::full x m (V'++K)) hc C (hqs.trans (by rw[hq])) fun Fe code leB s3 Sd=>?_)) (Sb2.fit (Sb.perm (((eK ..).cons _|>.trans (eK ..)).symm)).fit)
 refine Run.kc (Run.Rh ok.gv.gl G fun s4 Se=>?_) Sd
 clear Sb2 Sa S1 Sd
 intro h' hn' hs'
 refine wpAny_items_nil ?_
 have keep':∀b o,s4.heap.get? b=some o→h'.get? b=some o:=fun b o e=>hs'.extBut b o (eG (eE e)) (eg _ e)
 have hsz:h'.objs.size=s4.heap.objs.size+1:=by rw[hs'.1,Heap.size_push]
 have lim:s4.heap.NoLimit:=x.fo.lim _ fun a o e=>Se.own.fro _ _ (Se.base _ _ e)
 have hclt:cStatics<s4.heap.objs.size:=let⟨_,hn,_⟩:=lim;hn.lt
 have hlL:Ad l (Ab vs) ((P,tb Fe qs)::(I,AI "list_iterator" (.ref l) 0)::full x m (V'++K)):=.tail (.tail (.tail hl.app))
 have isl:=CD hlL Se
 obtain⟨oI,hoI,hcI,hdI⟩:=Se.own.get (a:=I) (P:=AI "list_iterator" (.ref l) 0) (.tail .head)
 have isI:s4.heap.IsListIter I l 0:=⟨oI,hoI,hcI,hdI⟩
 have hlI:l≠I:=fun e=>by
  subst e
  have nd:=Se.own.nod
  rw[eP,eP,List.nodup_cons,List.nodup_cons] at nd
  exact nd.2.1 (C3 (.tail hl.app:Ad l (Ab vs) (full x m (V'++K))))
 have ltI:I<s4.heap.objs.size:=eE hoI
 have ltl:l<s4.heap.objs.size:=let⟨o,e,_⟩:=isl;eE e
 have hh:x.A.handled=none:=rm.2.2
 generalize hcenv:genEnv gscope [] s4.heap.objs.size code builtinsNs x.env=cenv
 have cl:cenv.locals=s4.heap.objs.size:=by rw[←hcenv];rfl
 have ckind:cenv.scope.kind= .function:=by rw[←hcenv];exact hkind
 have clook:cenv.scope.names.lookup nm=some .local:=by rw[←hcenv];exact hx
 have cco:cenv.scope.isCoroutine=false:=by rw[←hcenv];exact hco
 generalize hh5:h'.push {cls:=.type "generator",data:=.fields #[.int s4.gens.size 0,.str "<genexpr>" (s4.toks+1),.str (x.env.qual++"<genexpr>") (s4.toks+1+1)]}=h5
 have keep5:∀b o,s4.heap.get? b=some o→h5.get? b=some o:=fun b o e=>hh5▸eg _ (keep' b o e)
 have hsz5:h5.objs.size=h'.objs.size+1:=by rw[←hh5,Heap.size_push]
 have hyl:=hvs.len
 let FF:Nat→Value→Prop:=fun i v=>∃y,ys[i]? =some y∧Is (Txt.replace (Txt.replace y y1 z1) y2 z2) v
 have W:=WalksS.U0 (prog:=P0) (w:=x.w) (A:=x.A.in1.in1) hh h'.objs.size s4.gens.size s4.heap.objs.size (List.range s4.heap.objs.size) [I] vs.toArray.size 1 FF (by rw[hsz];exact Nat.succ_ne_self _)
  (fun hm=>by have:=List.mem_range.mp hm;lia) (fun b hb=>by rw[List.mem_singleton.mp hb];exact List.mem_range.mpr ltI) (by have:=rm.1;refine(?_:x.A.depth<1000);exact CX ‹_› rfl) (List.mem_range.mpr hclt) (eG hclt)
  (fun e=>by
   have:=List.mem_singleton.mp e
   subst this
   obtain⟨mc,⟨o,es,ep,e1,e2,_⟩,_⟩:=lim
   rw[hoI] at e1
   cases e1
   rw[hdI] at e2
   cases e2)
 have hsub:∀b ∈ [I,l],b ∈ List.range s4.heap.objs.size:=fun b hb=>by
  rcases fj hb with rfl|hb
  ·exact List.mem_range.mpr ltI
  ·rw[List.mem_singleton.mp hb];exact List.mem_range.mpr ltl
 refine PySem.SC.joinGen (W:=W) (t:=s.toks) (St:=Kh P0 x.w x.A.in1.in1 h'.objs.size s4.gens.size s4.heap.objs.size (List.range s4.heap.objs.size) [I] vs.toArray.size FF 1) (fun i s hs=>(let⟨o,nm,qn,ho,hcl,_⟩:=hs.1;⟨o,ho,hcl⟩)) ⟨⟨_,_,_,by rw[←hh5];exact em _ rfl,rfl,rfl,rfl⟩,lim.keeps keep5,by refine(?_:1≤s4.toks+1+1+1);exact eA _,_,Array.getElem?_push_size ..,fun s'' ht hal=>⟨rfl,?_⟩⟩ ?_ ?_ ?_ ?_ ?_
 ·have key:=aq (prog:=P0) (w:=x.w) (A:=x.A.in1.in1.in1) (x:=nm) (px:=px) (iter:=.Name id_ pi) (scope:=gscope) (pos:=gpos) (cenv:=cenv) (I:=I) (fp:=List.range s4.heap.objs.size) (wr:=[I]) (n₁:=1) (P:=fun i v=>vs.toArray[i]? =some v) (St₀:=fun i h=>h.IsListIter I l i∧h.IsList l vs.toArray)
   (elt:=.Call (.Attribute (.Call (.Attribute (.Name nm p2) (Str.ofString "replace") p3) [.Constant (.str y1) k1 p4,.Constant (.str z1) k2 p5] [] p6) (Str.ofString "replace") p7) [.Constant (.str y2) k3 p8,.Constant (.str z2) k4 p9] [] p10)
   hh (fun A' hA=>(Walks.list hA I l hlI vs.toArray).mono_fp hsub) FF (by unfold Env.kindOf;exact clook) (by rw[ckind];rfl) cco (by rw[cl];exact fun hm=>Nat.lt_irrefl _ (List.mem_range.mp hm)) ?_ s'' (fun y=>if y=(".0":Str) then some (.ref I) else none) ht ?_ ?_
  ·rw[cl,hcenv] at*
   exact key
  ·rintro A' E' i v s2 m2 - hv ht2 hns hm2
   have hv':vs[i]? =some v:=by simpa using hv
   have hi:i<ys.length:=by rw[←hyl];exact(List.getElem?_eq_some_iff.mp hv').1
   obtain⟨v2,e2,hy⟩:=hvs.get (eN hi)
   rw[hv'] at e2
   cases e2
   obtain⟨t,e⟩:=hy
   have hb:=hb1 _ (List.getElem_mem hi)
   refine ej (OD ht2 (OD ht2 (wpAny_Name (wpAny_loadName_local ckind clook hns hm2 ⟨⟨t,e⟩,_,_,rfl,fun _ _ e=>e⟩) hdbg) hy1 hb.1 rfl hl1) hy2 hb.2 rfl hl2) (fun u s3 ⟨hu,kp⟩=>⟨⟨_,eN hi,hu⟩,kp⟩) fun _ _ e=>e
  ·exact⟨(isI.at fun o e=>hal I (eu _ (List.mem_range.mpr ltI)) o (keep5 _ _ e)),isl.at fun o e=>hal l (eu _ (List.mem_range.mpr ltl)) o (keep5 _ _ e)⟩
  ·rw[cl]
   exact hn'.at' fun o e=>hal _ (eI ..) o (by refine(?_:h5.get? _=_);rw[←hh5];exact eg _ e)
 ·intro b hb
  refine(?_:b<h5.objs.size)
  rw[hsz5,hsz]
  rcases fj hb with rfl|hb
  ·rw[hsz];exact ey _
  ·rcases fj hb with rfl|hb
   ·exact Nat.lt_succ_of_lt (ey _)
   ·exact Nat.lt_succ_of_lt (Nat.lt_succ_of_lt (List.mem_range.mp hb))
 ·exact eI ..
 ·rintro i v ⟨y,_,t,e⟩
  exact⟨_,t,e⟩
 ·intro s' lt hm hacc
  rw[WV (lt:=lt) (ys:=ys) (g:=fun y=>Txt.replace (Txt.replace y y1 z1) y2 z2) (by rw[←hyl];exact(eM ..).symm▸hacc.1) hacc.2]
  exact⟨hok,fun t' k=>⟨Fe,(P,tb Fe qs)::full x m (V'++K),WS Se keep5 hm.heap (AllBare.movedS (s':=s') (AllBare.push Se.gens rfl) hm) (hm.os.trans Se.os),kk _ Fe _ ((P,tb Fe qs)::V') leB (Sb.perm (.swap ..)) (h _ _ leB ⟨t',rfl⟩)⟩⟩
 ·rw[eY,hyl,eT]
  exact eb ‹_› (d7 rfl)
section
open PySem PySem.W PySem.Calls PyProof.Rows PySem.Builtin PySem.Builtin.Str PySem.StrLaws
theorem HC (n k:Nat):fromIndex n (k:Int)=k:=by
 unfold fromIndex
 rw[if_neg (by lia)]
 exact rfl
theorem Uc {x:Str}{i:Int}{a:Nat}(hi:i=a) (hj:j=b) (hy:1≤y.length) (h:b≤a):C2 x y i j= -1:=by
 subst hi;subst hj
 unfold C2
 rw[HC,HC,occ_eq]
 have e:(List.range' a (min b x.length+1 - a))=[]∨(List.range' a (min b x.length+1 - a))=[a]:=by
  have:min b x.length+1 - a=0∨min b x.length+1 - a=1:=Ql ‹_›
  rcases this with q|q
  ·rw[q];exact .inl rfl
  ·rw[q];exact .inr rfl
 have z:(forIn (List.range' a (min b x.length+1 - a)) ((#[]:Array Nat),a) (occBody x y (min b x.length) 1)).run.fst.toList=[]:=by
  rcases e with e|e
  ·rw[e];rfl
  ·rw[e,e7]
   dsimp only[occBody]
   rw[if_neg (fun q=>by have:=q.1.2;lia)]
   rfl
 rw[z]
theorem Ub {x:Str}{i:Int}{a c:Nat}(hi:i=a) (hj:j=b) (hy:y=ch c) (hd:D x a (c::r)) (h:a<b):C2 x y i j=a:=by
 subst hi;subst hj;subst hy
 have hl:=hd.len
 simp only[List.length_cons] at hl
 unfold C2
 rw[HC,HC,occ_eq]
 have hb:a+1≤min b x.length:=by exact QP ‹_› ‹_›
 have at_:At x (ch c) (min b x.length) a:=by
  refine⟨hb,?_⟩
  unfold subAt
  have hg:=hd.get
  have e1:(ch c).length=1:=rfl
  refine(e1)▸?_
  have:x.cps.extract a (a+1)=#[c]:=by
   apply Array.ext
   ·rw[Array.size_extract]
    refine(?_:min (a+1) x.length - a=1)
    exact PZ ‹_›
   ·intro k h1 h2
    have hk:k=0:=by simp at h2;exact h2
    subst hk
    rw[Array.getElem_extract]
    rw[Array.getElem?_eq_some_iff] at hg
    refine Exists.elim (hg) fun _ e=>?_
    exact e
  refine(this)▸?_
  exact eX (#[c]:Array Nat)
 rcases occ_first x (ch c) (min b x.length) 1 (eh _) (List.range' a (min b x.length+1 - a)) a (fun i hi=>by simp[List.mem_range'] at hi;lia) with ⟨_,hn⟩|⟨pre,k,post,e,h0,_,hn⟩
 ·exact absurd at_ (hn a (by simp[List.mem_range'];exact Qq ‹_›))
 ·have hk:k=a:=by
   induction pre with
   |nil=>
    have:(List.range' a (min b x.length+1 - a)).head? =some k:=by exact congrArg _ (e)
    rw[show min b x.length+1 - a=(min b x.length - a)+1 by exact Kx ‹_›,List.range'_succ] at this
    exact(ed this).symm
   |cons p q=>
    have:(List.range' a (min b x.length+1 - a)).head? =some p:=by exact congrArg _ (e)
    rw[show min b x.length+1 - a=(min b x.length - a)+1 by exact Kx ‹_›,List.range'_succ] at this
    exact absurd ((ed this)▸at_) (hn p (.head _))
  subst hk
  generalize (forIn (List.range' k (min b x.length+1 - k)) ((#[]:Array Nat),k) (occBody x (ch c) (min b x.length) 1)).run.fst=arr at h0
  have h1:arr.toList[0]? =some k:=by simpa using h0
  cases hL:arr.toList with
  |nil=>replace h1:=(hL)▸h1;contradiction
  |cons b t=>replace h1:=(hL)▸h1;obtain rfl:=ed h1;rfl
theorem Ev.C2 {i:Int}(h0:Ev x F m V e (.str y)) (h1:Ev x F m V e1 (.str z)) (h2:Ev x F m V e2 (.int i)) (h3:Ev x F m V e3 (.int j)) (hn1:autoParam (notStar e1=true) aR) (hn2:autoParam (notStar e2=true) aR) (hn3:autoParam (notStar e3=true) aR)
  (hbase:autoParam (attributeBase e (Str.ofString "find") x.env (eval e x.env)=eval e x.env) aU)
  (hfew:autoParam (((backTo pos (starEach [e1,e2,e3] x.env)).all (fun x=> !x.1) && (backToKw pos (keywordEach [] x.env)).all (fun x=>x.1.isSome) && decide ([e1,e2,e3].length+([]:List Keyword).length+(if ([]:List Keyword).isEmpty then 0 else 1)<30))=true) aU)
  (hline:autoParam ((apos.endLine==pos.line)=true) aU):Ev x F m V (.Call (.Attribute e (Str.ofString "find") apos) [e1,e2,e3] [] pos) (.int (Internal.C2 y z i j)):=
 .rx fun Q hQ=>.Fb PySem.F.slot_str_find PySem.F.type_str_find h0 (.cons h1 (.cons h2 (.cons h3 .nil hn3) hn2) hn1) (fun u vs o=>by
  obtain⟨_,_,_,rfl,⟨t,⟨⟩⟩,⟨t2,⟨⟩⟩,t3,⟨⟩⟩:=o.three
  exact .pure (.int _) (fun V Q hQ=>Run.Rf fun t=>hQ _ ⟨t,rfl⟩) hQ) hbase hfew hline
theorem Rx.H5 {a b k:Int}(ok:Ok x n gs) (hx:Str.ofString "range" ∈ gs) (h1:Ev x F m V e1 (.int a)) (h2:Ev x F m V e2 (.int b)) (h3:Ev x F m V e3 (.int k)) (hk:k≠0) (hp:Builtin.divisionGoesByPylong (b - a) k=false)
  (kk:∀F' r,Le F F'→Rg F' r a b k→Q (.ref r) F' V) (hn1:autoParam (notStar e1=true) aR) (hn2:autoParam (notStar e2=true) aR) (hn3:autoParam (notStar e3=true) aR):
  Rx x F m V (.Call (.Name (Str.ofString "range") p) [e1,e2,e3] [] pos) Q:=
 .Id ok hx Jm (.cons h1 (.cons h2 (.cons h3 .nil hn3) hn2) hn1) fun t t2 t3 K=>.up (Run.H5 hk hp fun r=>up.AY fun F1 o le ho hp=>up.one ⟨le,V,Sb.refl,kk F1 r le (Ak o ho hp)⟩)
noncomputable abbrev Ez:Str:=Str.ofString "\\"
noncomputable abbrev EA:Str:=Str.ofString "\\\\"
noncomputable abbrev Fn:Str:=Str.ofString "-"
noncomputable abbrev ae:Str:=Str.ofString "\\-"
noncomputable def rep2 (l:List Nat):Str:=Txt.replace (Txt.replace (tx l) Ez EA) Fn ae
noncomputable def BX (c:Nat):List Nat→List Nat
 |d::r=>if d==c then r else d::r
 |[]=>[]
noncomputable def DK:List Nat→Option (List (List Nat))
 |[a]=>if a=45 then some [[45]] else none
 |[a,b]=>if a=33∧b=45 then some [[33,45]] else none
 |[c,m,d]=>if m=45∧c=d∧c≠33 then some [[c],[d]] else none
 |_=>none
noncomputable def FS (s:List Nat):Bool:= !(BX 33 s).isEmpty && (BX 93 (BX 33 s)).all (·!=93) && (if s.contains 45 then(match DK s with
 |some cs=>Txt.join Fn (cs.map rep2)==tx (Cg s) && JoinOk Fn (cs.map rep2) && cs.all fun l=>decide ((Txt.replace (tx l) Ez EA).length≤10)
 |none=>false) else Txt.replace (tx s) Ez EA==tx (Cg s))
noncomputable def MM:List Nat→Bool
 |[_]=>true
 |91::r=>FS r.dropLast
 |_=>false
theorem Zr: (CV.all fun al=>al.all fun c=>[0,1,2,3].all fun f=>MM (An al f c))=true:=by decide+kernel
end
section
variable {s:Sp}{Q:Flow→FM→Sm→Aa→Prop}{m':Addr→Sm}
theorem R.new (ok:Ok x n gs) (hp:∀a,Aj id_ s0 (.val (.ref a)) m (m' a)) (k:∀a,R x rest F (m' a) ((a,Ab [])::V) Q) (hs:autoParam (swapsWith (.List [] pos) (some (.Name id_ p')) p.line x.env=(Pure.pure false:Sem Bool)) aU):
  R x (.Assign [.Name id_ p'] (.List [] pos) p::rest) F m V Q:=.Bi ok (Rx.DZ .nil fun a=>As.fC (hp a) (k a)) hs
theorem R.Km {b:Addr}(ok:Ok x n gs) (hb:Bd F b "list.append" l) (h0:Ad id_ (.val (.ref b)) m) (h:Rx x F m V e (Ap x l rest Q m)) (hn:autoParam (notStar e=true) aR) (hs:autoParam (swapsWith (.Call (.Name id_ q) [e] [] pos) none p.line x.env=(Pure.pure false:Sem Bool)) aU):
  R x (.Expr (.Call (.Name id_ q) [e] [] pos) p::rest) F m V Q:=.Dq ok (Rx.Gu ok hb h0 (h.mono fun _ _ _ _ q=>q.casesOn fun a b c=>.mk a b c) hn) hs
theorem R.Kl {b:Addr}(ok:Ok x n gs) (hb:Bd F b "list.append" l) (h0:Ad id_ (.val (.ref b)) m) (h:Ev x F m V e s) (hl:∀v,Aj l (Ab vs) (Ab (vs++[v])) V (W' v)) (hv:vs.length≤100000)
  (k:s.fm fun v=>R x rest F m (W' v) Q) (hn:autoParam (notStar e=true) aR) (hs:autoParam (swapsWith (.Call (.Name id_ q) [e] [] pos) none p.line x.env=(Pure.pure false:Sem Bool)) aU):
  R x (.Expr (.Call (.Name id_ q) [e] [] pos) p::rest) F m V Q:=.Km ok hb h0 (.ev h fun v o=>.mk (hl v) hv (Sp.BJ (P:=fun v=>R x rest F m (W' v) Q) o k)) hn hs
theorem Rx.H3 (h:Ev x F m V e s):Rx x F m V e (fun v F' W=>s.ok (some v)∧F'=F∧W=V):=.ev h fun _ hv=>BO hv rfl rfl
end
theorem Is.ok (h:Is y v):(Sp.str y).ok (some v):=BZ (h) fun t e=>⟨t,by exact congrArg _ (e)⟩
inductive ScI (y:Str) (c:Nat) (F:FM) (V:Aa) (mj:Int→Sm) (t:List Nat) (k:Nat):Nat→FM→Sm→Aa→Prop
 |mk {r:List Nat}{j:Nat}:D y j (r++c::t)→r.all (·!=c)=true→k=j+r.length→ScI y c F V mj t k r.length F (mj j) V
section
variable {s:Sp}{Q:Flow→FM→Sm→Aa→Prop}
theorem item_last (l:List Nat) (c:Nat):Txt.item (tx (l++[c])) (-1)=ch c:=by
 have hk:(tx (l++[c])).length=l.length+1:=by simp only[Av,eO];rfl
 have e2:seqIndex? (-1) (tx (l++[c])).length=some l.length:=by
  dsimp only[seqIndex?]
  refine(hk)▸?_
  simp
  exact Qx
 have e3:(tx (l++[c])).cps[l.length]? =some c:=by simp[tx]
 delta Txt.item Txt.charAt
 simp only[e2,Option.bind_some,e3]
 rfl
theorem Ev.WK {l:List Nat}{c:Nat}(h1:Ev x F m V e1 (.str (tx (l++[c])))) (h2:Ev x F m V e2 (.int (-1))) (hl:l.length<10000) (hp:autoParam (C9 e2=true) aR):Ev x F m V (.Subscript e1 e2 p) (.str (ch c)):=.ki fun K Vf Q ft kk=>
 have hk:(tx (l++[c])).length=l.length+1:=by rw[Av,eO];rfl
 .ED (h1.kS ft fun V1 t f1=>h2.kI f1 fun V2 u f2=>Run.Nl (by lia) (er _) (by decide+kernel) (fun k2=>kk _ _ f2 ⟨k2,by rw[item_last]⟩) (EE hp) (fun _=>NF))
theorem OV {c:Nat}{s:List Nat}(hs:s≠[]) (t:List Nat):BX c (s++t)=BX c s++t:=by
 induction s with
 |nil=>exact absurd rfl hs
 |cons d r=>show(if (d==c)=true then r++t else d::(r++t))=(if (d==c)=true then r else d::r)++t;split<;>rfl
variable {ip iq:Str}{mj:Int→Sm}{C N:Str}{c:Nat}
theorem R.OW {j:Nat}(ok:Ok x n gs) (hy:∀i,Ad ip (.str y) (mj i)) (hj:∀i,Ad iq (.int i) (mj i)) (hn:∀i,Ad N (.int nn) (mj i)) (hp:∀i i',Aj iq (.int i) (.int i') (mj i) (mj i')) (hC:C=ch c) (hD:D y j r) (hr:r≠[]) (hyn:nn=y.length) (hyl:y.length<10000) (hk:k=j+r.length)
  (kk:∀j':Nat,D y j' (BX c r)→k=j'+(BX c r).length→R x rest F (mj j') V Q):
  R x (.If (.BoolOp .And [.Compare (.Name iq p1) [.Lt] [.Name N p2] p3,.Compare (.Subscript (.Name ip p4) (.Name iq p5) p6) [.Eq] [.Constant (.str C) k1 p7] p8] p9) [.Assign [.Name iq p'] (.BinOp (.Name iq p10) .Add (.Constant (.int 1) k2 p11) pos) p] [] q::rest) F (mj j) V Q:=by
 induction r with
 |nil=>exact absurd rfl hr
 |cons d r=>
 have hl:=hD.len
 simp only[List.length_cons] at hl hk
 have hlt:(j:Int)<nn:=by lia
 have kk1:(d==c)=true→R x rest F (mj (j+1:Nat)) V Q:=fun h=>kk (j+1) (by simp only[show BX c (d::r)=r from if_pos h];exact hD.next) (by rw[show BX c (d::r)=r from if_pos h];lia)
 have kk2:(d==c)=false→R x rest F (mj j) V Q:=fun h=>kk j (by simp only[show BX c (d::r)=d::r from if_neg (by rw[h];decide)];exact hD) (by rw[show BX c (d::r)=d::r from if_neg (by rw[h];decide)];exact hk)
 clear kk hl hr hk
 exact R.BE (Tb.conv (Tb.and (Tb.cmp (.nm ok (hj _)) (.nm ok (hn _)) Ac.ltI) fun _=>Tb.cmp (Ev.Bn (.nm ok (hy _)) (.nm ok (hj _)) hD rfl hyl) .str Ac.AO) (by simp only[hC,B8,eU hlt];rfl)) (fun hb=>R.AC ok (Ev.bin (.nm ok (hj _)) .int Aq.Aw) (hp _ _) (R.nil (R.next (kk1 hb)))) fun hb=>R.nil (R.next (kk2 hb))
theorem R.ai {j:Nat}{t:List Nat}(ok:Ok x n gs) (hy:∀i,Ad ip (.str y) (mj i)) (hj:∀i,Ad iq (.int i) (mj i)) (hn:∀i,Ad N (.int nn) (mj i)) (hp:∀i i',Aj iq (.int i) (.int i') (mj i) (mj i')) (hC:C=ch c) (hD:D y j (r++c::t)) (hr:r.all (·!=c)=true) (hyn:nn=y.length) (hyl:y.length<10000) (hk:k=j+r.length)
  (kk:D y k (c::t)→R x rest F (mj k) V Q):
  R x (.While (.BoolOp .And [.Compare (.Name iq p1) [.Lt] [.Name N p2] p3,.Compare (.Subscript (.Name ip p4) (.Name iq p5) p6) [.NotEq] [.Constant (.str C) k1 p7] p8] p9) [.Assign [.Name iq p'] (.BinOp (.Name iq p10) .Add (.Constant (.int 1) k2 p11) pos) p] [] q::rest) F (mj j) V Q:=by
 refine R.Cu (ScI y c F V mj t k) ?_ r.length (.mk hD hr hk)
 intro f F' m' W hI
 induction hI with|mk hD hr hk=>
 rename_i r j
 intro _
 have hl:=hD.len
 simp only[eO,List.length_cons] at hl
 induction r with
 |nil=>exact .f (Tb.and (Tb.cmp (.nm ok (hj _)) (.nm ok (hn _)) Ac.ltI) fun _=>Tb.cmp (Ev.Bn (.nm ok (hy _)) (.nm ok (hj _)) hD rfl hyl) .str Ac.Dx) (by simp only[hC,bne,B8,eX];exact Bool.and_false _) (have hk:k=j:=hk;hk▸kk (hk▸hD))
 |cons d r=>
  simp only[List.all_cons,Bool.and_eq_true] at hr
  have hlt:(j:Int)<nn:=by simp only[hyn,hl];simp;lia
  exact .t (Tb.and (Tb.cmp (.nm ok (hj _)) (.nm ok (hn _)) Ac.ltI) fun _=>Tb.cmp (Ev.Bn (.nm ok (hy _)) (.nm ok (hj _)) hD rfl hyl) .str Ac.Dx) (by simp only[hC,bne,B8,eU hlt];exact hr.1) (R.AC ok (Ev.bin (.nm ok (hj _)) .int Aq.Aw) (hp _ _) (R.nil (.mk r.length (ey _) (.mk (j:=j+1) hD.next hr.2 (by simp only[hk,List.length_cons];lia)))))
theorem R.PM (ok:Ok x n gs) (ho:Ev x F m V eo (.val (.ref l))) (h:Ev x F m V e s) (hp:∀v,Aj l (Ab vs) (Ab (vs++[v])) V (W' v)) (hv:vs.length≤100000) (k:∀v,s.ok (some v)→R x rest F m (W' v) Q)
  (hn:autoParam (notStar e=true) aR) (hbase:autoParam (attributeBase eo (Str.ofString "append") x.env (eval eo x.env)=eval eo x.env) aU)
  (hfew:autoParam (((backTo pos (starEach [e] x.env)).all (fun x=> !x.1) && (backToKw pos (keywordEach [] x.env)).all (fun x=>x.1.isSome) && decide ([e].length+([]:List Keyword).length+(if ([]:List Keyword).isEmpty then 0 else 1)<30))=true) aU)
  (hline:autoParam ((p'.endLine==pos.line)=true) aU):
  R x (.Expr (.Call (.Attribute eo (Str.ofString "append") p') [e] [] pos) p::rest) F m V Q:=
 .EP ok ho (.ev h fun v o=>.mk (hp v) hv (k v o)) ⟨vs,(hp .none).has⟩ hn hbase hfew hline
theorem R.doc (ok:Ok x n gs) (k':R x rest F m V Q) (hs:autoParam (swapsWith (.Constant (.str y) k q) none p.line x.env=(Pure.pure false:Sem Bool)) aU):R x (.Expr (.Constant (.str y) k q) p::rest) F m V Q:=
 .Dq ok (.ev .str fun _ _=>k') hs
theorem D.ba (h:D y k r) {i:Int}(hi:i=k):Txt.slice y (some i) none=tx r:=by
 subst hi
 have hl:=h.len
 rw[EB]
 have e1:clip (some (k:Int)) 0 y.length=k:=by simp only[clip];rw[if_neg (by lia)];exact Kt ‹_›
 rw[e1,h.1]
 refine(?_:tx (r.take (y.length - k))=_)
 rw[List.take_of_length_le (QM ‹_›)]
theorem Ev.aX {i:Int}(h1:Ev x F m V (.Name id_ q) (.str y)) (h2:Ev x F m V e1 (.int i)) (hd:D y k r) (hi:i=k) (hy:y.length<10000):
  Ev x F m V (.Subscript (.Name id_ q) (.Slice (some e1) Option.none Option.none p) pos) (.str (tx r)):=by
 simp only[←hd.ba hi]
 exact .sl (lo:=some e1) (hi:=Option.none) (i:=some i) (j:=Option.none) h1 h2 trivial (ec ‹_›)
end
def Eu (p:List Nat):Prop:=HE p=true∧MM p=true
theorem Y9 {c:Nat}(h:Eu [c]):c<128∧c≠42∧c≠63∧c≠91:=by
 have:=h.1
 simp only[HE,Bool.and_eq_true,Bool.not_eq_true',Bool.or_eq_false_iff,decide_eq_true_eq,beq_eq_false_iff_ne] at this
 exact C4 this.1 this.2.1.1 this.2.1.2 this.2.2
theorem Za {p:List Nat}(h:Eu p) (h1:∀c,p≠[c]):∃s,p=91::s++[93]∧FT s=true∧FS s=true:=by
 match p,h with
 |[],h=>exact absurd h.1 (by decide)
 |[c],_=>exact absurd rfl (h1 c)
 |a::b::r,h=>
  have ha:a=91:=by
   by_cases q:a=91
   ·exact q
   ·have:=h.1
    unfold HE at this
    split at this
    ·rename_i e;cases e
    ·rename_i e;cases e;exact absurd rfl q
    ·cases this
  subst ha
  have g1:((b::r).getLast? ==some 93 && FT (b::r).dropLast)=true:=h.1
  have g2:FS (b::r).dropLast=true:=h.2
  have g3:=(fi g1)
  have g4:(b::r).getLast? =some 93:=eq_of_beq g3.1
  refine AE ((b::r).dropLast) ?_ g3.2 g2
  refine Exists.elim (List.getLast?_eq_some_iff.mp g4) fun ys e=>?_
  rw[e,List.dropLast_concat]
  rfl
theorem WB {s:List Nat}(h:FS s=true):BX 33 s≠[]∧(BX 93 (BX 33 s)).all (·!=93)=true∧(45 ∉ s→Txt.replace (tx s) Ez EA=tx (Cg s))∧
  (45 ∈ s→∃cs,DK s=some cs∧Txt.join Fn (cs.map rep2)=tx (Cg s)∧JoinOk Fn (cs.map rep2)=true∧∀l ∈ cs,(Txt.replace (tx l) Ez EA).length≤10):=by
 unfold FS at h
 rw[Bool.and_eq_true,Bool.and_eq_true] at h
 obtain⟨⟨h1,h2⟩,h3⟩:=h
 refine⟨(by intro e;replace h1:=(e)▸h1;cases h1),h2,fun hn=>?_,fun hm=>?_⟩
 ·rw[if_neg (mt List.contains_iff_mem.mp (hn))] at h3
  exact eq_of_beq h3
 ·rw[if_pos (List.contains_iff_mem.mpr (hm))] at h3
  split at h3
  ·rename_i cs e
   rw[Bool.and_eq_true,Bool.and_eq_true] at h3
   exact FP cs e (eq_of_beq h3.1.1) h3.1.2 (fun l hl=>ee (fk h3.2 l hl))
  ·cases h3
theorem WC {s:List Nat}(h:FT s=true):s≠[]∧s.length≤3∧(∃res,Fp (Cg s) 20 0 false []=some res∧Ch s=res.flatten)∧(Cg s).length≤10∧(Ch s).length≤20∧Ch s≠[]∧Ch s≠[33]:=by
 unfold FT at h
 simp only[Bool.and_eq_true,Bool.not_eq_true',decide_eq_true_eq,bne_iff_ne] at h
 obtain⟨⟨⟨⟨⟨⟨⟨⟨h1,h2⟩, -⟩,h3⟩,h4⟩,h5⟩,h6⟩,h7⟩, -⟩:=h
 refine HK (by intro e;rw[e] at h1;cases h1) h2 ?_ h4 h5 (by intro e;rw[e] at h6;cases h6) h7
 refine BZ (Option.isSome_iff_exists.mp h3) fun res e=>?_
 exact⟨res,e,by unfold Ch;rw[e];rfl⟩
theorem Ho {s:List Nat}(h:DK s=some cs):(cs=[s]∧s.length=(if s.head? =some 33 then 2 else 1))∨(∃c,s=[c,45,c]∧c≠33∧cs=[[c],[c]]):=by
 unfold DK at h
 split at h<;>try cases h
 ·split at h
  ·rename_i e;cases h;subst e;exact .inl ⟨rfl,rfl⟩
  ·cases h
 ·split at h
  ·rename_i e;cases h;obtain⟨rfl,rfl⟩:=e;exact .inl ⟨rfl,rfl⟩
  ·cases h
 ·split at h
  ·rename_i e;cases h;obtain⟨rfl,rfl,e⟩:=e;exact .inr (AE _ rfl e rfl)
  ·cases h
noncomputable abbrev Dg (pat:Str) (st rl b:Addr) (n i:Int) (sc sj ss sch sk scu:Sp):Sm:=[("pat",.str pat),("STAR",.val (.ref st)),("QUESTION_MARK",.any),("res",.val (.ref rl)),("add",.val (.ref b)),("i",.int i),("n",.int n),("c",sc),("j",sj),("stuff",ss),("chunks",sch),("k",sk),("chunk",scu)]
structure TF (ps:List (List Nat)) (pat:Str) (g k:Nat) (vs:List Value):Prop where
 le:g≤ps.length
 d:D pat k (ps.drop (ps.length - g)).flatten
 a:Af Ah vs ((ps.take (ps.length - g)).map Ao)
theorem dp (h:D pat 0 (42::ps.flatten)):TF ps pat ps.length 1 []:=⟨eh _,by rw[Nat.sub_self];exact h.next,by rw[Nat.sub_self];exact .nil⟩
inductive TTI (F2:FM) (st rl b:Addr) (ps:List (List Nat)) (pat:Str) (N:Nat) (V:Aa):Nat→FM→Sm→Aa→Prop
 |star {F' Fx sc sj ss sch sk scu:_}:Le F2 F'→Le Fx F'→TTI F2 st rl b ps pat N V (ps.length+1) F' (Dg pat st rl b (N+1) 0 sc sj ss sch sk scu) ((rl,Ab [])::(289,tb Fx AV)::V)
 |run {F' Fx sc sj ss sch sk scu f k vs:_}:Le F2 F'→Le Fx F'→TF ps pat f k vs→TTI F2 st rl b ps pat N V f F' (Dg pat st rl b (N+1) k sc sj ss sch sk scu) ((rl,Ab (.ref st::vs))::(289,tb Fx AV)::V)
inductive CkI (F3:FM) (st rl b cl:Addr) (pat:Str) (n:Int) (k j:Nat) (s rr:List Nat) (cs:List (List Nat)) (W:Aa) (ss scu:Sp):Nat→FM→Sm→Aa→Prop
 |hit {c F:_}:Le F3 F→s=[c,45,c]→cs=[[c],[c]]→CkI F3 st rl b cl pat n k j s rr cs W ss scu 1 F (Dg pat st rl b n ((k+1:Nat):Int) (.str (ch 91)) (.int j) ss (.val (.ref cl)) (.int ((k+2:Nat):Int)) scu) ((cl,Ab [])::W)
 |out {F:_}{i' kk:Nat}{vs:List Value}{cs':List (List Nat)}{last:List Nat}:Le F3 F→cs=cs'++[last]→D pat i' (last++93::rr)→i'+last.length=j→j≤kk→Af (fun v y=>Is y v) vs (cs'.map tx)→last≠[]→vs.length≤3→
  CkI F3 st rl b cl pat n k j s rr cs W ss scu 0 F (Dg pat st rl b n i' (.str (ch 91)) (.int j) ss (.val (.ref cl)) (.int kk) scu) ((cl,Ab vs)::W)
structure SetF (s:List Nat):Prop where
 ne:s≠[]
 s3:s.length≤3
 sub:∃res,Fp (Cg s) 20 0 false []=some res∧Ch s=res.flatten
 l1:(Cg s).length≤10
 two:∃d l,Ch s=d::l∧l.length≤19∧d::l≠[33]
 i1:BX 33 s≠[]
 i2:(BX 93 (BX 33 s)).all (·!=93)=true
 i3:45 ∉ s→Txt.replace (tx s) Ez EA=tx (Cg s)
 i4:45 ∈ s→∃cs,DK s=some cs∧Txt.join Fn (cs.map rep2)=tx (Cg s)∧JoinOk Fn (cs.map rep2)=true∧∀l ∈ cs,(Txt.replace (tx l) Ez EA).length≤10
theorem aF {s:List Nat}(h1:FT s=true) (h2:FS s=true):SetF s:=by
 refine Lp (WC h1) fun hne hs3 hsub hl1 hl2 hn0 hn33=>?_
 refine Hs (WB h2) fun i1 i2 i3 i4=>?_
 refine⟨hne,hs3,hsub,hl1,?_,i1,i2,i3,i4⟩
 cases h:Ch s with
 |nil=>exact absurd h hn0
 |cons d l=>rw[h] at hl2 hn33;exact Bg d l rfl (Nat.le_of_succ_le_succ hl2) hn33
inductive TS (ps:List (List Nat)) (pat:Str) (N:Nat) (vs:List Value) (f k:Nat):Prop
 |fin:k=N+1→Af Ah vs (ps.map Ao)→TS ps pat N vs f k
 |one {g c rr:_}:g<f→vs.length≤100→k<N+1→c<128→c≠42→c≠63→c≠91→D pat k (c::rr)→(∀v,Ah v (E3 c)→TF ps pat g (k+1) (vs++[v]))→TS ps pat N vs f k
 |set {g s rr:_}:g<f→vs.length≤100→SetF s→D pat k (91::(s++93::rr))→k+(s.length+(rr.length+2))=N+1→(∀v,Ah v (Ao (91::s++[93]))→TF ps pat g (k+1+s.length+1) (vs++[v]))→TS ps pat N vs f k
inductive CkF (F4:FM) (pat:Str) (st rl b:Addr) (n i':Int) (j:Nat) (s:List Nat) (cl:Addr) (last:List Nat) (W:Aa) (i:Nat):FM→Sm→Aa→Prop
 |mk {F sk:_}:Le F4 F→CkF F4 pat st rl b n i' j s cl last W i F (Dg pat st rl b n i' (.str (ch 91)) (.int j) (.str (tx s)) (.val (.ref cl)) sk (.str (tx last))) W
theorem dz (a b:Nat) (r:List Nat):Ao (a::b::r)=[91]++De (Ch ((a::b::r).tail.dropLast))++[93]:=by
 rw[Ao]
 intro c h
 cases h
theorem dw {s:List Nat}(h:s≠[]):Ao (91::s++[93])=[91]++De (Ch s)++[93]:=by
 cases s with
 |nil=>exact absurd rfl h
 |cons d r=>
  rw[List.cons_append,List.cons_append,dz,List.tail_cons,←List.cons_append,List.dropLast_concat]
theorem M3 {l:List Nat}(h:l.length≤100):(tx l).length+((tx l).length+1)*(Str.ofString "\\\\").length≤16777216:=by
 rw[Av,show(Str.ofString "\\\\").length=2 from by decide+kernel]
 exact Kv ‹_›
theorem V8 (h:y.length≤100):y.length+(y.length+1)*(Str.ofString "\\-").length≤16777216:=by
 rw[show(Str.ofString "\\-").length=2 from by decide+kernel]
 exact Kv ‹_›
theorem ZY:∀c:Nat,c=1∨c=2→Builtin.divisionGoesByPylong (0 - ((c:Int) - 1)) (-1)=false∧Builtin.Range.small ((c:Int) - 1) 0 (-1)=true∧Builtin.Range.rangeSize ((c:Int) - 1) 0 (-1)=((c - 1:Nat):Int):=by
 rintro c (rfl|rfl)<;>decide+kernel
theorem cL (l:List Nat):(De l).length≤l.length+1:=by
 unfold De
 split
 ·simp
 ·split<;>simp
 ·exact eB _
theorem cM {c:Nat}(h:c≠33):De (c::r)=if c=94∨c=91 then 92::c::r else c::r:=by
 unfold De
 split
 ·rename_i e;cases e;exact absurd rfl h
 ·rename_i e;cases e;rfl
 ·rename_i e;cases e
theorem N0 (a b:Nat):(a==b)=(b==a):=by rw[Bool.eq_iff_iff,beq_iff_eq,beq_iff_eq];exact eq_comm
theorem Sn (c:Nat):decide (cl (ch c)<cl (ch c))=false:=eV (List.lt_irrefl _)
theorem JY:Str.ofString "*"=ch 42:=by decide+kernel
theorem OK:Str.ofString "?"=ch 63:=by decide+kernel
theorem OL:Str.ofString "["=ch 91:=by decide+kernel
theorem H7:Str.ofString "!"=ch 33:=by decide+kernel
theorem OM:Str.ofString "]"=ch 93:=by decide+kernel
theorem af:Str.ofString "-"=ch 45:=by decide+kernel
theorem dn {g:Nat}{p:List Nat}(h:TF ps pat (g+1) k vs) (hp:ps[ps.length - (g+1)]? =some p) (hv:Ah v (Ao p)):TF ps pat g (k+p.length) (vs++[v]):=by
 have e1:ps.length - g=ps.length - (g+1)+1:=by have:=h.le;exact Go ‹_›
 refine⟨Nat.le_of_succ_le h.le,?_,?_⟩
 ·have hd:=h.d
  simp only[EV hp,List.flatten_cons] at hd
  have:=hd.skip p.length (by rw[eO];exact Nat.le_add_right _ _)
  rw[List.drop_left] at this
  rw[e1];exact this
 ·simp only[e1,take_snoc hp,eQ]
  exact h.a.snoc hv
theorem dF {f:Nat}(hok:∀p ∈ ps,Eu p) (hpl:ps.length<100) (hN:pat.length=N+1) (h:TF ps pat f k vs):TS ps pat N vs f k:=by
 have hvl:=h.a.len
 simp only[eM,eZ] at hvl
 have hkl:=h.d.len
 cases f with
 |zero=>
  have ha:=h.a
  simp only[Nat.sub_zero,List.drop_length,List.flatten_nil,List.length_nil] at hkl
  simp only[Nat.sub_zero,List.take_length] at ha
  exact .fin (by lia) ha
 |succ g=>
  have hg:=h.le
  obtain⟨p,hp⟩:∃p,ps[ps.length - (g+1)]? =some p:=⟨_,eN (Qk ‹_›)⟩
  have hk:=hok p (List.mem_of_getElem? hp)
  have hn:=fun v=>dn (v:=v) h hp
  have hd:=h.d
  simp only[EV hp,List.flatten_cons] at hd hkl
  by_cases h1:∃c,p=[c]
  ·obtain⟨c,rfl⟩:=h1
   refine Hs (Y9 hk) fun hc n1 n2 n3=>?_
   exact .one (ey g) (Kw ‹_› ‹_›) (by simp only[eO,List.length_singleton] at hkl;lia) hc n1 n2 n3 hd hn
  ·obtain⟨s,rfl,hin,hin2⟩:=Za hk fun c e=>h1 ⟨c,e⟩
   simp only[fa] at hd
   refine .set (rr:=(ps.drop (ps.length - (g+1)+1)).flatten) (ey g) (Kw ‹_› ‹_›) (aF hin hin2) hd (by have hz:=hd.len;simp only[eO,List.length_cons,List.length_nil,List.cons_append] at hz;lia) fun v hv=>?_
   have:=hn v hv
   simp only[eO,List.length_cons,List.length_singleton] at this
   rw[show k+1+s.length+1=k+(s.length+1+1) by lia]
   exact this
theorem R1 {st rl b cl:Addr}{n:Int}{j:Nat}{s rr:List Nat}{ss scu:Sp}(hc:DK s=some cs) (hne:s≠[]) (hD:D pat (k+1) (s++93::rr)) (hj:k+1+s.length=j):
  ∃f0,CkI F3 st rl b cl pat n k j s rr cs W ss scu f0 F3 (Dg pat st rl b n ((k+1:Nat):Int) (.str (ch 91)) (.int j) ss (.val (.ref cl)) (.int ((k+1+(if s.head? =some 33 then 2 else 1):Nat):Int)) scu) ((cl,Ab [])::W):=by
 rcases Ho hc with ⟨rfl,hlen⟩|⟨c,hsc,hc33,rfl⟩
 ·exact⟨0,.out (cs':=[]) (last:=s) (Le.refl _) rfl hD hj (by lia) .nil hne (eB _)⟩
 ·refine⟨1,?_⟩
  refine(show k+1+(if s.head? =some 33 then 2 else 1)=k+2 by rw[hsc,if_neg (by simpa using hc33)])▸?_
  exact .hit (Le.refl _) hsc rfl
theorem RY {s:List Nat}(hc:DK s=some cs):cs.length=1∨cs.length=2:=by
 rcases Ho hc with ⟨rfl,_⟩|⟨c,_,_,rfl⟩
 ·exact .inl rfl
 ·exact .inr rfl
theorem RZ {s:List Nat}(hc:DK s=some cs) (h3:s.length≤3):∀l ∈ cs,l.length≤3:=fun l hl=>by
 rcases Ho hc with ⟨rfl,_⟩|⟨c, -, -,rfl⟩
 ·rw[List.mem_singleton.mp hl];exact h3
 ·rcases fj hl with rfl|hl
  ·exact d7 rfl
  ·rw[List.mem_singleton.mp hl];exact d7 rfl
theorem R2 {s:List Nat}(hc:DK s=some cs) (hv:Af (fun v y=>Is y v) vs (cs.map tx)) (hi:i<cs.length - 1):∃c w0 w1,i=0∧cs.length=2∧vs[0]? =some w0∧vs[1]? =some w1∧(Sp.str (tx [c])).ok (some w0)∧(Sp.str (tx [c])).ok (some w1):=by
 rcases Ho hc with ⟨rfl,_⟩|⟨c, -, -,rfl⟩
 ·exact absurd hi (Nat.not_lt_zero _)
 ·refine Ag (hv.get (i:=0) rfl) fun w0 e0 h0=>?_
  refine Ag (hv.get (i:=1) rfl) fun w1 e1 h1=>?_
  exact FQ c w0 w1 (Nat.lt_one_iff.mp hi) rfl e0 e1 h0.ok h1.ok
theorem Wa {s0:List Nat}(h:(ch d0==Str.ofString "!")=true):(if (d0::s0).head? =some 33 then 2 else 1)=2:=by
 rw[show Str.ofString "!"=ch 33 from by decide+kernel,B8] at h
 rw[eq_of_beq h];rfl
theorem Wb {s0:List Nat}(h:(ch d0==Str.ofString "!")=false):(if (d0::s0).head? =some 33 then 2 else 1)=1:=by
 rw[show Str.ofString "!"=ch 33 from by decide+kernel,B8] at h
 rw[if_neg (by simpa using h)]
theorem M2 {s:List Nat}{b:Bool}(h:(!Txt.contains (tx s) (Str.ofString "-"))=b):(if b=true then 45 ∉ s else 45 ∈ s):=by
 rw[show Str.ofString "-"=ch 45 from by decide+kernel,IK,DL] at h
 cases b<;>simpa using h
theorem OR {b:Bool}(h:([[94],[91]].any fun l=>tx l==ch d)=b):(if b=true then d=94∨d=91 else ¬(d=94∨d=91)):=by
 simp only[show([[94],[91]].any fun l=>tx l==ch d)=(ch 94==ch d||(ch 91==ch d||false)) from rfl,B8,B8,Bool.or_false,N0 94,N0 91] at h
 cases b<;>simpa using h
theorem ZW (h3:∀l ∈ cs,l.length≤3) (hr:∀l ∈ cs,(Txt.replace (tx l) Ez EA).length≤10):∀y ∈ cs.map tx,y.length+(y.length+1)*(Str.ofString "\\\\").length≤16777216∧(Txt.replace y (Str.ofString "\\") (Str.ofString "\\\\")).length+((Txt.replace y (Str.ofString "\\") (Str.ofString "\\\\")).length+1)*(Str.ofString "\\-").length≤16777216:=fun y hy=>by
 obtain⟨l,hl,rfl⟩:=List.mem_map.mp hy
 exact⟨M3 (eb (h3 l hl) (by decide)),V8 (eb (hr l hl) (by decide))⟩
theorem OC (cs:List (List Nat)):(cs.map tx).map (fun y=>Txt.replace (Txt.replace y (Str.ofString "\\") (Str.ofString "\\\\")) (Str.ofString "-") (Str.ofString "\\-"))=cs.map rep2:=by exact e8
theorem dH {st:Addr}(rm:Rm (n+3) A) (hps:∀p ∈ ps,Eu p) (hpl:ps.length<100) (hpat:pat.length=N+1) (hfl:N<1000) (hD0:D pat 0 (42::ps.flatten)) (hF:Le F0 F)
  (h:∀F' il vs F1,Le F F'→Ls F' il (.ref st::vs)→Af Ah vs (ps.map Ao)→Le F1 F'→Q (.ref il) F' ((289,tb F1 AV)::V)):
  RV (cx w os) A (.call (.ref 294) ⟨[.str pat t,.ref st,.str (Str.ofString ".") u],[]⟩) F ((289,tb F0 AV)::V) Q:=by
 refine RV.Ja ["pat","STAR","QUESTION_MARK","res","add","i","n","c","j","stuff","chunks","k","chunk"] ["len","range","_twin_re_1","escape"] [("pat",.str pat),("STAR",.val (.ref st)),("QUESTION_MARK",.any),("res",.any),("add",.any),("i",.any),("n",.any),("c",.any),("j",.any),("stuff",.any),("chunks",.any),("k",.any),("chunk",.any)]
  rm (Mu w os) (binds:=[("pat",.str pat t),("STAR",.ref st),("QUESTION_MARK",.str (Str.ofString ".") u)]) rfl (by kernel_rfl) (by kernel_rfl) (by rfl) ⟨⟨_,rfl⟩,rfl,trivial,trivial,trivial,trivial,trivial,trivial,trivial,trivial,trivial,trivial,trivial,trivial⟩ ?_
 rintro x ok - - hcode hqual
 refine(?_:R _ (_::_) _ _ _ _)
 refine R.new ok (fun a=>put3) fun rl=>?_
 refine R.Bi ok (Rx.KV ok Ay has0 fun F1 b le1 bd=>As.fC BF ?_)
 refine R.KP ok (s1:=.int 0) (s2:=.int (N+1)) Ax AG .int (Ev.to (Ev.Bv ok AK (.nm ok has0) (by lia)) (show Sp.int (pat.length:Nat)=Sp.int ((N:Int)+1) from congrArg (fun n:Nat=>Sp.int n) hpat)) fun t1 t2 F2 le2=>.mk (.fq ok Db) (.fq ok Br) ?_
 have bd2:=bd.le le2
 have le02:=Le.trans le1 le2
 refine R.Cu (TTI F2 st rl b ps pat N V) ?_ (ps.length+1) (.star (Le.refl _) (Le.trans hF le02))
 intro f F3 m3 W3 hI
 induction hI with
 |star le23 hFx=>
  rename_i F3 Fx sc sj ss sch sk scu
  intro le3
  refine .t (Tb.cmp (.nm ok Ax) (.nm ok AG) Ac.ltI) (eU KI) ?_
  refine R.AC ok (Ev.Bn (.nm ok has0) (.nm ok Ax) hD0 (by rfl) (by lia)) D5 ?_
  refine R.AC ok (.bin (.nm ok Ax) .int .Aw) Br ?_
  refine R.B2 (Tb.cmp (.nm ok BM) .str Ac.AO) (by rw[JY];exact eX _) ?_
  refine R.B2 (Tb.or (b2:=false) (Tb.not (Tb.fx (.nm ok Ay) has0 (d7 rfl))) (fun q=>(by cases q))) rfl ?_
  refine R.Kl ok (bd2.le le23) Az (s:=.val (.ref st)) (.nm ok Ai) (fun _=>.head) (d7 rfl) ?_
  refine(?_:R _ _ _ _ _ _)
  refine R.nil (.next (.nil (.next (.nil ?_))))
  exact .mk ps.length (ey _) (.run (k:=1) (vs:=[]) le23 hFx (dp hD0))
 |run le23 hFx tf=>
  rename_i F3 Fx sc sj ss sch sk scu f k vs
  intro le3
  have bd3:=bd2.le le23
  cases dF hps hpl hpat tf with
  |fin hk hvs=>
   refine .f (Tb.cmp (.nm ok Ax) (.nm ok AG) Ac.ltI) (eV (by lia)) ?_
   refine R.FC (Tb.conv (Tb.cmp (.nm ok Ax) (.nm ok AG) Ac.DO) (beq_iff_eq.mpr (congrArg _ ‹_›))) ?_
   exact R.D6 (v:=.ref rl) (.nm ok Ay) (En.fx fun F4 le4 ls=>En.one (h F4 rl vs Fx (Le.trans le02 (Le.trans le23 le4)) ls hvs (Le.trans hFx le4)))
  |one hgf hvl hk hc n1 n2 n3 hD fin=>
   rename_i g c rr
   refine .t (Tb.cmp (.nm ok Ax) (.nm ok AG) Ac.ltI) (eU (Int.ofNat_lt.mpr ‹_›)) ?_
   refine R.AC ok (Ev.Bn (.nm ok has0) (.nm ok Ax) hD (by rfl) (by lia)) D5 ?_
   refine R.AC ok (.bin (.nm ok Ax) .int .Aw) Br ?_
   refine R.A3 (Tb.cmp (.nm ok BM) .str Ac.AO) ((Cz c JY).trans (beq_false_of_ne n1)) ?_
   refine R.A3 (Tb.cmp (.nm ok BM) .str Ac.AO) ((Cz c OK).trans (beq_false_of_ne n2)) ?_
   refine R.A3 (Tb.cmp (.nm ok BM) .str Ac.AO) ((Cz c OL).trans (beq_false_of_ne n3)) ?_
   refine R.Km ok bd3 Az (Rx.BI ok D0 Vk (Mg _ _) (.cons (s:=.str (ch c)) (.nm ok BM) .nil) fun t=>Tt (n:=n+1) ok.rm hc fun F' v le hv=>.mk (vs:=.ref st::vs) .head (by rw[List.length_cons];exact ef ‹_› (d7 rfl)) ?_)
   refine R.nil (.next (.nil (.next (.nil (.next (.nil ?_))))))
   exact .mk g hgf (.run (k:=k+1) (vs:=vs++[v]) (Le.trans le23 le) (Le.trans hFx le) (fin v hv))
  |set hgf hvl H hD hlen fin=>
   rename_i g s rr
   have hD1:D pat (k+1) (s++93::rr):=hD.next
   have hs3:=H.s3
   have hl1:=H.l1
   refine .t (Tb.cmp (.nm ok Ax) (.nm ok AG) Ac.ltI) (eU (by lia)) ?_
   refine R.AC ok (Ev.Bn (.nm ok has0) (.nm ok Ax) hD (by rfl) (by lia)) D5 ?_
   refine R.AC ok (.bin (.nm ok Ax) .int .Aw) Br ?_
   refine R.A3 (Tb.cmp (.nm ok BM) .str Ac.AO) ((Cz 91 JY).trans rfl) ?_
   refine R.A3 (Tb.cmp (.nm ok BM) .str Ac.AO) ((Cz 91 OK).trans rfl) ?_
   refine R.B2 (Tb.cmp (.nm ok BM) .str Ac.AO) ((Cz 91 OL).trans rfl) ?_
   refine R.AC ok (.nm ok Ax) put8 ?_
   refine R.OW (mj:=fun i=>Dg pat st rl b (N+1) (k+1) (.str (ch 91)) (.int i) ss sch sk scu) (j:=k+1) (k:=N+1) ok (fun _=>has0) (fun _=>BN) (fun _=>AG) (fun _ _=>put8) H7 hD1 (by simp) (by rw[hpat];rfl) (by lia) (by rw[eO,List.length_cons];lia) fun j1 hD2 he1=>?_
   rw[OV H.ne] at hD2 he1
   refine R.OW (mj:=fun i=>Dg pat st rl b (N+1) (k+1) (.str (ch 91)) (.int i) ss sch sk scu) (k:=N+1) ok (fun _=>has0) (fun _=>BN) (fun _=>AG) (fun _ _=>put8) OM hD2 (by simp) (by rw[hpat];rfl) (by lia) he1 fun j2 hD3 he2=>?_
   rw[OV H.i1] at hD3 he2
   rw[eO,List.length_cons] at he2
   refine R.ai (mj:=fun i=>Dg pat st rl b (N+1) (k+1) (.str (ch 91)) (.int i) ss sch sk scu) (k:=k+1+s.length) ok (fun _=>has0) (fun _=>BN) (fun _=>AG) (fun _ _=>put8) OM hD3 H.i2 (by rw[hpat];rfl) (by lia) (by lia) fun _=>?_
   generalize hj:k+1+s.length=j at fin⊢
   clear hD hD2 he1 hD3 he2
   refine R.A3 (Tb.cmp (.nm ok BN) (.nm ok AG) Ac.DQ) (eV (by lia)) ?_
   refine R.AC ok (Ev.to (s':=.str (tx s)) (Ev.D8 s.length (.nm ok has0) (.nm ok Ax) (.nm ok BN) hD1 (by rfl) (by lia) (by lia)) (by rw[List.take_left])) CH ?_
   refine R.GL (fun Z=>∀F' Fy i sch sk scu,Le F3 F'→Le Fy F'→Z F' (Dg pat st rl b (N+1) i (.str (ch 91)) (.int j) (.str (tx (Cg s))) sch sk scu) ((rl,Ab (.ref st::vs))::(289,tb Fy AV)::V))
    (Tb.cmp .str (.nm ok AT) Ac.N5) (fun F5 Fy i5 sch sk scu le5 hFy=>?_) (fun meet hb=>?_) (fun meet hb=>?_)
   ·refine Ag H.sub fun res hsub hres=>Bk H.two fun d2 l2 h2 hl2 hn33=>?_
    refine R.Bi ok (cS (p3:=⟨0,0,0,0⟩) ok (hcode.trans (by rfl)) (hqual.trans (by kernel_rfl)) Ce AT (eb ‹_› (d7 rfl)) hFy (.tail .head) hsub (by rfl) fun v Fz F6 le6 hFz hv=>.mk (s:=.str (tx (d2::l2))) ((h2.symm.trans hres)▸hv.ok) CH ?_)
    refine R.sb (W:=(rl,Ab (.ref st::vs))::(289,tb Fz AV)::V) (Part.sb (.cons (.tail .head) .refl)) ?_
    refine R.AC ok (.bin (.nm ok BN) .int .Aw) Br ?_
    have hz:(tx (d2::l2)).length=l2.length+1:=Av _
    refine R.A3 (Tb.not (Tb.val (.nm ok AT) (Bz.str (by rw[hz];exact ef ‹_› (d7 rfl))))) (by rw[hz];rfl) ?_
    refine R.A3 (Tb.cmp (.nm ok AT) .str Ac.AO) (by rw[H7,show ch 33=tx [33] from rfl,Kc];exact beq_false_of_ne hn33) ?_
    have hD0:D (tx (d2::l2)) 0 (d2::l2):=D.zero _
    have hs3l:=cL (d2::l2)
    rw[List.length_cons] at hs3l
    refine R.GL (fun Z=>∀F7,Le F6 F7→Z F7 (Dg pat st rl b (N+1) (j+1) (.str (ch 91)) (.int j) (.str (tx (De (d2::l2)))) sch sk scu) ((rl,Ab (.ref st::vs))::(289,tb Fz AV)::V))
     (Tb.cmp (Ev.Bn (.nm ok AT) .int hD0 (by rfl) (by rw[hz];lia)) .str Ac.AO) (fun F7 le7=>?_) (fun meet hb=>?_) (fun meet hb=>?_)
    ·have leA:=Le.trans le5 (Le.trans le6 le7)
     refine R.Kl (s:=.str (tx ([91]++De (d2::l2)++[93]))) ok (bd3.le leA) Az (Ev.to (Ev.Md (Ev.Bc (l:=[91]) (by decide+kernel)) (Ev.fv (.nm ok AT) (by rw[Av];lia)) (Ev.Bc (l:=[93]) (by decide+kernel)) (by rw[strLen_append,strLen_append,Av,Av,Av];refine(?_:1+_+1≤_);lia)) (by rw[Gh,Gh])) (fun _=>.head) (by rw[List.length_cons];exact ef ‹_› (d7 rfl)) fun tv=>?_
     refine R.nil (.next (.nil (.next (.nil (.next (.nil (.next (.nil (.next (.nil (.next (.nil ?_))))))))))))
     exact .mk g hgf (.run (k:=j+1) (vs:=vs++[_]) (Le.trans le23 leA) (Le.trans hFz le7) (fin _ ⟨tv,by rw[dw H.ne,h2]⟩))
    ·rw[H7,B8] at hb
     have e3:De (d2::l2)=94::l2:=by rw[eq_of_beq hb];rfl
     rw[e3] at meet
     exact R.AC ok (Ev.to (s':=.str (tx (94::l2))) (Ev.bin (Ev.Bc (l:=[94]) (by decide+kernel)) (Ev.aX (.nm ok AT) .int hD0.next (by rfl) (by rw[hz];lia)) (Aq.B7 (by decide) (eb ‹_› (d7 rfl)))) rfl) CH (R.nil (meet F6 (Le.refl _)))
    ·rw[H7,B8] at hb
     have e3:De (d2::l2)=if d2=94∨d2=91 then 92::d2::l2 else d2::l2:=cM (ne_of_beq_false hb)
     refine R.E6 (Tx.Wx (Ev.Bn (.nm ok AT) .int hD0 (by rfl) (by rw[hz];lia)) (Rx.BR (.cons (s:=.str (tx [94])) (Ev.Bc (l:=[94]) (by decide+kernel)) (.cons (s:=.str (tx [91])) (Ev.Bc (l:=[91]) (by decide+kernel)) .nil)) fun t1 t2 F7 a le7 ht=>.mk rfl ht (.cons ⟨t1,rfl⟩ (.cons ⟨t2,rfl⟩ .nil)) ⟨fun hq=>?_,fun hq=>?_⟩))
     ·rw[if_pos (show d2=94∨d2=91 from OR hq)] at e3
      rw[e3] at meet
      exact R.AC ok (Ev.to (s':=.str (tx (92::d2::l2))) (Ev.bin (Ev.Bc (l:=[92]) (by decide+kernel)) (.nm ok AT) (Aq.B7 (by decide) (by rw[List.length_cons];exact ef ‹_› (d7 rfl)))) rfl) CH (R.nil (R.next (R.nil (meet F7 le7))))
     ·rw[if_neg (show ¬(d2=94∨d2=91) from OR hq)] at e3
      rw[e3] at meet
      exact R.nil (R.next (R.nil (meet F7 le7)))
   ·exact R.AC ok (Ev.to (Ev.replace (.nm ok AT) (by decide+kernel) (M3 (eb ‹_› (d7 rfl)))) (congrArg Sp.str (H.i3 (M2 hb)))) CH (R.nil (meet F3 Fx _ _ _ _ (Le.refl _) hFx))
   ·refine Gz (H.i4 (M2 hb)) fun cs hcs hjo hjok hrl=>?_
    refine R.new ok (fun a=>FY) fun cl=>?_
    refine R.AC ok (s:=.int ((k+1+(if s.head? =some 33 then 2 else 1):Nat):Int)) ?_ Da ?_
    ·cases s with
     |nil=>exact absurd rfl H.ne
     |cons d0 s0=>exact Ev.ite (Tb.cmp (Ev.Bn (.nm ok has0) (.nm ok Ax) hD1 (by rfl) (by lia)) .str Ac.AO) (fun hq=>Ev.to (Ev.bin (.nm ok Ax) .int Aq.Aw) (by rw[Wa hq];rfl)) (fun hq=>Ev.to (Ev.bin (.nm ok Ax) .int Aq.Aw) (by rw[Wb hq];rfl))
    refine BZ (R1 hcs H.ne hD1 hj) fun f0 hI0=>R.Cu (CkI F3 st rl b cl pat (N+1) k j s rr cs ((rl,Ab (.ref st::vs))::(289,tb Fx AV)::V) (.str (tx s)) scu) ?_ f0 hI0
    intro f1 F4 m4 W4 hI
    induction hI with
    |hit le34 hsc hcc=>
     rename_i c F4
     intro _
     rw[hsc] at hD1 hj
     have hj:j=k+4:=hj.symm
     refine .t Tb.tt rfl ?_
     refine R.AC ok (Ev.to (s':=.int ((k+2:Nat):Int)) (Ev.C2 (.nm ok has0) .str (.nm ok AN) (.nm ok BN)) (congrArg Sp.int (Ub rfl rfl af hD1.next (by lia)))) Da ?_
     refine R.A3 (Tb.cmp (.nm ok AN) .int Ac.ltI) (eV (by lia)) ?_
     refine R.nil (.next ?_)
     refine R.CW ok (.nm ok AQ) (s:=.str (tx [c])) (Ev.to (s':=.str (tx [c])) (Ev.D8 1 (.nm ok has0) (.nm ok Ax) (.nm ok AN) hD1 (by rfl) (by rfl) (by lia)) rfl) (fun _=>.head) (d7 rfl) fun tv=>?_
     refine R.AC ok (.bin (.nm ok AN) .int .Aw) Br (.AC ok (.bin (.nm ok AN) .int .Aw) Da (.nil ?_))
     exact .mk 0 Nat.zero_lt_one (.out (i':=k+3) (kk:=k+5) (cs':=[[c]]) (last:=[c]) le34 hcc hD1.next.next (by rw[hj];rfl) (by lia) (.cons ⟨tv,rfl⟩ .nil) (by simp) (d7 rfl))
    |out le34 hcc hDl hjl hkk hvs4 hla hv3=>
     rename_i F4 i' kk vs4 cs' last
     intro _
     have hcn:=RY hcs
     refine .t Tb.tt rfl ?_
     refine R.AC ok (Ev.to (s':=.int (-1)) (Ev.C2 (.nm ok has0) .str (.nm ok AN) (.nm ok BN)) (congrArg Sp.int (Uc rfl rfl (by decide+kernel) hkk))) Da ?_
     refine R.B2 (Tb.cmp (.nm ok AN) .int Ac.ltI) rfl (R.brk ?_)
     refine R.AC ok (Ev.to (s':=.str (tx last)) (Ev.D8 last.length (.nm ok has0) (.nm ok Ax) (.nm ok BN) hDl (by rfl) (by lia) (by lia)) (by rw[List.take_left])) G5 ?_
     have hlal:last.length≠0:=fun e=>hla (List.eq_nil_of_length_eq_zero e)
     refine R.B2 (Tb.val (.nm ok HG) (Bz.str (by rw[Av];lia))) (by rw[Av];simpa using hlal) ?_
     refine R.CW ok (.nm ok AQ) (s:=.str (tx last)) (.nm ok HG) (fun _=>.head) (eb ‹_› (d7 rfl)) fun t5=>?_
     refine(?_:R _ _ _ _ _ _)
     have hvs5:Af (fun v y=>Is y v) (vs4++[.str (tx last) t5]) (cs.map tx):=by rw[hcc,eQ];exact hvs4.snoc ⟨t5,rfl⟩
     have hl5:=hvs5.len
     rw[eM] at hl5
     generalize vs4++[.str (tx last) t5]=vs5 at hvs5 hl5⊢
     clear hcc hDl hvs4 hla hlal hv3 hjl hkk
     refine R.nil (.next ?_)
     have hr:=ZY _ hcn
     refine R.DP ok (cs.length - 1) (fun i v=>(Sp.int ((cs.length:Int) - 1+i*(-1))).ok (some v)) (CkF F4 pat st rl b (N+1) i' j s cl last ((cl,Ab vs5)::(rl,Ab (.ref st::vs))::(289,tb Fx AV)::V))
      (Rx.H5 ok Bx (Ev.bin (Ev.to (Ev.A5 ok AK (.nm ok AQ) has0 (by lia)) (by rw[hl5])) .int Aq.Bh) .int (.neg .int) (by decide) hr.1 fun F' r le hrr=>⟨.rg hrr hr.2.1 hr.2.2,.mk le⟩) ?_ ?_
     ·intro i6 F6 m6 W6 v6 hi6 hI
      induction hI with|mk le46=>
      rename_i F6 sk
      intro hv6 le6
      refine .mk (Au.loc ok hv6 Da) ?_
      refine EZ (R2 hcs hvs5 hi6) fun c w0 w1 hi0 h2 e0 e1 o0 o1=>?_
      rw[hi0,h2]
      refine R.A3 (Tb.cmp (Ev.WK (l:=[]) (c:=c) (Ev.B9 (k:=0) (.nm ok AQ) (Ev.bin (.nm ok AN) .int Aq.Bh) has0 e0 (by rfl) (by lia) o0) (.neg .int) (by decide)) (Ev.Bn (y:=tx [c]) (Ev.B9 (k:=1) (.nm ok AQ) (.nm ok AN) has0 e1 (by rfl) (by lia) o1) .int (D.zero _) (by rfl) (by rw[Av];exact d7 rfl)) Ac.Jo) (Sn c) ?_
      refine R.nil (.next (.nil ?_))
      exact .mk le46
     ·intro F6 m6 W6 hI
      induction hI with|mk le46=>
      rename_i F6 sk
      intro le6
      have le36:=Le.trans le34 le46
      refine R.Bi ok (Rx.WR (ys:=cs.map tx) ok (hcode.trans (by rfl)) (hqual.trans (by kernel_rfl)) Lh (JJ 289 (by decide)) (qs:=AV) rfl (Le.trans hFx le36) (.tail (.tail .head)) AQ has0 hvs5 (by decide+kernel) (by decide+kernel) (ZW (RZ hcs hs3) hrl) (by rw[OC];exact hjok) (by rw[eM];lia) (fun v F7 le7 hv=>.mk (s:=.str (tx (Cg s))) (by rw[OC,hjo] at hv;exact hv) CH ?_)
       (by rfl) (by rfl) (by decide+kernel) (by decide+kernel) (by decide+kernel) (by rfl) (by decide+kernel) (by rfl) (by rfl) (by rfl))
      exact R.sb (W:=(rl,Ab (.ref st::vs))::(289,tb F7 AV)::V) (Part.sb (.cons (.tail (.tail .head)) (.cons .head (.skip .refl)))) (R.nil (meet F7 F7 _ _ _ _ (Le.trans le36 le7) (Le.refl _)))
theorem dG {st:Addr}(rm:Rm (n+3) A) (hps:∀p ∈ ps,Eu p) (hpl:ps.length<100) (hfl:ps.flatten.length<1000) (hF:Le F0 F)
  (h:∀F' il vs F1,Le F F'→Ls F' il (.ref st::vs)→Af Ah vs (ps.map Ao)→Le F1 F'→Q (.ref il) F' ((289,tb F1 AV)::V)):
  RV (cx w os) A (.call (.ref 294) ⟨[.str (tx (42::ps.flatten)) t,.ref st,.str (Str.ofString ".") u],[]⟩) F ((289,tb F0 AV)::V) Q:=
 dH rm hps hpl (Av _) hfl (D.zero _) hF h
theorem dC (rm:Rm (n+4) A) (hps:∀p ∈ ps,Eu p) (hp0:0<ps.length) (hpl:ps.length<100) (hfl:ps.flatten.length<1000) (hfl2:(ps.map Ao).flatten.length≤1000) (hF:Le F0 F)
  (h:∀F' v F1,Le F F'→Le F1 F'→Ah v (DV (ps.map Ao))→Q v F' ((289,tb F1 AV)::V)):
  RV (cx w os) A (.call (.ref 275) ⟨[.str (tx (42::ps.flatten)) t],[]⟩) F ((289,tb F0 AV)::V) Q:=by
 refine RV.fn ["pat","STAR","parts"] ["object","_translate","_join_translated_parts"] [("pat",.str (tx (42::ps.flatten))),("STAR",.any),("parts",.any)]
  rm (Mw w os) (binds:=[("pat",.str (tx (42::ps.flatten)) t)]) rfl (by kernel_rfl) (by kernel_rfl) (by rfl) (C4 ⟨_,rfl⟩ trivial trivial trivial) ?_
 rintro x ok - -
 refine(?_:R _ (_::_) _ _ _ _)
 refine R.doc ok ?_
 refine R.asg ok (Rx.JO ok AK fun a=>AE a rfl rfl rfl) ?_ (Qv:=fun v F' W=>∃b,v= .ref b∧F=F'∧W=(b,G2)::(289,tb F0 AV)::V)
 rintro _ _ _ - ⟨st,rfl,rfl,rfl⟩
 refine Cr (.val (.ref st)) _ _ rfl BQ ?_
 refine R.sb (W:=(289,tb F0 AV)::V) (Part.sb (.cons (.tail .head) (.skip .refl))) ?_
 refine R.asg ok (Qv:=fun v F' W=>∃il vs F1,v= .ref il∧Le F F'∧Ls F' il (.ref st::vs)∧Af Ah vs (ps.map Ao)∧Le F1 F'∧W=(289,tb F1 AV)::V) (Rx.fn ok Bx Vh (Mu _ _) (.cons (s:=.str (tx (42::ps.flatten))) (.nm ok has0) (.cons (s:=.val (.ref st)) (.nm ok Ai) (.cons (s:=.str (Str.ofString ".")) .str .nil))) fun us o=>?_) ?_
 ·obtain⟨_,_,_,rfl,⟨t1,⟨⟩⟩,⟨⟩,t3,⟨⟩⟩:=o.three
  exact dG (n:=n) ok.rm hps hpl hfl hF fun F' il vs F1 le ls hvs l1=>FQ il vs F1 rfl le ls hvs l1 rfl
 rintro _ F2 _ - ⟨il,vs,F1,rfl,le,ls,hvs,l1,rfl⟩
 refine Cr (.val (.ref il)) _ _ rfl put2 ?_
 refine R.ret (Qv:=fun v F' W=>Le F2 F'∧Ah v (DV (ps.map Ao))∧W=(289,tb F1 AV)::V) (Rx.fn ok Ce U6 (Mj _ _) (.cons (s:=.val (.ref il)) (.nm ok Al) (.cons (s:=.val (.ref st)) (.nm ok Ai) .nil)) fun us o=>?_) ?_
 ·obtain⟨_,_,rfl,⟨⟩,⟨⟩⟩:=o.two
  exact WW (n:=n+2) ok.rm ls hvs (by rw[eM];exact hp0) (by rw[eM];exact ec ‹_›) hfl2 fun F' v le hv=>⟨le,hv,rfl⟩
 ·rintro v F3 _ - ⟨le3,hv,rfl⟩
  exact En.one (h F3 v F1 (Le.trans le le3) (Le.trans l1 le3) hv)
def AH (dx:Addr) (o:Obj):Prop:=o.cls= .ref 259∧o.dict=some dx∧∀c,o.data≠.cls c
def atS (m:Sm) (o:Obj):Prop:=(m.map (·.1)).Nodup∧m.length≤100∧∃es ep,o.data= .dict es ep∧StrKeys es∧UniqKeys es∧(∀p ∈ m,p.2.ok (nsFind es p.1))∧∀y,nsFind es y≠none→y ∈ m.map (·.1)
noncomputable def Gf (w:World) (n:Str):Option Value:=nsFind (BC (HV w.params)) n
def Cj (w:World) (name:Str):Prop:=Gf w name=none∧typeLookup (.type "object") name=(Pure.pure none:Sem (Option Value))
section
theorem GB (S:StP (cx w os) F V s) (k:∀nm q bs sn sub col dd k0 k1 k2 k3 k5,s.heap.get? 259=some (excClassObj nm q 259 258 bs [.type "object"] true sn sub false col dd k0 k1 k2 k3 k5 "object.__new__")→s.heap.Ns 258 (Gf w)→G):G:=
 k _ _ _ _ _ _ _ _ _ _ _ _ (S.own.fro _ (HW) (S.base _ _ (by kernel_rfl))) (CC (HV w.params) (BC (HV w.params)) _ (S.own.fro _ _ (S.base _ _ (by kernel_rfl))) rfl (Ib (by kernel_rfl)) (fun _=>rfl))
theorem N3 {α β:Type}{l:List (α×β)}(nd:(l.map (·.1)).Nodup) {p q:α×β}(hp:p ∈ l) (hq:q ∈ l) (e:p.1=q.1):p=q:=by
 induction l with
 |nil=>contradiction
 |cons x l ih=>
  have⟨n,nd⟩:=List.nodup_cons.mp nd
  rcases fj hp with rfl|a<;>rcases fj hq with rfl|b
  ·rfl
  ·exact(n (List.mem_map.mpr ⟨_,b,e.symm⟩)).elim
  ·exact(n (List.mem_map.mpr ⟨_,a,e⟩)).elim
  ·exact ih nd a b
theorem O6:Gf w "__getattribute__"=none:=by kernel_rfl
theorem bc:Gf w "__getattr__"=none:=by kernel_rfl
theorem be:Gf w "__setattr__"=none:=by kernel_rfl
theorem NU:Cj w "isjunk":=⟨by kernel_rfl,by rw[eS,eR];kernel_rfl⟩
theorem GZ:Cj w "a":=⟨by kernel_rfl,by rw[eS,eR];kernel_rfl⟩
theorem G0:Cj w "b":=⟨by kernel_rfl,by rw[eS,eR];kernel_rfl⟩
theorem NV:Cj w "autojunk":=⟨by kernel_rfl,by rw[eS,eR];kernel_rfl⟩
theorem NW:Cj w "matching_blocks":=⟨by kernel_rfl,by rw[eS,eR];kernel_rfl⟩
theorem NX:Cj w "opcodes":=⟨by kernel_rfl,by rw[eS,eR];kernel_rfl⟩
theorem Yv:Cj w "fullbcount":=⟨by kernel_rfl,by rw[eS,eR];kernel_rfl⟩
theorem NY:Cj w "b2j":=⟨by kernel_rfl,by rw[eS,eR];kernel_rfl⟩
theorem NZ:Cj w "bjunk":=⟨by kernel_rfl,by rw[eS,eR];kernel_rfl⟩
theorem Yu:Cj w "bpopular":=⟨by kernel_rfl,by rw[eS,eR];kernel_rfl⟩
def Dk (w:World) (name:Str) (f:Addr):Prop:=Gf w name=some (.ref f)∧∃y,typeLookup (.type "object") name=(Pure.pure y:Sem (Option Value))
theorem Yj:Dk w "__init__" 177:=⟨by kernel_rfl,some (.builtin "object.__init__"),by rw[eS,eR];kernel_rfl⟩
theorem Yl:Dk w "set_seqs" 184:=⟨by kernel_rfl,none,by rw[eS,eR];kernel_rfl⟩
theorem NO:Dk w "set_seq1" 191:=⟨by kernel_rfl,none,by rw[eS,eR];kernel_rfl⟩
theorem Yk:Dk w "set_seq2" 198:=⟨by kernel_rfl,none,by rw[eS,eR];kernel_rfl⟩
theorem Yi:Dk w "_SequenceMatcher__chain_b" 205:=⟨by kernel_rfl,none,by rw[eS,eR];kernel_rfl⟩
theorem NN:Dk w "find_longest_match" 213:=⟨by kernel_rfl,none,by rw[eS,eR];kernel_rfl⟩
variable {x:Addr}{s:Sp}
inductive InS (h:Heap) (x dx:Addr) (m:Sm):Prop
 |mk (mA:Str→Option Value):h.Inst x 259 mA→(∀p ∈ m,p.2.ok (mA p.1))→(∀y,mA y≠none→y ∈ m.map (·.1))→m.length≤100→(m.map (·.1)).Nodup→InS h x dx m
theorem Ju (O:Own F V h) (hx:Ad x (AH dx) V) (hd:Ad dx (atS m) V):InS h x dx m:=by
 refine Gz (O.get hx) fun o ho hc hdi hnc=>?_
 obtain⟨o',ho',hnd,hl,es,ep,h1,h2,h3,h4,h5⟩:=O.get hd
 have hne:dx≠x:=fun e=>by
  have e5:atS m {cls:=.ref 259,dict:=some dx,data:=.plain}:=((Prod.mk.inj (N3 O.nod hd.mem hx.mem e)).2)▸⟨rfl,rfl,fun c=>nofun⟩
  obtain⟨-, -,es,ep,q, -⟩:=e5
  contradiction
 exact .mk (fun n=>nsFind es n) (FP o ho hc hnc (.inr ⟨dx,hdi,hne,o',es,ep,ho',h1,h2,h3,fun _=>rfl⟩)) h4 h5 hl hnd
theorem Run.XG (hx:Ad x (AH dx) V) (hd:Ad dx (atS m) V) (hn:Ad name s m) (na:Cj w name) (hh:∀v,s.ok (some v)→handedOut v=Pure.pure v) (h:∀v,s.ok (some v)→Q v F V) (hs:autoParam (s.sure=true) aR):Run (cx w os) A (getAttr (.ref x) name true) F V Q:=.mk fun st S=>by
 obtain⟨mA,I,hm, -, -, -⟩:=Ju S.own hx hd
 have hv:=hm _ hn.mem
 have⟨v,e⟩:=Sp.some_of hv hs
 simp only[e] at hv
 exact GB S.toStP fun nm q bs sn sub col dd k0 k1 k2 k3 k5 hc hN=>load_attr hc hN O6 na.1 na.2 I e (hh v hv) (Ae F V ⟨S.own,S.base,S.gens,S.os⟩ (h v hv))
theorem atS.put {oi:Obj}{mA:Str→Option Value}{es ep:_}(hp:Aj name s0 s m m') (hv:s.ok (some v)) (hm:∀p ∈ m,p.2.ok (mA p.1)) (hin:∀y,mA y≠none→y ∈ m.map (·.1)) (hl:m.length≤100) (hnd:(m.map (·.1)).Nodup) (g2:oi.data= .dict es ep) (g3:StrKeys es) (g4:UniqKeys es) (g5:∀y,nsFind es y=if y=name then some v else mA y):atS m' oi:=by
 refine⟨hp.keys▸hnd,by rw[←eM (f:=(·.1)),hp.keys,eM];exact hl,es,ep,g2,g3,g4,fun r hr=>?_,fun y hy=>?_⟩<;>rw[g5] at*
 ·rcases hp.mem hnd r hr with rfl|⟨hr,hrn⟩
  ·rwa [if_pos rfl]
  ·rw[if_neg hrn];exact hm _ hr
 ·rw[hp.keys]
  by_cases q:y=name
  ·exact q▸C3 hp.has
  ·rw[if_neg q] at hy;exact hin y hy
theorem Own.ZH {o1 o':Obj}(O:Own F V h) (hx:Ad x (AH dx) V) (hd:Aj dx (atS m) (atS m') V V') (hk:∀b o,b≠x→b≠dx→h.get? b=some o→h'.get? b=some o) (ho:h'.get? x=some o1) (p1:AH dx o1) (g1:h'.get? dx=some o') (p2:atS m' o'):Own F V' h':=by
 have hFx:=(O.own _ hx.mem).1
 have hFd:=(O.own _ hd.has.mem).1
 refine⟨fun a o' e=>hk a o' (fun q=>by rw[q,hFx] at e;contradiction) (fun q=>by rw[q,hFd] at e;contradiction) (O.fro _ _ e),fun p hpm=>?_,hd.keys▸O.nod⟩
 rcases hd.mem O.nod p hpm with rfl|⟨hpm,hpd⟩
 ·exact⟨hFd,o',g1,p2⟩
 ·by_cases q:p.1=x
  ·refine(N3 O.nod hpm hx.mem q)▸?_
   exact⟨hFx,o1,ho,p1⟩
  ·have⟨f1,op,g1,g2⟩:=O.own p hpm
   exact⟨f1,op,hk _ _ q hpd g1,g2⟩
theorem Run.br (hx:Ad x (AH dx) V) (hd:Aj dx (atS m) (atS m') V V') (hp:Aj name s0 s m m') (na:Cj w name) (hv:s.ok (some v)) (h:QU () F V'):Run (cx w os) A (setAttr (.ref x) name v) F V QU:=.mk fun st S=>by
 obtain⟨mA,I,hm,hin,hl,hnd⟩:=Ju S.own hx hd.has
 have⟨ox,hox,hxP⟩:=S.own.get hx
 refine GB S.toStP fun nm q bs sn sub col dd k0 k1 k2 k3 k5 hc hN=>store_attr PySem.F.store_object hc hN be na.1 na.2 (fun e=>?_) I (fun h' tk' I' hk hsame=>?_) (ns:=m.map Prod.fst) hin (by rw[eM,eT];exact eb ‹_› (d7 rfl))
 ·have:=S.own.fro 259 (HW) (S.base 259 (HW) (by kernel_rfl))
  rw[←e,hox] at this
  exact hxP.2.2 _ (by exact congrArg _ (ed this))
 obtain⟨o1,ho1,c1,c2, -,c4⟩:=hsame ox hox
 have c4:=c4 dx hxP.2.1
 obtain⟨oi,hoi, -, -,hdd⟩:=I'
 cases ho1.symm.trans hoi
 rcases hdd with ⟨q,_⟩|⟨d2,q1, -,o',es',ep',g1,g2,g3,g4,g5⟩
 ·cases c4.symm.trans q
 cases c4.symm.trans q1
 exact Ae F V' ⟨S.own.ZH hx hd (fun b o hb hb' e=>hk b o hb (fun o₀ d' e1 e2=>by cases hox.symm.trans e1;cases hxP.2.1.symm.trans e2;exact hb') e) ho1 ⟨c1.trans hxP.1,c4,fun c=>by rw[c2];exact hxP.2.2 c⟩ g1 (.put hp hv hm hin hl hnd g2 g3 g4 g5),S.base,S.gens,S.os⟩ h
end
theorem OG {args:List Value}(rm:Rm (n+1) A):Rm n (A.under (.builtin "type.__call__" ⟨.ref C::args,[]⟩)):=by
 refine Bj (rm) fun a b c=>?_
 refine BO ?_ ?_ c
 ·refine(?_:A.depth+1+n≤900)
  exact Iu ‹_›
 ·have:(A.under (.builtin "type.__call__" ⟨.ref C::args,[]⟩)).units≤A.units+10:=by
   refine(?_:A.units+_≤_)
   exact Nat.add_le_add_left (d7 rfl) _
  lia
theorem Run.JP {args:List Value}(rm:Rm (n+1) A) (fn:∃o,(cx w os).F0 177=some o∧o.cls= .type "function") (hnd:ks.Nodup) (hks:ks.length≤100)
  (h:∀x dx A',Rm n A'→AM (cx w os) A' (.call (.ref 177) ⟨.ref x::args,[]⟩) F ((x,AH dx)::(dx,atS (ks.map fun k=>(k,Sp.any)))::V) (fun v F' V'=>v= .none∧Q (.ref x) F' V')):Run (cx w os) A (PySem.call (.ref 259) args) F V Q:=.mk fun s S=>by
 refine Ag (fn) fun oI f1 f2=>?_
 refine GB S.toStP fun nm q bs sn sub col dd k0 k1 k2 k3 k5 hC hN=>wpAny_call_obj_init PySem.F.objNew hC hN Yj.1 (S.own.fro _ _ (S.base _ _ f1)) f2 fun h' x dx M=>?_
 refine Gz (M.inst) fun ox hox hcx hnc hdd=>?_
 have hdx:=M.dict ox hox
 rcases hdd with ⟨q, -⟩|⟨d',q1,q2,od,es',ep',g1,g2,g3,g4,g5⟩
 ·cases hdx.symm.trans q
 cases hdx.symm.trans q1
 have O:=(S.own.add M.keeps (P:=atS (ks.map fun k=>(k,Sp.any))) M.newD g1 ⟨by rw[e8];exact(List.map_id ks).symm▸hnd,by rw[eM];exact hks,es',ep',g2,g3,g4,fun p hp=>(by obtain⟨k, -,rfl⟩:=List.mem_map.mp hp;trivial),fun y hy=>absurd (g5 y) hy⟩).ins (P:=AH dx) (S.own.none M.newX) (fun m=>(fj m).elim (fun e=>q2 e.symm) (S.own.ne M.newX)) hox ⟨hcx,hdx,hnc⟩
 exact Run.fu (Run.call (h x dx _ (OG (args:=args) rm))) ⟨⟨O,S.base,S.gens,S.os⟩,S.tk⟩ fun v s' F' V' S' q=>⟨q.1,F',V',S'.toStP,q.2⟩
theorem Run.Fa {o:Expr}{args:List Expr}{x f:Addr}(me:Dk w name f) (hfc:∃o,(cx w os).F0 f=some o∧o.cls= .type "function")
  (h:Run (cx w os) A (eval o env) F V (fun ov F1 V1=>ov= .ref x∧(∃dx m,Ad x (AH dx) V1∧Ad dx (atS m) V1∧name ∉ m.map (·.1))∧Run (cx w os) A (callWith pos (.ref f) [.ref x] (backTo pos (starEach args env)) []) F1 V1 Q))
  (hbase:attributeBase o name env (eval o env)=eval o env)
  (hfew:((backTo pos (starEach args env)).all (fun x=> !x.1) && (backToKw pos (keywordEach [] env)).all (fun x=>x.1.isSome) && decide (args.length+([]:List Keyword).length+(if ([]:List Keyword).isEmpty then 0 else 1)<30))=true)
  (hline:(apos.endLine==pos.line)=true):Run (cx w os) A (eval (.Call (.Attribute o name apos) args [] pos) env) F V Q:=fun s S=>by
 simp only[arm_eval_Call,hbase]
 refine d8 ((Run.fu h S fun ov s₁ F1 V1 S1 qz=>Bj qz fun e hx h₁=>?_))
 refine e▸?_
 refine d8 (wpAny_standAt ?_)
 have hform:methodCallForm (args.length+([]:List Keyword).length) (backTo pos (starEach args env)) (backToKw pos (keywordEach [] env))=true:=hfew
 have hpos:methodCallPos true o env apos pos=Pure.pure pos:=by unfold methodCallPos;simp[hline]
 dsimp only[methodCall]
 refine(hform)▸?_
 refine Bk (hx) fun dx m hx hd hnm=>?_
 obtain⟨mA,I, -,hin, -, -⟩:=Ju S1.own hx hd
 refine Ag (hfc) fun of g1 g2=>?_
 have hsh:mA name=Option.none:=by
  cases q:mA name with
  |none=>rfl
  |some v=>exact absurd (hin name (by rw[q];exact nofun)) hnm
 obtain⟨y,hy⟩:=me.2
 refine d8 (en ?_)
 exact GB S1.toStP fun nm q bs sn sub col dd k0 k1 k2 k3 k5 hC hN=>method_of hC hN O6 bc me.1 (S1.own.fro _ _ (S1.base _ _ g1)) g2 hy I hsh (d8 (wpAny_of_eq hpos (h₁ s₁ S1)))
theorem Run.SA (fn:Fun c a fd) (h:AM c A (.call (.ref a) ⟨first,[]⟩) F V Q):Run c A (callWith pos (.ref a) first (backTo pos (starEach [] env)) []) F V Q:=fun s S=>by
 refine Ag (fn.at_) fun o h1 h2=>?_
 refine callWith_function (o:=o) (fd:=fd) (PySem.evalArgs_none ⟨⟨S.own.fro _ _ (S.base _ _ h1),h2⟩,?_⟩)
 rw[eJ]
 exact Run.call h s S
noncomputable def Sp.plain:Sp→Bool
 | .int _=>true
 | .str _=>true
 | .val (.builtin _)=>false
 | .val _=>true
 |_=>false
theorem Sp.hand {s:Sp}(h:s.plain=true):∀v,s.ok (some v)→handedOut v=Pure.pure v:=fun v hv=>by
 induction s with
 |any=>contradiction
 |int i=>obtain⟨t,⟨⟩⟩:=hv;rfl
 |str i=>obtain⟨t,⟨⟩⟩:=hv;rfl
 |val u=>injection hv with hv;subst hv;rcases v with _|_<;>first|rfl|contradiction
 |sat P=>contradiction
section
variable {ma mb ma' mb':Sm}{V'':Aa}{s:Sp}{o f:Addr}{QF:Flow→FM→Sm→Aa→Prop}
theorem Ev.at (ok:Ok x n gs) (ho:Ad id_ (.val (.ref o)) m) (hx:Ad o (AH dx) V) (hd:Ad dx (atS ma) V) (hn:Ad name s ma) (na:Cj x.w name) (hp:autoParam (s.plain=true) aR):Ev x F m V (.Attribute (.Name id_ q) name pos) s:=fun K Vf ft=>
 Run.fit ft.fit fun st S=>Attribute_name ((Run.fu (Run.Hw (p:=q) ok ho) S fun v s1 F1 V1 S1 qz=>Bj qz fun e1 e2 e3=>by
  refine e1▸?_;refine e2▸?_;subst e3
  exact Run.XG (Q:=fun v F' V'=>F'=F1∧Sb (full x m (V++K)) V'∧s.ok (some v)) (.tail hx.app) (.tail hd.app) hn na (Sp.hand hp) (fun v hv=>⟨rfl,Sb.refl,hv⟩) (by induction s<;>first|rfl|contradiction) s1 S1))
def Bt (x:Cc) (o:Addr) (name:Str) (v:Value) (W W1:Aa):Prop:=∀F L P K (Q:Unit→FM→Aa→Prop),Q () F ((L,P)::(W1++K))→Run x.fo x.A (setAttr (.ref o) name v) F ((L,P)::(W++K)) Q
theorem Bt.mk (hx:Ad o (AH dx) V) (hd:Aj dx (atS ma) (atS ma') V V') (hp:Aj name s0 s ma ma') (na:Cj x.w name) (hv:s.ok (some v)):Bt x o name v V V':=fun F L P K Q hq=>Run.br (.tail hx.app) (.tail hd.app) hp na hv hq
theorem Run.IA {t1 t2:Expr}{QF:Flow→FM→Aa→Prop}(h:Run c A (eval e env) F V (fun v F1 V1=>Run c A (assign t1 env v) F1 V1 fun _ F2 V2=>Run c A (assign t2 env v) F2 V2 fun _=>QF .next))
  (he:(assignEach [t1,t2] env).map (·.2)=[assign t1 env,assign t2 env]) (hw:swappedStores [t1,t2] e env=Pure.pure Option.none):Run c A (exec (.Assign [t1,t2] e p) env) F V QF:=fun _ S=>wpAny_Assign_two (h.fu S fun _ s1 _ _ S1 h1=>h1.fu S1 fun _ s2 _ _ S2 h2=>h2 s2 S2) he hw
theorem Run.Hi {K:Aa}(ok:Ok x n gs) (ho:Ad id_ (.val (.ref o)) m) (hs:Bt x o name v V V') (h:QU () F (full x m (V'++K))):Run x.fo x.A (assign (.Attribute (.Name id_ q) name pos) x.env v) F (full x m (V++K)) QU:=by
 simp only[assign_Attribute]
 exact .bind (.holding (Run.C1 ok ho Sb.refl (.bind (.standAt (.bind (.holding (hs _ _ _ _ _ fun s S=>wpAny_release (Ae _ _ S h))))))))
theorem R.G7 (ok:Ok x n gs) (ho:Ad id_ (.val (.ref o)) m) (h:Ev x F m V e s) (hst:∀v,s.ok (some v)→Bt x o name v V V') (k:R x rest F m V' QF)
  (hs:autoParam (swapsWith e (some (.Attribute (.Name id_ q) name p')) p.line x.env=(Pure.pure false:Sem Bool)) aU):R x (.Assign [.Attribute (.Name id_ q) name p'] e p::rest) F m V QF:=.ki fun K Vf Q' ft kk=>Run.cons (by
 rw[plainObj_exec_Assign_Attribute _ _ _ _ _ hs]
 exact .bind (.standAt (.bind (h.fu ft fun V1 v f1 hv=>.bind (Run.fit f1.fit (Run.Hi ok ho (hst v hv) (.pure (k.fu Sb.refl kk))))))))
theorem R.J3 (ok:Ok x n gs) (ho:Ad id_ (.val (.ref o)) m) (h:Ev x F m V e s) (hst:∀v,s.ok (some v)→Bt x o name v V V') (hst2:∀v,s.ok (some v)→Bt x o nb v V' V'') (k:R x rest F m V'' QF)
  (he:autoParam ((assignEach [.Attribute (.Name id_ q) name p',.Attribute (.Name id_ p2) nb apos] x.env).map (·.2)=[assign (.Attribute (.Name id_ q) name p') x.env,assign (.Attribute (.Name id_ p2) nb apos) x.env]) aR)
  (hw:autoParam (swappedStores [.Attribute (.Name id_ q) name p',.Attribute (.Name id_ p2) nb apos] e x.env=Pure.pure Option.none) aR):R x (.Assign [.Attribute (.Name id_ q) name p',.Attribute (.Name id_ p2) nb apos] e p::rest) F m V QF:=.ki fun K Vf Q' ft kk=>Run.cons (Run.IA (h.fu ft fun V1 v f1 hv=>Run.fit f1.fit (Run.Hi ok ho (hst v hv) (Run.Hi ok ho (hst2 v hv) (k.fu Sb.refl kk)))) he hw)
theorem R.bt (ok:Ok x n gs) (ho:Ad id_ (.val (.ref o)) m) (h:Rx x F m V e Qv) (k:∀v F' W,Le F F'→Qv v F' W→∃W1 s s0 m1,Bt x o name v W W1∧s.ok (some v)∧Aj nb s0 s m m1∧R x rest F' m1 W1 QF)
  (he:autoParam ((assignEach [.Attribute (.Name id_ q) name p',.Name nb p2] x.env).map (·.2)=[assign (.Attribute (.Name id_ q) name p') x.env,assign (.Name nb p2) x.env]) aR)
  (hw:autoParam (swappedStores [.Attribute (.Name id_ q) name p',.Name nb p2] e x.env=Pure.pure Option.none) aR):R x (.Assign [.Attribute (.Name id_ q) name p',.Name nb p2] e p::rest) F m V QF:=.ki fun K Vf Q' ft kk=>Run.cons (Run.IA (h.fu ft fun v F1 V1 W le f1 hv=>E0 (k v F1 W le hv) fun W1 s s0 m1 hst hs hp hr=>Run.fit f1.fit (Run.Hi ok ho hst (Run.BA (Run.D9 ok.lo hp hs (hr.go le Sb.refl kk))))) he hw)
theorem R.J4 {C:Addr→Prop}{W1:Addr→Aa}{m1:Addr→Sm}(ok:Ok x n gs) (ho:Ad id_ (.val (.ref o)) m) (h:∀QQ:Value→FM→Aa→Prop,(∀a,C a→QQ (.ref a) F ((a,P)::V))→Rx x F m V e QQ) (hst:∀a,Bt x o name (.ref a) ((a,P)::V) (W1 a)) (hp:∀a,Aj nb s0 (.val (.ref a)) m (m1 a)) (k:∀a,C a→R x rest F (m1 a) (W1 a) QF)
  (he:autoParam ((assignEach [.Attribute (.Name id_ q) name p',.Name nb p2] x.env).map (·.2)=[assign (.Attribute (.Name id_ q) name p') x.env,assign (.Name nb p2) x.env]) aR)
  (hw:autoParam (swappedStores [.Attribute (.Name id_ q) name p',.Name nb p2] e x.env=Pure.pure Option.none) aR):R x (.Assign [.Attribute (.Name id_ q) name p',.Name nb p2] e p::rest) F m V QF:=
 .bt (Qv:=fun v F' W=>∃a,C a∧v= .ref a∧F'=F∧W=(a,P)::V) ok ho (h _ fun a ca=>FP a ca rfl rfl rfl) (fun v F' W _ qz=>Gz qz fun a ca e1 e2 e3=>by refine e1▸?_;refine e2▸?_;refine e3▸?_;exact Ep (W1 a) (.val (.ref a)) s0 (m1 a) (hst a) rfl (hp a) (k a ca)) he hw
theorem Rx.Fa (ok:Ok x n gs) (me:Dk x.w name f) (fn:Fun x.fo f fd) (hfc:∃o,x.fo.F0 f=some o∧o.cls= .type "function") (ho:Ad id_ (.val (.ref o)) m) (hx:Ad o (AH dx) V) (hd:Ad dx (atS ma) V) (hnm:name ∉ ma.map (·.1)) (he:AZ x F m V (e::es) ss)
  (h:∀vs,A7 ss vs→RV x.fo x.A (.call (.ref f) ⟨.ref o::vs,[]⟩) F V Q)
  (hfew:autoParam (((backTo pos (starEach (e::es) x.env)).all (fun x=> !x.1) && (backToKw pos (keywordEach [] x.env)).all (fun x=>x.1.isSome) && decide ((e::es).length+([]:List Keyword).length+(if ([]:List Keyword).isEmpty then 0 else 1)<30))=true) aU)
  (hline:autoParam ((apos.endLine==pos.line)=true) aU):Rx x F m V (.Call (.Attribute (.Name id_ q) name apos) (e::es) [] pos) Q:=.ki fun K Vf Q' ft kk=>Run.Fa (x:=o) me hfc (Run.C1 ok ho ft ⟨rfl,(Bg dx ma (.tail hx.app) (.tail hd.app) hnm),Run.Gx (first:=[.ref o]) fn (he.fu Sb.refl fun V2 vs f2 o2=>AA.mono ((h vs o2).fu f2) fun f F' V' q=>q.elim fun v q=>⟨v,q.1,q.2.2.elim fun W r=>kk v F' V' W q.2.1 r.1 r.2⟩) (AD (he.star _ (.head _)))⟩) rfl hfew hline
theorem Rx.NR (ok:Ok x n gs) (me:Dk x.w name f) (fn:Fun x.fo f fd) (hfc:∃o,x.fo.F0 f=some o∧o.cls= .type "function") (ho:Ad id_ (.val (.ref o)) m) (hx:Ad o (AH dx) V) (hd:Ad dx (atS ma) V) (hnm:name ∉ ma.map (·.1)) (he:AZ x F m V (e::es) ss)
  (h:CL ss fun vs=>RV x.fo x.A (.call (.ref f) ⟨.ref o::vs,[]⟩) F V Q)
  (hfew:autoParam (((backTo pos (starEach (e::es) x.env)).all (fun x=> !x.1) && (backToKw pos (keywordEach [] x.env)).all (fun x=>x.1.isSome) && decide ((e::es).length+([]:List Keyword).length+(if ([]:List Keyword).isEmpty then 0 else 1)<30))=true) aU)
  (hline:autoParam ((apos.endLine==pos.line)=true) aU):Rx x F m V (.Call (.Attribute (.Name id_ q) name apos) (e::es) [] pos) Q:=
 .Fa ok me fn hfc ho hx hd hnm he (fun vs os=>os.fm (P:=fun vs=>RV x.fo x.A (.call (.ref f) ⟨.ref o::vs,[]⟩) F V Q) h) hfew hline
theorem Rx.NQ (ok:Ok x n gs) (me:Dk x.w name f) (fn:Fun x.fo f fd) (hfc:∃o,x.fo.F0 f=some o∧o.cls= .type "function") (ho:Ad id_ (.val (.ref o)) m) (hx:Ad o (AH dx) V) (hd:Ad dx (atS ma) V) (hnm:name ∉ ma.map (·.1))
  (h:RV x.fo x.A (.call (.ref f) ⟨[.ref o],[]⟩) F V Q) (hline:autoParam ((apos.endLine==pos.line)=true) aU):Rx x F m V (.Call (.Attribute (.Name id_ q) name apos) [] [] pos) Q:=.ki fun K Vf Q' ft kk=>Run.Fa (x:=o) me hfc (Run.C1 ok ho ft ⟨rfl,(Bg dx ma (.tail hx.app) (.tail hd.app) hnm),Run.SA fn (AA.mono (h.fu Sb.refl) fun f F' V' q=>q.elim fun v q=>⟨v,q.1,q.2.2.elim fun W r=>kk v F' V' W q.2.1 r.1 r.2⟩)⟩) rfl rfl hline
end
theorem booked (k:∀a o,(cx w os).F0 a=some o→h.get? a=some o):NoneBooked h:=by
 obtain⟨o,ho,hn⟩:∃o,(cx w os).F0 2=some o∧∃es ep,o.data= .dict es ep∧StrKeys es∧nsFind es sharingNotToldKey=Option.none:=
  ⟨_,(by kernel_rfl:(cx w os).F0 2=some (HX w.params)),BC (HX w.params),_,rfl,Ib (by kernel_rfl),by kernel_rfl⟩
 refine Bk (hn) fun es ep e1 e2 e3=>?_
 exact⟨fun n=>nsFind es n,(CC o es ep (k _ _ ho) e1 e2 (fun _=>rfl)),e3⟩
theorem Run.Jx (ht:t≠0) (hu:u≠0) (h:∀b,(b=true→t=u∨y=z)→Q (.bool b) F V):Run (cx w os) A (compareOp .Is (.str y t) (.str z u)) F V Q:=fun s S=>by
 have hb:NoneBooked s.heap:=booked fun a o e=>S.own.fro _ _ (S.base _ _ e)
 refine(?_:wpAny _ _ (isSame (.str y t) (.str z u)>>=_) _ _ s)
 refine d8 ?_
 by_cases e:y=z
 ·exact wpAny_isSame_str (by simp[ht,hu]) hb fun b=>d9 (Ae F V S (h b fun _=>.inr e))
 ·refine(?_:wpAny _ _ (isSame.created (y==z) t u) _ _ s)
  dsimp only[isSame.created]
  refine wpAny_ite ?_
  rw[if_neg (by simp[ht,hu])]
  refine wpAny_ite ?_
  split
  ·rename_i q
   exact d9 (d9 (Ae F V S (h true fun _=>.inl (ee (q)))))
  ·refine wpAny_ite ?_
   rw[if_pos (by exact congrArg _ (show(y==z)=false from beq_false_of_ne e))]
   exact d9 (d9 (Ae F V S (h false fun q=>(nomatch q))))
theorem Tx.Jx (h1:Ev x F m V e1 (.val (.str y t))) (h2:Ev x F m V e2 (.val (.str z u))) (ht:t≠0) (hu:u≠0) (h:∀b,(b=true→t=u∨y=z)→QB b F V) (hm:autoParam (behindInMarks .Is e2=false) aU):Tx x F m V (.Compare e1 [.Is] [e2] p) QB:=fun K Vf ft=>
 .DF ((h1 K Vf ft).mono fun v1 _ V1 qz=>Bj qz fun a f1 o1=>by
  rw[a];obtain rfl:=ed o1
  refine(h2 K V1 f1).mono fun v2 F2 V2 qz=>Bj qz fun a f2 o2=>?_
  rw[a];obtain rfl:=ed o2
  exact Run.Jx ht hu fun b hb=>⟨b,rfl,Le.refl _,V,f2,h b hb⟩) hm
theorem Ev.Ie (h:Ev x F m V e1 (.val (.str y t))):Ev x F m V e1 (.str y):=fun K Vf ft=>(h K Vf ft).mono fun v F1 V1 qz=>Bj qz fun a b d=>⟨a,b,t,d⟩
theorem Ac.Nh:Ac .Is (.str y) (.val .none) false:=by rintro c A F V _ _ Q ⟨t,⟨⟩⟩ ⟨⟩ h;exact Run.WH rfl h
section
variable (w:World) (os:OsState)
noncomputable def TM (P:Params):FuncData:=Bb (IV ff)
theorem UK:Fun (cx w os:_) 177 (TM w.params):=Bf (by kernel_rfl) (by kernel_rfl) rfl rfl rfl
theorem TC:∃o, (cx w os).F0 177=some o∧o.cls= .type "function":=⟨IV ff,by kernel_rfl,rfl⟩
noncomputable def T4 (P:Params):FuncData:=Bb (IW ff)
theorem Mq:Fun (cx w os:_) 184 (T4 w.params):=Bf (by kernel_rfl) (by kernel_rfl) rfl rfl rfl
theorem TG:∃o, (cx w os).F0 184=some o∧o.cls= .type "function":=⟨IW ff,by kernel_rfl,rfl⟩
noncomputable def TX (P:Params):FuncData:=Bb (IX ff)
theorem Jh:Fun (cx w os:_) 191 (TX w.params):=Bf (by kernel_rfl) (by kernel_rfl) rfl rfl rfl
theorem L4:∃o, (cx w os).F0 191=some o∧o.cls= .type "function":=⟨IX ff,by kernel_rfl,rfl⟩
noncomputable def T3 (P:Params):FuncData:=Bb (IY ff)
theorem Mp:Fun (cx w os:_) 198 (T3 w.params):=Bf (by kernel_rfl) (by kernel_rfl) rfl rfl rfl
theorem TE:∃o, (cx w os).F0 198=some o∧o.cls= .type "function":=⟨IY ff,by kernel_rfl,rfl⟩
noncomputable def TH (P:Params):FuncData:=Bb (IZ ff)
theorem Mf:Fun (cx w os:_) 205 (TH w.params):=Bf (by kernel_rfl) (by kernel_rfl) rfl rfl rfl
theorem Tz:∃o, (cx w os).F0 205=some o∧o.cls= .type "function":=⟨IZ ff,by kernel_rfl,rfl⟩
noncomputable def Cn (P:Params):FuncData:=Bb (I0 ff)
theorem Jd:Fun (cx w os:_) 213 (Cn w.params):=Bf (by kernel_rfl) (by kernel_rfl) rfl rfl rfl
theorem L2:∃o, (cx w os).F0 213=some o∧o.cls= .type "function":=⟨I0 ff,by kernel_rfl,rfl⟩
end
noncomputable abbrev AW (isj a b aj b2j bj:Sp):Sm:=[("isjunk",isj),("a",a),("b",b),("autojunk",aj),("matching_blocks",.any),("opcodes",.any),("fullbcount",.any),("b2j",b2j),("bjunk",bj),("bpopular",.any)]
theorem Fo {a b c d e f:Sp}(h:(["isjunk","a","b","autojunk","matching_blocks","opcodes","fullbcount","b2j","bjunk","bpopular"]:List Str).contains name=false):name ∉ (AW a b c d e f).map (·.1):=fun hm=>by
 have:(["isjunk","a","b","autojunk","matching_blocks","opcodes","fullbcount","b2j","bjunk","bpopular"]:List Str).contains name=true:=List.elem_eq_true_of_mem hm
 replace this:=(h)▸this
 contradiction
section
open PySem PySem.W PySem.Calls PyProof.Rows PySem.Builtin.SmallTypes
noncomputable abbrev El (it:Addr) (i:Int) (a old:Value):Obj:={cls:=.type "enumerate",dict:=Option.none,data:=.fields #[a,.bool false,.ref it,rawInt i,.none,old],slots:=#[]}
def CB (it:Addr) (i:Nat) (o:Obj):Prop:=∃old,o=El it i .none old
def IR (it:Addr) (i:Nat) (a:Addr) (o:Obj):Prop:=∃old,o=El it i (rawInt a) old
section
variable {e:Addr}
theorem Run.Tn (ha:y.cps.all (·<128)=true) (h:∀e it,Q (.ref e) F ((e,CB it 0)::(it,AI "str_ascii_iterator" (.str y t) 0)::V)):Run c A (PySem.call (.type "enumerate") [.str y t]) F V Q:=.mk fun s S=>by
 refine call_enumerate_str fun h' he hi hsz keep=>Ae F _ ⟨⟨fun a o q=>keep _ _ (S.own.fro _ _ q),fun p hp=>?_,?_⟩,S.base,S.gens,S.os⟩ (h _ s.heap.objs.size)
 ·have fr:∀{a:Addr},s.heap.objs.size≤a→F a=Option.none:=fun{a} hle=>by
   cases q:F a with
   |none=>rfl
   |some o=>exact absurd (eE (S.own.fro _ _ q)) (Nat.not_lt.mpr hle)
  rcases fj hp with rfl|hp
  ·exact⟨fr (Nat.le_succ _),_,he,_,rfl⟩
  ·rcases fj hp with rfl|hp
   ·refine AX (hi) fun o a1 a2 a3=>?_
    rw[show strIterType y="str_ascii_iterator" by unfold strIterType;exact if_pos ha] at a2
    exact⟨fr (eh _),o,a1,a2,a3⟩
   ·obtain⟨a,o,b,q⟩:=S.own.own p hp
    exact⟨a,o,keep _ _ b,q⟩
 ·have lt:∀a ∈ V.map (·.1),a<s.heap.objs.size:=fun a hm=>by
   obtain⟨p,hp,rfl⟩:=List.mem_map.mp hm
   obtain⟨_,o,b,_⟩:=S.own.own p hp
   exact eE b
  refine(?_:((s.heap.objs.size+1)::s.heap.objs.size::V.map (·.1)).Nodup)
  refine List.nodup_cons.mpr ⟨fun hm=>?_,List.nodup_cons.mpr ⟨fun hm=>Nat.lt_irrefl _ (lt _ hm),S.own.nod⟩⟩
  rcases fj hm with q|hm
  ·exact Nat.succ_ne_self _ q
  ·exact Nat.lt_irrefl _ (Nat.lt_of_succ_lt (lt _ hm))
theorem Run.YK (hv:y.cps[i]? =some k) (hp:Aj it (AI "str_ascii_iterator" (.str y t) i) (AI "str_ascii_iterator" (.str y t) (i+1)) V V') (h:∀u,Q (.str (ch k) u) F V'):Run c A (nextOf (.ref it)) F V Q:=.mk fun s S=>by
 refine AX (S.own.get hp.has) fun o ho hc hd=>?_
 have hit:s.heap.IsStrIter it "str_ascii_iterator" y t i:=AE o ho hc hd
 refine d8 (wpAny_callSpecial?_slot (name:=Str.ofString "__next__") hit.typeIs PySem.F.slot_str_ascii_iterator_next
  (eC PySem.F.slot_str_ascii_iterator_next hit.typeIs PySem.F.entry_str_ascii_iterator_next ?_ (PySem.F.args_str_ascii_iterator_next_1 _)))
 refine(?_:wpAny _ _ (field (.ref it) 0>>=_) _ _ s)
 refine d8 (wpAny_field ho hd (x:=.str y t) rfl ?_)
 refine(?_:wpAny _ _ (field (.ref it) 1>>=_) _ _ s)
 refine d8 (wpAny_field ho hd (x:=.int i 0) rfl ?_)
 simp only[Int.toNat_natCast,hv]
 refine d8 (wpAny_setField ho hd (by simp) (d8 (wpAny_mkStr (d9 ⟨_,rfl,d9 (Ae F V' (S.toStP.put hp (Heap.SameBut.update ..) ⟨_,Heap.get?_update_self _ ho (Obj.isFreed_of_fields (Obj.data_mapFields hd _)),(Obj.cls_mapFields ..).trans hc,?_⟩) (h _))⟩) (by refine(?_:1≤sizeLine);decide))))
 rw[Obj.data_mapFields hd];simp[rawInt]
theorem Run.fld {vs:Array Value}{x:Value}(ha:Ad a (·={cls:=cls,dict:=Option.none,data:=.fields vs,slots:=#[]}) V) (hk:vs[k]? =some x) (h:Q x F V):Run c A (field (.ref a) k) F V Q:=fun s S=>by
 obtain⟨o,ho,rfl⟩:=S.own.get ha
 exact wpAny_field ho rfl hk (Ae F V S h)
theorem Run.G6 {vs:Array Value}{x:Value}(ha:Aj a (·={cls:=cls,dict:=Option.none,data:=.fields vs,slots:=#[]}) (·={cls:=cls,dict:=Option.none,data:=.fields (vs.setIfInBounds k x),slots:=#[]}) V V') (hk:k<vs.size) (h:QU () F V'):Run c A (setField (.ref a) k x) F V QU:=.mk fun s S=>by
 obtain⟨o,ho,rfl⟩:=S.own.get ha.has
 exact wpAny_setField_rec ho hk fun h' ho' hs=>Ae F V' (S.toStP.put ha hs ⟨_,ho',rfl⟩) h
theorem Run.imp {α:Type}{m:Sem α}{QA:α→FM→Aa→Prop}(k:∀o,P o→P' o) (h:Run c A m F ((a,P')::V) QA):Run c A m F ((a,P)::V) QA:=Run.fit (fun _ _ O=>O.imp k) h
theorem Run.JR {α ι:Type}{m:Sem α}{QA:α→FM→Aa→Prop}{P:ι→Obj→Prop}(h:∀i,Run c A m F ((a,P i)::V) QA):Run c A m F ((a,fun o=>∃i,P i o)::V) QA:=fun s S=>by
 obtain⟨o,ho,i,hi⟩:=S.own.get .head
 refine h i s ⟨⟨⟨S.own.fro,fun p hp=>?_,S.own.nod⟩,S.base,S.gens,S.os⟩,S.tk⟩
 rcases fj hp with rfl|hp
 ·exact⟨(S.own.own _ (.head _)).1,o,ho,hi⟩
 ·exact S.own.own p (.tail _ hp)
theorem Run.YI (hv:y.cps[i]? =some k) (h:∀a t1 u,QO (some (.ref a)) F ((e,IR it (i+1) a)::(a,Dh [.int i t1,.str (ch k) u])::(it,AI "str_ascii_iterator" (.str y t) (i+1))::V)):
  Run c A (pyNext (.ref e)) F ((e,CB it i)::(it,AI "str_ascii_iterator" (.str y t) i)::V) QO:=by
 refine Run.JR (P:=fun old o=>o=El it i .none old) fun old s S=>?_
 obtain⟨o,ho,rfl⟩:=S.own.get .head
 have hT:s.TypeIs (.ref e) "enumerate":=Ak _ ho rfl
 refine d8 (wpAny_attempt (wpAny_callSpecial?_slot (name:=Str.ofString "__next__") hT PySem.F.slot_enumerate_next (eC PySem.F.slot_enumerate_next hT PySem.F.entry_enumerate_next ?_ (PySem.F.args_enumerate_next_1 _))))
 have key:∀A':Around,Run c A' (Builtin.«enumerate.__next__» ⟨[.ref e],[]⟩) F ((e,(·=El it i .none old))::(it,AI "str_ascii_iterator" (.str y t) i)::V) (fun fin F1 V1=>∃a,fin= .done (.ret (.ref a))∧QO (some (.ref a)) F1 V1):=fun A'=>by
  refine(?_:Run c A' (field (.ref e) 2>>=_) _ _ _)
  refine .bind (Run.fld .head (by rfl) (.bind (Run.YK hv (.tail .head) fun u=>?_)))
  refine .bind (Run.fld .head (by rfl) ?_)
  refine(?_:Run c A' (field (.ref e) 4>>=_) _ _ _)
  refine .bind (Run.fld .head (by rfl) ?_)
  refine(?_:Run c A' (mkInt i>>=_) _ _ _)
  refine .bind (.mk fun s S=>wpAny_mkInt (Ae F _ ⟨S.own,S.base,S.gens,S.os⟩ ?_))
  generalize s.toks=t1
  refine(?_:Run c A' (setField (.ref e) 3 (rawInt ((i:Int)+1))>>=_) _ _ _)
  refine .bind (Run.G6 .head (by simp) ?_)
  refine(?_:Run c A' (setField (.ref e) 4 .none>>=_) _ _ _)
  refine .bind (Run.G6 .head (by simp) ?_)
  refine(?_:Run c A' (newTuple [.int i t1,.str (ch k) u]>>=_) _ _ _)
  refine .bind (.mk fun s S=>wpAny_newTuple (Ae F _ (S.toStP.push (k:=s.toks) (P:=Dh [.int i t1,.str (ch k) u]) ⟨rfl,0,rfl⟩) ?_))
  generalize s.heap.objs.size=a
  refine(?_:Run c A' (ownedTupleIsFree (.ref e)>>=_) _ _ _)
  refine Run.fit (W:=(e,(·=El it ((i:Int)+1) .none old))::(a,Dh [.int i t1,.str (ch k) u])::(it,AI "str_ascii_iterator" (.str y t) (i+1))::V) (Sb.perm (.swap ..)).fit ?_
  refine .bind ?_
  dsimp only[ownedTupleIsFree]
  refine .bind (Run.fld .head (by rfl) (.pure ?_))
  refine .bind (.rule (.bind (Run.fld .head (by rfl) (.bind (Run.G6 .head (by simp) ?_)))))
  refine(?_:Run c A' (ownedTupleHandOut (.ref e) (.ref a)>>=_) _ _ _)
  refine .bind ?_
  refine .bind (Run.G6 .head (by simp) (Run.G6 .head (by simp) ?_))
  refine Run.imp (P':=IR it (i+1) a) (fun o h=>⟨.str (ch k) u,h.trans (by rfl)⟩) ?_
  exact .bind (fun s S=>wpAny_letGo (Ae F _ S (.pure ⟨a,rfl,h a t1 u⟩)))
 exact(Run.fu (key _) S fun fin s' F' V' S' qz=>Ag qz fun a e1 q=>⟨_,e1,d9 (Ae F' V' S' q)⟩)
theorem Run.Tc (rm:Rm n A) (hv:y.cps.size≤i) (h:QO Option.none F V):Run c A (pyNext (.ref e)) F ((e,CB it i)::(it,AI "str_ascii_iterator" (.str y t) i)::V) QO:=by
 refine Run.JR (P:=fun old o=>o=El it i .none old) fun old=>.mk fun s S=>?_
 obtain⟨o,ho,rfl⟩:=S.own.get .head
 refine AX (S.own.get (a:=it) (.tail .head)) fun o2 ho2 hc2 hd2=>?_
 have hT:s.TypeIs (.ref e) "enumerate":=Ak _ ho rfl
 have hit:s.heap.IsStrIter it "str_ascii_iterator" y t i:=AE o2 ho2 hc2 hd2
 have hh:A.handled=Option.none:=rm.2.2
 refine d8 (wpAny_attempt (wpAny_callSpecial?_slot (name:=Str.ofString "__next__") hT PySem.F.slot_enumerate_next (eC PySem.F.slot_enumerate_next hT PySem.F.entry_enumerate_next ?_ (PySem.F.args_enumerate_next_1 _))))
 refine(?_:wpAny _ _ (field (.ref e) 2>>=_) _ _ _)
 refine d8 (wpAny_field ho rfl (x:=.ref it) rfl ?_)
 dsimp only[nextOf]
 refine d8 (d8 (wpAny_callSpecial?_slot (name:=Str.ofString "__next__") hit.typeIs PySem.F.slot_str_ascii_iterator_next
  (eC PySem.F.slot_str_ascii_iterator_next hit.typeIs PySem.F.entry_str_ascii_iterator_next ?_ (PySem.F.args_str_ascii_iterator_next_1 _))))
 refine(?_:wpAny _ _ (field (.ref it) 0>>=_) _ _ s)
 refine d8 (wpAny_field ho2 hd2 (x:=.str y t) rfl ?_)
 refine(?_:wpAny _ _ (field (.ref it) 1>>=_) _ _ s)
 refine d8 (wpAny_field ho2 hd2 (x:=.int i 0) rfl ?_)
 have hx:y.cps[i]? =Option.none:=Array.getElem?_eq_none hv
 simp only[Int.toNat_natCast,hx]
 refine d8 (wpAny_rule (d8 (wpAny_setField ho2 hd2 (by simp) (d8 (wpAny_letGo ?_)))))
 refine(?_:wpAny _ _ (newExc (.type "StopIteration") []>>=_) _ _ _)
 refine d8 ?_
 refine d8 (eD ?_ (by size_fits))
 refine d8 (m:=firstArgMember _ _) (wpAny_of_eq (a:=Value.none) (by first|rfl|(simp only[firstArgMember];rfl)) ?_)
 refine eD ?_ (by size_fits)
 dsimp only[raiseNew]
 refine d8 (wpAny_handled ?_)
 rw[show A.in1.in1.handled=Option.none from hh]
 refine d8 (d9 (wpAny_throw ?_))
 refine d8 (wpAny_isInstance (T:="StopIteration") (b:=true) (Ak _ (em _ rfl) rfl) isSubtype_stop ?_)
 have O:Own F ((it,AI "str_ascii_iterator" (.str y t) i)::(e,(·=El it i .none old))::V) s.heap:=S.own.perm (.swap ..)
 exact d9 (Ae F V ⟨(O.drop (((Heap.SameBut.update ..).extBut.push _).push _)).sub (List.sublist_cons_self ..),S.base,S.gens,S.os⟩ h)
end
end
section
open PySem PySem.W PySem.Calls PyProof.Rows PySem.Builtin.SmallTypes
section
variable {e:Addr}
theorem Run.Vz (h:QU () F ((e,CB it i)::V)):Run c A (letOwnedTupleGo (.Tuple elts k p) (.ref e) (.ref a)) F ((e,IR it i a)::V) QU:=by
 refine Run.JR (P:=fun old o=>o=El it i (rawInt a) old) fun old=>.mk fun s S=>?_
 obtain⟨o,ho,rfl⟩:=S.own.get .head
 exact wpAny_letOwnedTupleGo_enum ho fun h' he hs=>Ae F _ (S.toStP.put (P':=CB it i) .head hs ⟨_,he,_,rfl⟩) h
theorem Run.WN (h:Q (.ref e) F ((e,CB it i)::V)):Run c A (pyIter (.ref e)) F ((e,CB it i)::V) Q:=fun s S=>by
 obtain⟨o,ho,old,rfl⟩:=S.own.get .head
 exact wpAny_pyIter_enum ho (Ae F _ S h)
end
section
variable {Q:Flow→FM→Sm→Aa→Prop}
inductive EnT (x:Cc) (K:Aa) (F1:FM) (y:Str) (t:Tok) (it:Addr) (J:Nat→FM→Sm→Aa→Prop) (i:Nat):FM→Aa→Prop
 |mk {F3 m3 W4:_}:Le F1 F3→J i F3 m3 W4→EnT x K F1 y t it J i F3 ((it,AI "str_ascii_iterator" (.str y t) i)::full x m3 (W4++K))
theorem R.UC (ok:Ok x n gs) (he:Ev x F m V e (.str y)) (ha:y.cps.all (·<128)=true) (hx:Str.ofString "enumerate" ∈ gs) (J:Nat→FM→Sm→Aa→Prop) (hJ:J 0 F m V)
  (turn:∀i F' F'' m' W c v1 v2,y.cps[i]? =some c→Le F F'→Le F' F''→J i F' m' W→(Sp.int i).ok (some v1)→(Sp.str (ch c)).ok (some v2)→∃m1 W1 m2 W2,Au x ida v1 m' W m1 W1∧Au x idb v2 m1 W1 m2 W2∧R x body F'' m2 W2 (CR x rest Q (J (i+1))))
  (fin:∀F' m' W,Le F F'→J y.cps.size F' m' W→R x rest F' m' W Q) (hn:autoParam (notStar e=true) aR)
  (hs:autoParam (∀v,foldedSetIterable (.Call (.Name (Str.ofString "enumerate") p1) [e] [] p2) x.env v=Pure.pure v) aI):
  R x (.For (.Tuple [.Name ida pa,.Name idb pb] k tp) (.Call (.Name (Str.ofString "enumerate") p1) [e] [] p2) body [] pos::rest) F m V Q:=.ki fun K Vf Q' ft kk=>Run.cons (Run.GJ ((Rx.Id (Q:=fun v F' W=>∃e it t,v= .ref e∧F'=F∧W=(e,CB it 0)::(it,AI "str_ascii_iterator" (.str y t) 0)::V) ok hx Vj (.cons he .nil hn)
  fun t K=>Run.Tn ha fun e it=>⟨Le.refl _,_,Sb.refl,e,it,t,rfl,rfl,rfl⟩).fu ft fun xv F1 V1 W _ f1 q=>EY q fun e0 it t e1 e2 e3=>by
 subst e1 e2 e3
 refine Run.fit (W:=(e0,CB it 0)::(it,AI "str_ascii_iterator" (.str y t) 0)::full x m (V++K)) (Sb.trans (.perm (((eK ..).cons _).trans (eK ..))) f1).fit (Run.WN ?_)
 refine AA.Mc y.cps.size (CB it) (fun i F3 W3=>EnT x K F1 y t it J i F3 W3) (fun i hi F3 W3 L=>?_) (fun F3 W3 L=>?_) (.mk (Le.refl _) hJ)
 ·induction L with|mk le3 hJ'=>
  rename_i m3 W4
  have hc0:=fh hi
  refine Run.YI hc0 fun a t1 u=>(Run.Vz (Run.fit (W:=(a,Dh [.int i t1,.str (ch y.cps[i]) u])::(e0,CB it (i+1))::(it,AI "str_ascii_iterator" (.str y t) (i+1))::full x m3 (W4++K)) (Sb.perm (.swap ..)).fit (Run.AY fun F4 le4 tu=>?_)))
  refine Ht (turn i F3 F4 m3 W4 _ _ _ hc0 le3 le4 hJ' ⟨t1,rfl⟩ ⟨u,rfl⟩) fun m1 W1 m2 W2 h1 h2 hb=>Run.Hh ok.rm tu rfl (Run.BA (Run.fit (W:=full x m3 (W4++((e0,CB it (i+1))::(it,AI "str_ascii_iterator" (.str y t) (i+1))::K)))
   (Sb.perm ((List.Perm.cons _ (List.perm_middle.trans (List.perm_middle.cons _))).trans ((eK ..).trans ((eK ..).cons _)))).fit (h1 _ _ _ (Run.BA (h2 _ _ _ (hb.fu Sb.refl fun f F5 V5 m5 W5 le5 f5 q5=>?_))))))
  have leF:=Le.trans le3 (Le.trans le4 le5)
  have f6:Sb ((e0,CB it (i+1))::(it,AI "str_ascii_iterator" (.str y t) (i+1))::full x m5 (W5++K)) V5:=
   Sb.trans (.perm (List.Perm.trans (((eK ..).cons _).trans (eK ..)) (List.Perm.cons _ (List.perm_middle.trans (List.perm_middle.cons _)).symm))) f5
  induction f with
  |next=>exact⟨_,f6.fit,.mk leF q5⟩
  |cont=>exact⟨_,f6.fit,.mk leF q5⟩
  |brk=>exact(show R x rest F5 m5 W5 Q from q5).go leF ((Sb.skip (Sb.skip Sb.refl)).trans f6) kk
  |ret v=>exact kk _ F5 V5 m5 W5 leF ((Sb.skip (Sb.skip Sb.refl)).trans f6) q5
 ·induction L with|mk le3 hJ'=>
  exact Run.Tc ok.rm (eh _) (Run.nil ((fin F3 _ _ le3 hJ').go le3 Sb.refl kk))) hs)
end
end
section
variable {K:Type} [DecidableEq K] 
def AU (knd:KeyKind P0 w K) (kvs:List (K×Value)) (o:Obj):Prop:=o.ExactDict∧∃es ep,o.data= .dict es ep∧KeysOf knd es∧Pairs knd es.toList kvs∧(kvs.map (·.1)).Nodup
def Dc (knd:KeyKind P0 w K) (F:FM) (d:Addr) (kvs:List (K×Value)):Prop:=∃o,F d=some o∧AU knd kvs o
theorem Dc.le {knd:KeyKind P0 w K}{d:Addr}{kvs:List (K×Value)}(x:Dc knd F d kvs) (l:Le F F'):Dc knd F' d kvs:=Ag (x) fun o a b=>⟨o,l _ _ a,b⟩
def BB (F:FM) (a:Addr):Prop:=∃o,F a=some o∧Ct o
theorem BB.le (x:BB F a) (l:Le F F'):BB F' a:=Ag (x) fun o a b=>⟨o,l _ _ a,b⟩
theorem AU.new {knd:KeyKind P0 w K}:AU knd [] {cls:=.type "dict",data:=.dict #[]}:=⟨⟨rfl,rfl,rfl⟩,#[],0,rfl,fun _ he=>absurd he (by simp),.nil,List.nodup_nil⟩
theorem AU.ty {knd:KeyKind P0 w K}{kvs:List (K×Value)}(h:AU knd kvs o):o.cls= .type "dict"∧o.dict=Option.none:=⟨h.1.1,h.1.2.1⟩
end
theorem O5:Slot "dict" "setdefault" "dict.setdefault":=
 .of (owner:="dict") (n:="setdefault") (by rw[eS,eR];kernel_rfl) (by decide+kernel) (by decide+kernel) (by decide+kernel)
  (by first|exact .inl (by decide+kernel)|exact .inr (by decide+kernel)) (by rw[e6];kernel_rfl)
theorem dU:typeOf (.builtin "dict.setdefault")=Pure.pure (.type "method_descriptor"):=by refine(?_:builtinType _=_);rw[builtinType_eq_fast];kernel_rfl
theorem Tl:entryFor table "dict.setdefault"=some Builtin.«dict.setdefault»:=entryFor_of_tree (by kernel_rfl)
theorem PR (a b c:Value):argsOk "dict.setdefault" ⟨[a,b,c],[]⟩:=by skip;kernel_rfl
section
variable {d:Addr}
theorem Ll {K:Type} [DecidableEq K] {knd:KeyKind P0 w K}{kvs:List (K×Value)}(S:StP c F V s) (hd:Ad d (AU knd kvs) V):s.heap.DictOf knd d kvs:=by
 obtain⟨o,ho,hc,es,ep,h1,h2,h3,h4⟩:=S.own.get hd
 exact FQ o es ep ho hc h1 h2 h3 h4
theorem Lj {K:Type} [DecidableEq K] {knd:KeyKind P0 w K}{kvs:List (K×Value)}(S:StP c F V s) (hd:Dc knd F d kvs):s.heap.DictOf knd d kvs:=by
 obtain⟨o,ho,hc,es,ep,h1,h2,h3,h4⟩:=hd
 exact FQ o es ep (S.own.fro _ _ ho) hc h1 h2 h3 h4
theorem Ty:∃o, (cx w os).F0 sysModules=some o:=⟨Ob w.params,by kernel_rfl⟩
theorem Oj (S:StP (cx w os) F V s) (hd:Ad d P V):(d==sysModules)=false:=by
 refine Exists.elim (Ty (w:=w) (os:=os)) fun o ho=>?_
 refine beq_false_of_ne fun e=>?_
 have:=(S.own.own _ hd.mem).1
 rw[show(d,P).1=sysModules from e,S.base _ _ ho] at this
 contradiction
theorem SJ {K:Type} [DecidableEq K] {knd:KeyKind prog w K}{kvs:List (K×Value)}{k:K}{dflt:Value}{Q:Value→Shared→Prop}(hkey:knd.is k key=true) (hm:s.heap.DictOf knd d kvs)
  (hnew:k ∉ kvs.map (·.1)) (hQ:∀h',h'.DictOf knd d (kvs++[(k,dflt)])→Heap.SameBut d s.heap h'→Q dflt {s with heap:=h',toks:=s.toks+1}) (hsz:kvs.length≤1000):wpAny (model prog w) A (dictSetDefault d key dflt) Q E s:=by
 refine EZ (hm) fun o es ep ho hc hd hk hp hn=>?_
 have hes:es.size≤sizeLine:=by have e1:=hp.length;have e2:=es.length_toList;have:=eT;exact KK ‹_› ‹_› rfl
 have hi:(es.findIdx? fun e=>knd.is k e.key)=Option.none:=by
  have h1:=hp.findIdx k
  have h2:(kvs.findIdx? fun kv=>decide (kv.1=k))=Option.none:=List.findIdx?_eq_none_iff.mpr fun kv hkv=>eV fun e=>hnew (List.mem_map.mpr ⟨kv,hkv,e⟩)
  simp only[h2] at h1
  obtain⟨l⟩:=es
  simpa using h1
 unfold dictSetDefault
 try with_reducible refine en ?_
 refine d8 (knd.pyHash hkey ?_)
 refine d8 (wpAny_dictFind_of (s:={s with toks:=s.toks+1}) hkey ho hd hk ?_)
 refine(hi)▸?_
 refine d8 (wpAny_rule (d8 (wpAny_updateDictKeys (hz:=hes) (s:={s with toks:=s.toks+1}) ho hd (d9 (hQ _ (FQ _ _ (ep+1) (Heap.get?_update_self _ ho (Obj.isFreed_of_dict (Obj.data_mapDictKeys hd _))) (hc.mapDictKeys _) (Obj.data_mapDictKeys hd _) (hk.push hkey _) ?_ ?_) (Heap.SameBut.update ..))))))
 ·have:=hp.append hkey (knd.hash k) dflt
  obtain⟨l⟩:=es
  simpa using this
 ·rw[eQ,List.nodup_append]
  refine⟨hn,by simp,fun a ha b hb=>?_⟩
  rw[eP,List.map_nil,List.mem_singleton] at hb
  subst hb
  exact fun e=>hnew (e▸ha)
theorem Run.J1 {kvs:List (Str×Value)}{dflt:Value}(hd:Ad d (AU (strKind P0 w) kvs) V) (h1:∀v,valueAt kvs y=some v→Q v F V) (hp:Aj d (AU (strKind P0 w) kvs) (AU (strKind P0 w) (kvs++[(y,dflt)])) V V') (h2:y ∉ kvs.map (·.1)→Q dflt F V') (hsz:kvs.length≤1000):
  Run (cx w os) A (PySem.call (.builtin "dict.setdefault") [.ref d,.str y u,dflt]) F V Q:=.mk fun s S=>by
 have hm:=Ll S.toStP hd
 have hkey:(strKind P0 w).is y (.str y u)=true:=eX y
 refine eC O5 hm.typeIs Tl ?_ (PR _ _ _)
 refine d8 ?_
 refine d8 (wpAny_notOrdered_dict hm.typeIs ?_)
 refine(?_:wpAny _ _ (Pure.pure (d,Value.str y u,some dflt)) _ _ s)
 refine d9 ?_
 refine(?_:wpAny _ _ (if (d==sysModules)=true then _ else(dictSetDefault d (.str y u) dflt>>=_)) _ _ s)
 rw[if_neg (by rw[(Oj S.toStP hd)];exact Bool.false_ne_true)]
 by_cases hy:y ∈ kvs.map (·.1)
 ·refine Ag (List.mem_map.mp hy) fun kv hkv e=>?_
  obtain⟨i,hi,e2⟩:=List.mem_iff_getElem.mp hkv
  have hv:valueAt kvs y=some kv.2:=valueAt_of_get ((EZ (hm) fun _ _ _ _ _ _ _ _ hn=>hn:(kvs.map (·.1)).Nodup)) (i:=i) (by rw[eN hi,e2,←e])
  have hes:s.heap.DictLe d sizeLine:=by
   refine EZ (hm) fun o es ep ho hc h1 h2 h3 h4=>?_
   intro o' es' ep' ho' hd'
   replace ho':=(ho)▸ho'
   obtain rfl:=ed ho'
   replace hd':=(h1)▸hd'
   injection hd' with hd';subst hd'
   have e1:=h3.length
   have e2:es.toList.length=es.size:=rfl
   have:=eT
   lia
  refine d8 (wpAny_dictSetDefault_of (hz:=hes) hkey hm.mapOf (fun v hv'=>d9 ⟨v,rfl,F,V,⟨S.own,S.base,S.gens,S.os⟩,h1 v hv'⟩) fun hn=>?_)
  replace hn:=(hv)▸hn
  contradiction
 ·refine d8 (SJ hkey hm hy (fun h' hm' hs'=>d9 ⟨dflt,rfl,F,V',S.toStP.put hp hs' ?_,h2 hy⟩) hsz)
  refine EZ (hm') fun o es ep g1 g2 g3 g4 g5 g6=>?_
  exact⟨o,g1,g2,es,ep,g3,g4,g5,g6⟩
theorem Run.SH {i:Int}(hp:Aj d (AU (intKind P0 w) kvs) (AU (intKind P0 w) (stored kvs i v)) V V') (h:QU () F V') (hsz:kvs.length≤1000):Run (cx w os) A (setItem (.ref d) (.int i t) v) F V QU:=.mk fun s S=>
 wpAny_setItem_pairs (knd:=intKind P0 w) (eX i) (Ll S.toStP hp.has) (fun h' hm' hs'=>⟨F,V',S.toStP.put hp hs' (by
  refine EZ (hm') fun o es ep g1 g2 g3 g4 g5 g6=>?_
  exact⟨o,g1,g2,es,ep,g3,g4,g5,g6⟩),h⟩) (by refine(eT)▸?_;exact eb ‹_› (d7 rfl))
theorem Run.newSet (h:∀a,Q (.ref a) F ((a,Ct)::V)):Run (cx w os) A (PySem.call (.type "set") []) F V Q:=.mk fun s S=>call_set_0 fun led=>Ae F _ (S.push (P:=Ct) (k:=s.toks) ⟨led,rfl⟩) (h _)
end
theorem UW:GaOk "dict" "dict.__getattribute__":=⟨PySem.F.slot_dict_getattribute,entryFor_alias (id':="object.__getattribute__") (by kernel_rfl) rfl (by decide+kernel) (by kernel_rfl),fun a b=>by unfold argsOk;kernel_rfl⟩
theorem UY:GaOk "set" "set.__getattribute__":=⟨PySem.F.slot_set_getattribute,entryFor_alias (id':="object.__getattribute__") (by kernel_rfl) rfl (by decide+kernel) (by kernel_rfl),fun a b=>by unfold argsOk;kernel_rfl⟩
theorem Yf:MdOk "dict" "dict.get" "get":=⟨by first|decide+kernel|kernel_rfl,by decide+kernel,by rw[e6];kernel_rfl⟩
theorem Ye:MdOk "set" "set.__contains__" "__contains__":=⟨by first|decide+kernel|kernel_rfl,by decide+kernel,by rw[e6];kernel_rfl⟩
theorem dR:typeOf (.builtin "set.__contains__")=Pure.pure (.type "method_descriptor"):=by refine(?_:builtinType _=_);rw[builtinType_eq_fast];kernel_rfl
theorem Ru (v u:Value):BcOk "dict" "dict.get" [v,u]:=by
 refine⟨?_,by decide+kernel,by decide+kernel,by rw[e6];kernel_rfl,by rw[e6];kernel_rfl⟩
 cases h:Manifest.signature? "dict.get" with
 |none=>exact absurd h (by decide+kernel)
 |some sg=>
  refine⟨sg,rfl,fun a=>?_⟩
  have:sg=((Manifest.signature? "dict.get").getD sg):=by rw[h];rfl
  rw[this]
  kernel_rfl
theorem Rt (v:Value):BcOk "set" "set.__contains__" [v]:=by
 refine⟨?_,by decide+kernel,by decide+kernel,by rw[e6];kernel_rfl,by rw[e6];kernel_rfl⟩
 cases h:Manifest.signature? "set.__contains__" with
 |none=>exact absurd h (by decide+kernel)
 |some sg=>
  refine⟨sg,rfl,fun a=>?_⟩
  have:sg=((Manifest.signature? "set.__contains__").getD sg):=by rw[h];rfl
  rw[this]
  kernel_rfl
theorem ZS (as:Args):(Code.builtin "dict.get" as).quiet=true:=Code.quiet_builtin _ (by decide+kernel)
theorem ZR (as:Args):(Code.builtin "set.__contains__" as).quiet=true:=Code.quiet_builtin _ (by decide+kernel)
section
variable {K:Type} [DecidableEq K] {knd:KeyKind prog w K}{f:K→Option Value}{k:K}{dflt:Value}{d:Addr}{P:PySem.Fin→Shared→Prop}
theorem Pt (hkey:knd.is k key=true) (hd:(d==sysModules)=false) (hm:s.heap.MapOf knd d f) (h:P (.done (.ret ((f k).getD dflt))) {s with toks:=s.toks+1}):wpAny (model prog w) A (Builtin.«dict.get» ⟨[.ref d,key,dflt],[]⟩) P E s:=by
 refine(?_:wpAny _ _ (dictGet d key>>=_) _ _ s)
 refine d8 (wpAny_dictGet_of hkey hm ?_)
 cases hf:f k with
 |some v=>
  rw[hf] at h
  exact d9 h
 |none=>
  rw[hf] at h
  refine(?_:wpAny _ _ (Builtin.Dict.missed d key>>=_) _ _ _)
  exact d8 (wpAny_missed_other hd (d9 h))
theorem dE {S:K→Bool}(hkey:knd.is k key=true) (hsc:key.scannable=true) (hS:s.heap.SetOf knd a S n) (h:P (.done (.ret (.bool (S k)))) {s with toks:=s.toks+1}):wpAny (model prog w) A (Builtin.«frozenset.__contains__» ⟨[.ref a,key],[]⟩) P E s:=by
 dsimp only[Builtin.«frozenset.__contains__»,Builtin.Frozenset.oneOther]
 simp only[List.isEmpty_nil,bind_assoc]
 refine d8 (d9 ?_)
 refine d8 (d9 ?_)
 refine d8 (wpAny_tryCatch ?_)
 refine en ?_
 refine d8 (knd.pyHash hkey ?_)
 refine d8 (wpAny_setFind_of (s:={s with toks:=s.toks+1}) hkey hsc hS fun r hr=>?_)
 refine d9 ?_
 refine(?_:wpAny _ _ (ret (Value.bool r.isSome)) _ _ _)
 rw[hr]
 exact d9 h
end
section
variable {d b:Addr}
theorem aC (S:StP c F V s) (h:BB F d):s.heap.SetOf (strKind P0 w) d (fun _=>false) 0:=by
 obtain⟨o,ho,led,rfl⟩:=h
 refine Wn _ (#[]) 0 (.fresh 0 0 led) (S.own.fro _ _ ho) ?_ rfl ?_ ?_ ?_ ?_ rfl
 ·exact⟨rfl,rfl,rfl⟩
 ·intro e he;contradiction
 ·intro k
  constructor
  ·intro h;contradiction
  ·rintro⟨e,he,_⟩;contradiction
 ·decide+kernel
 ·rcases led with _|_<;>decide+kernel
theorem Run.IG {i:Int}{dflt:Value}(hb:Bd F b "dict.get" d) (hds:(d==sysModules)=false) (hd:Dc (intKind P0 w) F d kvs) (h:Q ((valueAt kvs i).getD dflt) F V):Run (cx w os) A (PySem.call (.ref b) [.int i t,dflt]) F V Q:=.mk fun s S=>by
 have hm:=Lj S.toStP hd
 refine IH (Ru _ _) (S.own.fro _ _ hb) hm.typeIs (fun o ho c=>?_) PySem.F.entry_dict_get ZS fun A' _=>Pt (knd:=intKind P0 w) (eX i) hds hm.mapOf ⟨_,rfl,F,V,⟨S.own,S.base,S.gens,S.os⟩,h⟩
 refine Cm (hm) fun o' es ep ho' _ h1 _=>?_
 replace ho:=(ho')▸ho
 obtain rfl:=ed ho
 rw[h1]
 exact nofun
theorem Run.IM {kvs:List (Str×Value)}{dflt:Value}(hds:(d==sysModules)=false) (hd:Dc (strKind P0 w) F d kvs) (h:Q ((valueAt kvs y).getD dflt) F V):Run (cx w os) A (PySem.call (.builtin "dict.get") [.ref d,.str y t,dflt]) F V Q:=.mk fun s S=>by
 have hm:=Lj S.toStP hd
 exact eC PySem.F.slot_dict_get hm.typeIs PySem.F.entry_dict_get (Pt (knd:=strKind P0 w) (eX y) hds hm.mapOf ⟨_,rfl,F,V,⟨S.own,S.base,S.gens,S.os⟩,h⟩) (PySem.F.args_dict_get_3 _ _ _)
theorem Run.Ei (hb:Bd F b "set.__contains__" d) (hd:BB F d) (h:Q (.bool false) F V):Run (cx w os) A (PySem.call (.ref b) [.str y t]) F V Q:=.mk fun s S=>by
 have hm:=aC (w:=w) S.toStP hd
 refine IH (Rt _) (S.own.fro _ _ hb) hm.typeIs (fun o ho c=>?_) entry_set_contains ZR fun A' _=>dE (knd:=strKind P0 w) (k:=y) (eX y) rfl hm ⟨_,rfl,F,V,⟨S.own,S.base,S.gens,S.os⟩,h⟩
 refine E0 (hm) fun o' es ep t' ho' _ h1 _=>?_
 replace ho:=(ho')▸ho
 obtain rfl:=ed ho
 rw[h1]
 exact nofun
theorem Run.UT {id nm:String}(ga:GaOk T gid) (sl:Slot T nm id) (ty:typeOf (.builtin id)=Pure.pure (.type "method_descriptor")) (mk:MdOk T id nm) (ho:F d=some o) (hc:o.cls= .type T) (hdi:o.dict=Option.none) (hcl:∀c,o.data≠.cls c)
  (hn:(["__module__","__name__","__qualname__","__doc__","__annotations__"]:List Str).contains (Str.ofString nm)=false) {c:Cx}(h:∀b,Q (.ref b) F ((b,(·=C0 id d))::V)):Run c A (getAttr (.ref d) (Str.ofString nm) true) F V Q:=.mk fun s S=>
 Mz ga sl ty mk (S.own.fro _ _ ho) hc hdi hcl hn (Ae F _ (S.push (P:=(·=C0 id d)) (k:=s.toks+1) rfl) (h _))
end
def Dj (kvs:List (Int×Value)) (ps:List (Int×Int)):Prop:=kvs.map (·.1)=ps.map (·.1)∧∀k,match (ps.find? fun p=>p.1=k) with|some p=>∃t,valueAt kvs k=some (.int p.2 t)|none=>valueAt kvs k=none
section
variable {s:Sp}{d b:Addr}{QF:Flow→FM→Sm→Aa→Prop}
theorem Rx.IN {K:Type} [DecidableEq K] (knd:KeyKind P0 x.w K) (k:∀a,(a==sysModules)=false→Q (.ref a) F ((a,AU knd [])::V)):Rx x F m V (.Dict [] [] pos) Q:=fun K' Vf ft=>by
 refine Run.fit ft.fit (.mk fun st S=>wpAny_Dict_empty ?_)
 have S':StP x.fo F ((st.heap.objs.size,AU knd [])::full x m (V++K')) {st with heap:=st.heap.push {cls:=.type "dict",data:=.dict #[]}}:=S.push (k:=st.toks) AU.new
 exact⟨F,_,S',Le.refl _,(st.heap.objs.size,AU knd [])::V,Sb.perm (.swap ..),k _ (Oj (w:=x.w) (os:=x.os) S' .head)⟩
theorem Rx.OQ (ok:Ok x n gs) (hx:Str.ofString "set" ∈ gs) (k:∀a,Q (.ref a) F ((a,Ct)::V)):Rx x F m V (.Call (.Name (Str.ofString "set") p) [] [] pos) Q:=
 Rx.Pv ok hx Vu fun K=>Run.newSet fun a=>⟨Le.refl _,(a,Ct)::V,Sb.refl,k a⟩
theorem Rx.J1 {kvs:List (Str×Value)}{V':Addr→Aa}(ok:Ok x n gs) (h0:Ad id_ (.val (.ref d)) m) (hd:Ad d (AU (strKind P0 x.w) kvs) V) (he:Ev x F m V e1 (.str y)) (h1:∀v,valueAt kvs y=some v→Q v F V)
  (hp:∀l,Aj d (AU (strKind P0 x.w) kvs) (AU (strKind P0 x.w) (kvs++[(y,.ref l)])) V (V' l)) (h2:y ∉ kvs.map (·.1)→∀l,Q (.ref l) F ((l,Ab [])::V' l)) (hsz:kvs.length≤1000) (hn1:autoParam (notStar e1=true) aR)
  (hfew:autoParam (((backTo pos (starEach [e1,.List [] lp] x.env)).all (fun x=> !x.1) && (backToKw pos (keywordEach [] x.env)).all (fun x=>x.1.isSome) && decide ([e1,.List [] lp].length+([]:List Keyword).length+(if ([]:List Keyword).isEmpty then 0 else 1)<30))=true) aU)
  (hline:autoParam ((apos.endLine==pos.line)=true) aU):Rx x F m V (.Call (.Attribute (.Name id_ q) (Str.ofString "setdefault") apos) [e1,.List [] lp] [] pos) Q:=fun K Vf ft=>by
 refine .Es (Run.fit ft.fit ((Run.Hw ok h0).mono fun v F1 V1 qz=>Bj qz fun a1 a2 a3=>?_)) rfl hfew hline
 refine a1▸?_;rw[a2];subst a3
 refine HL ("dict") ("dict.setdefault") PySem.F.plainAttrs_dict O5 dU (fun s S=>?_) ?_
 ·refine Ag (S.own.get (.tail hd.app)) fun o ho hP=>?_
  exact⟨⟨o,ho,hP.ty.1⟩,fun a e=>by injection e with e;subst e;exact Ak o ho hP.ty.2⟩
 refine Run.Dp (Run.AL ((he K _ Sb.refl).mono fun v F2 V2 ⟨a2,f2,t,o2⟩=>?_) (AD hn1)) (AD hn1) rfl
 rw[a2];obtain rfl:=ed o2
 refine Run.AL (Run.lst (Run.A0 ⟨by decide,fun l=>Run.A0 ?_⟩)) rfl
 refine Run.fit (W:=(l,Ab [])::full x m (V++K)) f2.cons.fit ?_
 refine Run.J1 (w:=x.w) (os:=x.os) (.tail (.tail hd.app)) (fun v hv=>⟨Le.refl _,V,Sb.skip Sb.refl,h1 v hv⟩) (.tail (.tail (hp l).app)) (fun hy=>⟨Le.refl _,(l,Ab [])::V' l,Sb.perm (.swap ..),h2 hy l⟩) hsz
theorem Rx.IM {kvs:List (Str×Value)}{dv:Value}(ok:Ok x n gs) (h0:Ad id_ (.val (.ref d)) m) (hds:(d==sysModules)=false) (hd:Dc (strKind P0 x.w) F d kvs) (he:Ev x F m V e1 (.str y)) (he2:Ev x F m V e2 (.val dv)) (k:Q ((valueAt kvs y).getD dv) F V) (hn1:autoParam (notStar e1=true) aR) (hn2:autoParam (notStar e2=true) aR)
  (hfew:autoParam (((backTo pos (starEach [e1,e2] x.env)).all (fun x=> !x.1) && (backToKw pos (keywordEach [] x.env)).all (fun x=>x.1.isSome) && decide ([e1,e2].length+([]:List Keyword).length+(if ([]:List Keyword).isEmpty then 0 else 1)<30))=true) aU)
  (hline:autoParam ((apos.endLine==pos.line)=true) aU):Rx x F m V (.Call (.Attribute (.Name id_ q) (Str.ofString "get") apos) [e1,e2] [] pos) Q:=by
 have hq:∀v F' W,(Sp.str y).ok (some v)∧F'=F∧W=V→Ev x F' m W e2 (.val dv)∧∀u,(Sp.val dv).ok (some u)→RC x.fo x.A (PySem.call (.builtin "dict.get") [.ref d,v,u]) F' W Q:=fun v F' W hh=>by
  obtain⟨⟨t,g1⟩,g2,g3⟩:=hh
  obtain rfl:=ed g1
  rw[g2,g3]
  exact⟨he2,fun u hu=>by injection hu with hu;subst hu;exact fun K=>Run.IM (w:=x.w) (os:=x.os) hds hd ⟨Le.refl _,_,Sb.refl,k⟩⟩
 refine Ag (hd) fun o ho hP=>?_
 exact Rx.NP PySem.F.plainAttrs_dict PySem.F.slot_dict_get PySem.F.type_dict_get (.nm ok h0) (AE o ho hP.ty.1 hP.ty.2) (Rx.H3 he) (fun v F' W _ hh=>hq v F' W hh) hn1 hn2 rfl hfew hline
theorem Rx.KU {id nm:String}(ga:GaOk T gid) (sl:Slot T nm id) (ty:typeOf (.builtin id)=Pure.pure (.type "method_descriptor")) (mk:MdOk T id nm) (h0:Ev x F m V eo (.val (.ref d))) (ho:F d=some o) (hc:o.cls= .type T) (hdi:o.dict=Option.none) (hcl:∀c,o.data≠.cls c)
  (k:∀F' b,Le F F'→Bd F' b id d→Q (.ref b) F' V) (hn:autoParam ((["__module__","__name__","__qualname__","__doc__","__annotations__"]:List Str).contains (Str.ofString nm)=false) aD)
  (he:autoParam (eval (.Attribute eo (Str.ofString nm) pos) x.env=(do
   let o ←eval eo x.env
   PySem.standAt pos.atName
   let r ←PySem.holding [o] (getAttr o (Str.ofString nm) true)
   letTemporaryGo eo o r
   Pure.pure r)) aU):Rx x F m V (.Attribute eo (Str.ofString nm) pos) Q:=fun K Vf ft=>
 .up fun s S=>Attribute_any_ ((Run.fu (h0 K Vf ft) S fun v s1 F1 V1 S1 qz=>Bj qz fun a1 f1 hv=>by
  subst a1;obtain rfl:=ed hv
  exact Run.UT (Q:=up fun v F' V'=>Le F1 F'∧∃W,Sb (full x m (W++K)) V'∧Q v F' W) ga sl ty mk ho hc hdi hcl hn (fun b=>up.AY fun F2 o' le hb hp=>up.one ⟨le,V,f1,k F2 b le (by subst hp;exact hb)⟩) s1 S1)) he
theorem Ev.IG {ps:List (Int×Int)}{i r:Int}(ok:Ok x n gs) (hb:Bd F b "dict.get" d) (h0:Ad id_ (.val (.ref b)) m) (hds:(d==sysModules)=false) (hd:Dc (intKind P0 x.w) F d kvs) (hps:Dj kvs ps) (he:Ev x F m V e1 (.int i)) (he2:Ev x F m V e2 (.int j))
  (hr:((ps.find? fun p=>p.1=i).map (·.2)).getD j=r) (hn1:autoParam (notStar e1=true) aR) (hn2:autoParam (notStar e2=true) aR):Ev x F m V (.Call (.Name id_ q) [e1,e2] [] pos) (.int r):=fun K Vf ft=>
 .CA (Run.fit ft.fit ((Run.Hw ok h0).mono fun v F1 V1 qz=>Bj qz fun a1 a2 a3=>by
  refine a1▸?_;subst a2;rw[a3]
  refine Run.IL hb (Run.AL ((he K _ Sb.refl).mono fun v F2 V2 ⟨a2,f2,t,o2⟩=>?_) (AD hn1)) (AD hn1) (by rw[AD hn2];rfl)
  rw[a2];obtain rfl:=ed o2
  refine Run.AL ((he2 K _ f2).mono fun v F3 V3 ⟨a3,f3,u,o3⟩=>?_) (AD hn2)
  rw[a3];obtain rfl:=ed o3
  refine Run.A0 ⟨Le.refl _,Run.IG (w:=x.w) (os:=x.os) hb hds hd ⟨rfl,f3,?_⟩⟩
  have:=hps.2 i
  cases hf:(ps.find? fun p=>p.1=i) with
  |none=>
   rw[hf] at this hr
   subst hr
   exact⟨u,congrArg some (by rw[this];rfl)⟩
  |some p=>
   rw[hf] at this hr
   subst hr
   refine Exists.elim (this) fun t' e=>?_
   exact⟨t',congrArg some (by rw[e];rfl)⟩))
theorem Ev.Ei (ok:Ok x n gs) (hb:Bd F b "set.__contains__" d) (h0:Ad id_ (.val (.ref b)) m) (hd:BB F d) (he:Ev x F m V e1 (.str y)) (hn1:autoParam (notStar e1=true) aR):Ev x F m V (.Call (.Name id_ q) [e1] [] pos) (.val (.bool false)):=fun K Vf ft=>
 .CA (Run.fit ft.fit ((Run.Hw ok h0).mono fun v F1 V1 qz=>Bj qz fun a1 a2 a3=>by
  refine a1▸?_;rw[a2];rw[a3]
  refine Run.IL hb (Run.AL ((he K _ Sb.refl).mono fun v F2 V2 ⟨a2,f2,t,o2⟩=>?_) (AD hn1)) (AD hn1) rfl
  rw[a2];obtain rfl:=ed o2
  exact Run.A0 ⟨Le.refl _,Run.Ei (w:=x.w) (os:=x.os) hb hd ⟨rfl,f2,rfl⟩⟩))
theorem R.Q7 {i r:Int}{V':Value→Aa}(ok:Ok x n gs) (h:Ev x F m V e (.int r)) (hp:Aj nb s0 (.int r) m m1) (h0:Ad id_ (.val (.ref d)) m1) (hi:Ev x F m1 V e1 (.int i)) (hd:∀v,Aj d (AU (intKind P0 x.w) kvs) (AU (intKind P0 x.w) (stored kvs i v)) V (V' v))
  (k:∀t,R x rest F m1 (V' (.int r t)) QF) (hsz:kvs.length≤1000) (he:autoParam ((assignEach [.Name nb p1,.Subscript (.Name id_ p2) e1 p3] x.env).map (·.2)=[assign (.Name nb p1) x.env,assign (.Subscript (.Name id_ p2) e1 p3) x.env]) aR)
  (hw:autoParam (swappedStores [.Name nb p1,.Subscript (.Name id_ p2) e1 p3] e x.env=Pure.pure Option.none) aR):R x (.Assign [.Name nb p1,.Subscript (.Name id_ p2) e1 p3] e p::rest) F m V QF:=.ki fun K Vf Q' ft kk=>Run.cons (Run.IA (h.kI ft fun V1 t f1=>Run.fit f1.fit (Run.BA (Run.D9 ok.lo hp ⟨t,rfl⟩ (by
 dsimp only[assign_Subscript]
 exact .bind (.holding (Run.C1 ok h0 Sb.refl (.bind (.holding (hi.kI Sb.refl fun V2 u f2=>.bind (.standAt (.bind (.holding (Run.fit f2.fit (Run.SH (w:=x.w) (os:=x.os) (.tail (hd (.int r t)).app) (fun s S=>wpAny_release (Ae _ _ S ((k t).fu Sb.refl kk))) hsz)))))))))))))) he hw)
end
def DG (v:Value) (i:Nat):Prop:=∃t,v= .int (i:Int) t
noncomputable def Ba (l:List Nat) (c:Nat):List Nat:=(List.range l.length).filter fun i=>l[i]? ==some c
theorem Oo (l:List Nat) (c d:Nat):Ba (l++[d]) c=Ba l c++if d=c then[l.length] else[]:=by
 unfold Ba
 simp only[eO,show[d].length=1 from rfl,List.range_succ,List.filter_append]
 congr 1
 ·refine List.filter_congr fun i hi=>?_
  rw[List.getElem?_append_left (List.mem_range.mp hi)]
 ·rw[List.filter_cons,List.getElem?_append_right (eh _),Nat.sub_self]
  by_cases h:d=c
  ·rw[if_pos (by exact eU (h)),if_pos h,List.filter_nil]
  ·rw[if_neg (by simpa using h),if_neg h,List.filter_nil]
noncomputable abbrev Gr:=Nat×Addr×List Value
noncomputable def CO (G:List Gr):Aa:=G.map fun g=>(g.2.1,Ab g.2.2)
noncomputable def BL (G:List Gr):List (Str×Value):=G.map fun g=>(ch g.1,.ref g.2.1)
noncomputable def A8:List Gr→Nat→Option Gr
 |[],_=>none
 |g::G,c=>if g.1=c then some g else A8 G c
noncomputable def CM (c:Nat) (v:Value):List Gr→List Gr
 |[]=>[]
 |g::G=>if g.1=c then(g.1,g.2.1,g.2.2++[v])::G else g::CM c v G
def Di (l:List Nat) (G:List Gr):Prop:=∀c,match A8 G c with|some g=>Af DG g.2.2 (Ba l c)|none=>Ba l c=[]
theorem RR {a:Nat}(h:a≠b):ch a≠ch b:=fun e=>h (by have:=(B8 a b).symm;rw[e,eX] at this;exact eq_of_beq this)
theorem MP (G:List Gr) (c:Nat):valueAt (BL G) (ch c)=(A8 G c).map fun g=>.ref g.2.1:=by
 induction G with
 |nil=>rfl
 |cons g G ih=>
  dsimp only[BL,valueAt,A8]
  rw[eP,List.find?_cons]
  by_cases h:g.1=c
  ·rw[if_pos h,h,eU rfl];rfl
  ·rw[if_neg h,eV (RR h)];exact ih
theorem VM {G:List Gr}{c:Nat}(h:ch c ∉ (BL G).map (·.1)):A8 G c=none:=by
 induction G with
 |nil=>rfl
 |cons g G ih=>
  dsimp only[A8]
  have h1:ch c ∉ (ch g.1)::(BL G).map (·.1):=h
  rw[List.mem_cons,not_or] at h1
  rw[if_neg (fun e=>h1.1 (by rw[e]))]
  exact ih h1.2
theorem VK (G:List Gr) (c:Nat) (v:Value):BL (CM c v G)=BL G:=by
 induction G with
 |nil=>rfl
 |cons g G ih=>
  dsimp only[CM]
  split
  ·rfl
  ·unfold BL at*;rw[eP,eP,ih]
theorem VN {G:List Gr}{c:Nat}(h:A8 G c=some g):Aj g.2.1 (Ab g.2.2) (Ab (g.2.2++[v])) (CO G++V) (CO (CM c v G)++V):=by
 induction G with
 |nil=>contradiction
 |cons a G ih=>
  dsimp only[A8] at h
  dsimp only[CM]
  split at h
  ·rename_i q;injection h with h;subst h;rw[if_pos q];exact .head
  ·rename_i q;refine(if_neg q)▸?_;exact .tail (ih h)
theorem VH (G:List Gr) (c:Nat) (v:Value) (d:Nat):A8 (CM c v G) d=(A8 G d).map fun g=>if d=c then(g.1,g.2.1,g.2.2++[v]) else g:=by
 induction G with
 |nil=>rfl
 |cons g G ih=>
  dsimp only[CM]
  by_cases h:g.1=c
  ·rw[if_pos h]
   dsimp only[A8]
   by_cases h2:g.1=d
   ·rw[if_pos (show(g.1,g.2.1,g.2.2++[v]).1=d from h2),if_pos h2,Option.map_some,if_pos (h2.symm.trans h)]
   ·rw[if_neg (show ¬(g.1,g.2.1,g.2.2++[v]).1=d from h2),if_neg h2]
    cases q:A8 G d with
    |none=>rfl
    |some g'=>rw[Option.map_some,if_neg (fun e=>h2 (h.trans e.symm))]
  ·rw[if_neg h]
   dsimp only[A8]
   by_cases h2:g.1=d
   ·rw[if_pos h2,if_pos h2,Option.map_some,if_neg (fun e=>h (h2.trans e))]
   ·rw[if_neg h2,if_neg h2,ih]
theorem Di.add {l:List Nat}{G:List Gr}{c:Nat}(h:Di l G) (hg:A8 G c=some g) (hv:DG v l.length):Di (l++[c]) (CM c v G):=fun d=>by
 have hd:=h d
 rw[VH,Oo]
 cases q:A8 G d with
 |none=>
  replace hd:=(q)▸hd
  have hcd:c≠d:=fun e=>by rw[←e,hg] at q;contradiction
  rw[Option.map_none,if_neg hcd,eJ]
  exact hd
 |some g'=>
  rw[q] at hd
  simp only[Option.map_some]
  by_cases e:d=c
  ·rw[if_pos e,if_pos e.symm]
   exact Af.snoc hd hv
  ·rw[if_neg e,if_neg (Ne.symm e),eJ]
   exact hd
theorem MO {G:List Gr}{c:Nat}(hn:A8 G c=none) (d:Nat):A8 (G++[(c,a,[])]) d=if d=c then some (c,a,[]) else A8 G d:=by
 induction G with
 |nil=>
  refine(?_:(if c=d then some (c,a,[]) else none)=_)
  by_cases e:d=c
  ·rw[if_pos e,if_pos e.symm]
  ·rw[if_neg e,if_neg (Ne.symm e)];rfl
 |cons g G ih=>
  dsimp only[A8] at hn
  split at hn
  ·contradiction
  ·rename_i q
   refine(?_:(if g.1=d then some g else A8 (G++[(c,a,[])]) d)=_)
   rw[ih hn]
   refine(?_:_=if d=c then _ else(if g.1=d then some g else A8 G d))
   by_cases e:d=c
   ·rw[if_pos e,if_pos e,if_neg (fun h=>q (h.trans e))]
   ·rw[if_neg e,if_neg e]
theorem Di.new {l:List Nat}{G:List Gr}{c:Nat}(h:Di l G) (hn:A8 G c=none):Di l (G++[(c,a,[])]):=fun d=>by
 rw[MO hn]
 have hd:=h d
 by_cases e:d=c
 ·rw[if_pos e,e]
  rw[e,hn] at hd
  refine(?_:Af DG [] (Ba l c))
  rw[hd]
  exact .nil
 ·rw[if_neg e];exact hd
theorem VQ (G:List Gr) (c:Nat) (a:Addr):CO (G++[(c,a,[])])=CO G++[(a,Ab [])]:=by unfold CO;exact eQ
theorem VL (G:List Gr) (c:Nat) (a:Addr):BL (G++[(c,a,[])])=BL G++[(ch c,.ref a)]:=by unfold BL;exact eQ
theorem VG (c:Nat) (v:Value) (G:List Gr):(CM c v G).length=G.length:=by
 induction G with
 |nil=>rfl
 |cons g G ih=>dsimp only[CM];split<;>simp[ih]
def MV (F:FM) (G:List Gr):Prop:=∀g ∈ G,Ls F g.2.1 g.2.2
theorem En.MX:∀{G:List Gr}{F:FM},(∀F1,Le F F1→MV F1 G→En Q v F1 V)→En Q v F (CO G++V)
 |[],F,h=>h F (Le.refl _) fun _ hg=>nomatch hg
 |g::G,F,h=>En.fx fun F1 le ls=>En.MX (G:=G) fun F2 le2 hz=>h F2 (Le.trans le le2) fun g' hg=>by
  rcases fj hg with rfl|hg
  ·exact ls.le le2
  ·exact hz g' hg
theorem VI {G:List Gr}{c:Nat}(h:A8 G c=some g):g ∈ G:=by
 induction G with
 |nil=>contradiction
 |cons a G ih=>
  dsimp only[A8] at h
  split at h
  ·obtain rfl:=ed h;exact .head _
  ·exact .tail _ (ih h)
def Bs (w:World) (F:FM) (D:Addr) (l:List Nat):Prop:=(D==sysModules)=false∧∃kvs,Dc (strKind P0 w) F D kvs∧∀c,match valueAt kvs (ch c) with|some v=>∃a vs,v= .ref a∧Ls F a vs∧Af DG vs (Ba l c)|none=>Ba l c=[]
theorem Bs.le {D:Addr}{l:List Nat}(h:Bs w F D l) (le:Le F F'):Bs w F' D l:=by
 obtain⟨h1,kvs,h2,h3⟩:=h
 refine⟨h1,kvs,h2.le le,fun c=>?_⟩
 have:=h3 c
 cases q:valueAt kvs (ch c) with
 |none=>rw[q] at this;exact this
 |some v=>
  rw[q] at this
  refine Bk (this) fun a vs e ls al=>?_
  exact Bg a vs e (ls.le le) al
theorem Bs.of {D:Addr}{l:List Nat}{G:List Gr}(h:(D==sysModules)=false) (hd:Dc (strKind P0 w) F D (BL G)) (hz:MV F G) (hg:Di l G):Bs w F D l:=by
 refine⟨h,_,hd,fun c=>?_⟩
 rw[MP]
 have:=hg c
 cases q:A8 G c with
 |none=>rw[q] at this;exact this
 |some g=>
  rw[q] at this
  exact Bg g.2.1 g.2.2 rfl (hz g (VI q)) this
theorem OP {o:Addr}{sb b2j bj:Sp}{va:Value}(rm:Rm (n+1) A) (ht:t≠0) (hva:va= .none∨∃z u,va= .str z u∧u≠0∧(t=u→y=z))
  (h:∀t',t'≠0→(t'=t∨va= .str y t')→Q .none F ((o,AH dx)::(dx,atS (AW isj (.val (.str y t')) sb aj b2j bj))::V)):
  RV (cx w os) A (.call (.ref 191) ⟨[.ref o,.str y t],[]⟩) F ((o,AH dx)::(dx,atS (AW isj (.val va) sb aj b2j bj))::V) Q:=by
 refine RV.fn ["self","a"] [] [("self",.val (.ref o)),("a",.val (.str y t))] rm (Jh w os) (binds:=[("self",.ref o),("a",.str y t)]) rfl (by kernel_rfl) (by kernel_rfl) (by rfl) ⟨rfl,rfl,trivial⟩ ?_
 rintro x ok - -
 refine(?_:R _ (_::_) _ _ _ _)
 refine R.doc ok ?_
 refine R.iff (Qb:=fun b F' W=>(b=true→∃u,u≠0∧va= .str y u)∧F'=F∧W=(o,AH dx)::(dx,atS (AW isj (.val va) sb aj b2j bj))::V) ?_ fun b F' W _ q=>?_
 ·rcases hva with rfl|⟨z,u,rfl,hu,hz⟩
  ·exact Tx.tb (Tb.cmp (Ev.Ie (.nm ok Ai)) (Ev.at ok has0 has0 Ai Ai GZ) Ac.Nh) ⟨fun hb=>(nomatch hb),rfl,rfl⟩
  ·refine Tx.Jx (.nm ok Ai) (Ev.at ok has0 has0 Ai Ai GZ) ht hu fun b hb=>⟨fun q=>⟨u,hu,?_⟩,rfl,rfl⟩
   rw[(hb q).elim hz id]
 ·obtain⟨hq,rfl,rfl⟩:=q
  refine⟨fun hb=>?_,fun _=>R.nil (R.next ?_)⟩
  ·obtain⟨u,hu,rfl⟩:=hq hb
   exact R.JX (En.one (h u hu (.inr rfl)))
  ·refine R.G7 (s:=.val (.str y t)) (V':=(o,AH dx)::(dx,atS (AW isj (.val (.str y t)) sb aj b2j bj))::V) ok has0 (.nm ok Ai) (fun v hv=>Bt.mk has0 (.tail .head) BQ GZ hv) ?_
   refine R.J3 (s:=.val .none) ok has0 .none (fun v hv=>Bt.mk (s:=.any) has0 (.tail .head) BF NW trivial) (fun v hv=>Bt.mk (s:=.any) has0 (.tail .head) Br NX trivial) (R.nil ?_)
   exact En.one (h t ht (.inl rfl))
noncomputable abbrev K9 (o D:Addr) (l:List Nat) (t:Tok) (si se sn sj sk sp sz:Sp):Sm:=[("self",.val (.ref o)),("b",.val (.str (tx l) t)),("b2j",.val (.ref D)),("i",si),("elt",se),("indices",sn),("junk",sj),("isjunk",sk),("popular",sp),("n",sz),("ntest",.any),("idxs",.any)]
inductive ChI (F1:FM) (w:World) (o dx D:Addr) (l:List Nat) (t:Tok) (sa:Sp) (V:Aa):Nat→FM→Sm→Aa→Prop
 |mk {i F' si se sn G:_}:Le F1 F'→Di (l.take i) G→G.length≤i→ChI F1 w o dx D l t sa V i F' (K9 o D l t si se sn .any .any .any .any) ((o,AH dx)::(dx,atS (AW (.val .none) sa (.val (.str (tx l) t)) (.val (.bool true)) (.val (.ref D)) .any))::(D,AU (strKind P0 w) (BL G))::(CO G++V))
theorem RS {o:Addr}{l:List Nat}(rm:Rm (n+1) A) (hl:l.length<100) (ha:l.all (·<128)=true)
  (h:∀F' D j,Le F F'→Bs w F' D l→BB F' j→Q .none F' ((o,AH dx)::(dx,atS (AW (.val .none) sa (.val (.str (tx l) t)) (.val (.bool true)) (.val (.ref D)) (.val (.ref j))))::V)):
  RV (cx w os) A (.call (.ref 205) ⟨[.ref o],[]⟩) F ((o,AH dx)::(dx,atS (AW (.val .none) sa (.val (.str (tx l) t)) (.val (.bool true)) .any .any))::V) Q:=by
 refine RV.fn ["self","b","b2j","i","elt","indices","junk","isjunk","popular","n","ntest","idxs"] ["enumerate","set","len"] [("self",.val (.ref o)),("b",.any),("b2j",.any),("i",.any),("elt",.any),("indices",.any),("junk",.any),("isjunk",.any),("popular",.any),("n",.any),("ntest",.any),("idxs",.any)]
  rm (Mf w os) (binds:=[("self",.ref o)]) rfl (by kernel_rfl) (by kernel_rfl) (by rfl) ⟨rfl,trivial,trivial,trivial,trivial,trivial,trivial,trivial,trivial,trivial,trivial,trivial,trivial⟩ ?_
 rintro x ok rfl -
 refine(?_:R _ (_::_) _ _ _ _)
 refine R.AC ok (Ev.at ok has0 has0 Ai Al G0) BQ ?_
 refine R.J4 (P:=AU (strKind P0 x.w) []) (C:=fun D=>(D==sysModules)=false) (W1:=fun D=>(D,AU (strKind P0 x.w) [])::(o,AH dx)::(dx,atS (AW (.val .none) sa (.val (.str (tx l) t)) (.val (.bool true)) (.val (.ref D)) .any))::V) ok has0 (fun QQ h=>Rx.IN _ h) (fun D=>Bt.mk (s:=.val (.ref D)) Ai (.tail (.tail .head)) D5 NY rfl) (fun D=>put2) fun D hD=>?_
 refine R.sb (W:=(o,AH dx)::(dx,atS (AW (.val .none) sa (.val (.str (tx l) t)) (.val (.bool true)) (.val (.ref D)) .any))::(D,AU (strKind P0 x.w) [])::V) (Part.sb (.cons (.tail .head) (.cons (.tail .head) .refl))) ?_
 have hsz:(tx l).cps.size=l.length:=by simp[tx]
 refine R.UC ok (y:=tx l) (Ev.Ie (.nm ok Ai)) (by simpa [tx] using ha) AK (ChI F x.w o dx D l t sa V) (.mk (G:=[]) (Le.refl _) (fun c=>rfl) (eB _)) ?_ ?_
 ·rintro i F' F'' m' W c v1 v2 hc le le2 hJ ho1 ho2
  cases hJ with
  |@mk si se sn G le3 hG hGl=>
   have hi:i<l.length:=by simp only[←hsz];exact(Array.getElem?_eq_some_iff.mp hc).1
   have hc':l[i]? =some c:=by simpa [tx] using hc
   refine Jr _ _ _ _ (Au.loc ok ho1 put3) (Au.loc ok ho2 BF) ?_
   have fin:∀(G':List Gr) (g:Gr),Di (l.take i) G'→G'.length≤i+1→A8 G' c=some g→∀v,DG v i→ChI F x.w o dx D l t sa V (i+1) F'' (K9 o D l t (.int i) (.str (ch c)) (.val (.ref g.2.1)) .any .any .any .any) ((o,AH dx)::(dx,atS (AW (.val .none) sa (.val (.str (tx l) t)) (.val (.bool true)) (.val (.ref D)) .any))::(D,AU (strKind P0 x.w) (BL G'))::(CO (CM c v G')++V)):=by
    intro G' g h1 h2 h3 v hv
    have:=ChI.mk (F1:=F) (w:=x.w) (o:=o) (dx:=dx) (D:=D) (l:=l) (t:=t) (sa:=sa) (V:=V) (i:=i+1) (F':=F'') (si:=.int i) (se:=.str (ch c)) (sn:=.val (.ref g.2.1)) (G:=CM c v G') (Le.trans le le2) (by
     rw[take_snoc hc']
     exact h1.add h3 (by simp only[eZ,Nat.min_eq_left (ec hi)];exact hv)) (by rw[VG];exact h2)
    simp only[VK] at this
    exact this
   refine R.asg ok (Qv:=fun v F1 W1=>F''=F1∧∃G' g,v= .ref g.2.1∧Di (l.take i) G'∧G'.length≤i+1∧A8 G' c=some g∧Sb ((o,AH dx)::(dx,atS (AW (.val .none) sa (.val (.str (tx l) t)) (.val (.bool true)) (.val (.ref D)) .any))::(D,AU (strKind P0 x.w) (BL G'))::(CO G'++V)) W1)
    (Rx.J1 ok Al (.tail (.tail .head)) (.nm ok Az) (fun v hv=>?_) (fun a=>.tail (.tail .head)) (fun hn a=>?_) (by simp only[BL,eM];lia)) ?_
   ·rw[MP] at hv
    cases hg:A8 G c with
    |none=>replace hv:=(hg)▸hv;cases hv
    |some g=>
     replace hv:=(hg)▸hv
     cases hv
     exact⟨rfl,G,g,rfl,hG,Nat.le_succ_of_le ‹_›,hg,Sb.refl⟩
   ·have hn':=VM hn
    refine⟨rfl,G++[(c,a,[])],(c,a,[]),rfl,hG.new hn',by rw[eO];simp;assumption,by rw[MO hn',if_pos rfl],.perm ?_⟩
    rw[VQ,VL,fa]
    exact((((List.perm_middle.cons _).trans (eK ..)).cons _).trans (eK ..)|>.cons _).trans (eK ..)
   rintro v _ W1 - ⟨rfl,G',g,rfl,g1,g2,g3,sb⟩
   refine Cr (.val (.ref g.2.1)) _ _ rfl Br (R.sb sb ?_)
   refine R.PM (s:=.int i) (vs:=g.2.2) ok (.nm ok Ax) (.nm ok Ay) (fun v=>.tail (.tail (.tail (VN g3)))) ?_ fun v hv=>?_
   ·have:=g1 c
    rw[g3] at this
    have e:=Af.len this
    have:(Ba (l.take i) c).length≤(l.take i).length:=by
     have:=List.length_filter_le (fun k=>(l.take i)[k]? ==some c) (List.range (l.take i).length)
     simp only[List.length_range] at this
     exact this
    rw[eZ] at this
    lia
   ·obtain⟨t',⟨⟩⟩:=hv
    exact R.nil (fin G' g g1 g2 g3 _ ⟨t',rfl⟩)
 ·intro F' m' W le hJ
  replace hJ:=(hsz)▸hJ
  cases hJ with
  |@mk si se sn G le3 hG hGl=>
   rw[List.take_length] at hG
   refine R.J4 (P:=Ct) (C:=fun _=>True) (W1:=fun j=>(j,Ct)::(o,AH dx)::(dx,atS (AW (.val .none) sa (.val (.str (tx l) t)) (.val (.bool true)) (.val (.ref D)) (.val (.ref j))))::(D,AU (strKind P0 x.w) (BL G))::(CO G++V)) ok has0 (fun QQ h=>Rx.OQ ok Bx fun a=>h a trivial) (fun j=>Bt.mk (s:=.val (.ref j)) Ai (.tail (.tail .head)) put8 NZ rfl) (fun j=>Db) fun j _=>?_
   refine R.AC ok (Ev.at ok has0 Ai Al has0 NU) D5 ?_
   refine R.BE (b:=false) (Tb.val (.nm ok BM) Bz.none) (fun hb=>nomatch hb) (fun _=>R.nil (R.next ?_))
   refine R.J4 (P:=Ct) (C:=fun _=>True) (W1:=fun p=>(p,Ct)::(j,Ct)::(o,AH dx)::(dx,atS (AW (.val .none) sa (.val (.str (tx l) t)) (.val (.bool true)) (.val (.ref D)) (.val (.ref j))))::(D,AU (strKind P0 x.w) (BL G))::(CO G++V)) ok has0 (fun QQ h=>Rx.OQ ok Bx fun a=>h a trivial) (fun j=>Bt.mk (s:=.any) Al (.tail (.tail (.tail .head))) CH Yu trivial) (fun j=>put8) fun p _=>?_
   refine R.AC ok (Ev.Bv ok Ce (Ev.Ie (.nm ok Ai)) (by rw[Av];exact ec (ea ‹_› (d7 rfl)))) CH ?_
   refine R.BE (b:=false) (Tb.conv (Tb.and (Tb.val (Ev.at ok has0 Al Ay Ay NV) Bz.bool) fun _=>Tb.cmp (.nm ok AT) .int Ac.DQ) ?_) (fun hb=>nomatch hb) (fun _=>R.nil (R.next (R.nil ?_)))
   ·rw[Bool.true_and]
    exact eV (by rw[Av];lia)
   ·refine En.sb (W:=(j,Ct)::(D,AU (strKind P0 x.w) (BL G))::(CO G++((o,AH dx)::(dx,atS (AW (.val .none) sa (.val (.str (tx l) t)) (.val (.bool true)) (.val (.ref D)) (.val (.ref j))))::V))) ?_ (En.AY fun F2 oj l2 h2 p2=>En.AY fun F3 oD l3 h3 p3=>En.MX fun F4 l4 hz=>En.one ?_)
    ·refine Sb.skip (.perm (List.Perm.cons _ ?_))
     refine(List.Perm.cons _ (List.perm_middle.trans (List.perm_middle.cons _))).trans ?_
     exact(eK ..).trans ((eK ..).cons _)
    ·exact h F4 D j (Le.trans le3 (Le.trans l2 (Le.trans l3 l4))) (Bs.of hD (Ak oD (l4 _ _ h3) p3) hz hG) (Ak oj (l4 _ _ (l3 _ _ h2)) p2)
theorem aA {o:Addr}{l:List Nat}(rm:Rm (n+2) A) (hl:l.length<100) (ha:l.all (·<128)=true)
  (h:∀F' D j,Le F F'→Bs w F' D l→BB F' j→Q .none F' ((o,AH dx)::(dx,atS (AW (.val .none) sa (.val (.str (tx l) t)) (.val (.bool true)) (.val (.ref D)) (.val (.ref j))))::V)):
  RV (cx w os) A (.call (.ref 198) ⟨[.ref o,.str (tx l) t],[]⟩) F ((o,AH dx)::(dx,atS (AW (.val .none) sa (.val .none) (.val (.bool true)) .any .any))::V) Q:=by
 refine RV.fn ["self","b"] [] [("self",.val (.ref o)),("b",.val (.str (tx l) t))] rm (Mp w os) (binds:=[("self",.ref o),("b",.str (tx l) t)]) rfl (by kernel_rfl) (by kernel_rfl) (by rfl) ⟨rfl,rfl,trivial⟩ ?_
 rintro x ok rfl -
 refine(?_:R _ (_::_) _ _ _ _)
 refine R.doc ok ?_
 refine R.BE (b:=false) (Tb.cmp (Ev.Ie (.nm ok Ai)) (Ev.at ok has0 has0 Ai Al G0) Ac.Nh) (fun hb=>nomatch hb) (fun _=>R.nil (R.next ?_))
 refine R.G7 (s:=.val (.str (tx l) t)) (V':=(o,AH dx)::(dx,atS (AW (.val .none) sa (.val (.str (tx l) t)) (.val (.bool true)) .any .any))::V) ok has0 (.nm ok Ai) (fun v hv=>Bt.mk has0 (.tail .head) put2 G0 hv) ?_
 refine R.J3 (s:=.val .none) ok has0 .none (fun v hv=>Bt.mk (s:=.any) has0 (.tail .head) BF NW trivial) (fun v hv=>Bt.mk (s:=.any) has0 (.tail .head) Br NX trivial) ?_
 refine R.G7 (s:=.val .none) ok has0 .none (fun v hv=>Bt.mk (s:=.any) has0 (.tail .head) Db Yv trivial) ?_
 refine R.expr ok (Qv:=fun v F' W=>∃D j,Le F F'∧Bs x.w F' D l∧BB F' j∧W=(o,AH dx)::(dx,atS (AW (.val .none) sa (.val (.str (tx l) t)) (.val (.bool true)) (.val (.ref D)) (.val (.ref j))))::V) (Rx.NQ ok Yi (Mf _ _) (Tz _ _) has0 has0 (.tail .head) (Fo (by decide+kernel)) (RS (n:=n) ok.rm hl ha fun F' D j le h1 h2=>Dt D j le h1 h2 rfl)) fun v F' W le q=>R.nil ?_
 obtain⟨D,j, -,h1,h2,rfl⟩:=q
 exact En.one (h F' D j le h1 h2)
theorem aB {o:Addr}{l:List Nat}(rm:Rm (n+3) A) (hu:u≠0) (hl:l.length<100) (ha:l.all (·<128)=true)
  (h:∀F' D j,Le F F'→Bs w F' D l→BB F' j→Q .none F' ((o,AH dx)::(dx,atS (AW (.val .none) (.val (.str y u)) (.val (.str (tx l) t)) (.val (.bool true)) (.val (.ref D)) (.val (.ref j))))::V)):
  RV (cx w os) A (.call (.ref 184) ⟨[.ref o,.str y u,.str (tx l) t],[]⟩) F ((o,AH dx)::(dx,atS (AW (.val .none) (.val .none) (.val .none) (.val (.bool true)) .any .any))::V) Q:=by
 refine RV.fn ["self","a","b"] [] [("self",.val (.ref o)),("a",.val (.str y u)),("b",.val (.str (tx l) t))] rm (Mq w os) (binds:=[("self",.ref o),("a",.str y u),("b",.str (tx l) t)]) rfl (by kernel_rfl) (by kernel_rfl) (by rfl) (C4 rfl rfl rfl trivial) ?_
 rintro x ok rfl -
 refine(?_:R _ (_::_) _ _ _ _)
 refine R.doc ok ?_
 refine R.expr ok (Qv:=fun v F' W=>F=F'∧W=(o,AH dx)::(dx,atS (AW (.val .none) (.val (.str y u)) (.val .none) (.val (.bool true)) .any .any))::V) (Rx.Fa ok NO (Jh _ _) (L4 _ _) has0 has0 (.tail .head) (Fo (by decide+kernel)) (.cons (s:=.val (.str y u)) (.nm ok Ai) .nil) fun us o'=>?_) fun v F' W le q=>?_
 ·obtain⟨_,rfl,⟨⟩⟩:=o'.one
  exact OP (n:=n+1) ok.rm hu (.inl rfl) fun t' _ ht=>⟨rfl,by rcases ht with rfl|q;rfl;cases q⟩
 ·obtain⟨rfl,rfl⟩:=q
  refine R.expr ok (Qv:=fun v F' W=>∃D j,Le F F'∧Bs x.w F' D l∧BB F' j∧W=(o,AH dx)::(dx,atS (AW (.val .none) (.val (.str y u)) (.val (.str (tx l) t)) (.val (.bool true)) (.val (.ref D)) (.val (.ref j))))::V) (Rx.Fa ok Yk (Mp _ _) (TE _ _) has0 has0 (.tail .head) (Fo (by decide+kernel)) (.cons (s:=.val (.str (tx l) t)) (.nm ok Al) .nil) fun us o'=>?_) fun v F' W le q=>R.nil ?_
  ·obtain⟨_,rfl,⟨⟩⟩:=o'.one
   exact aA (n:=n) ok.rm hl ha fun F' D j le h1 h2=>Dt D j le h1 h2 rfl
  ·obtain⟨D,j, -,h1,h2,rfl⟩:=q
   exact En.one (h F' D j le h1 h2)
theorem WA {o:Addr}{l:List Nat}(rm:Rm (n+4) A) (hu:u≠0) (hl:l.length<100) (ha:l.all (·<128)=true)
  (h:∀F' D j,Le F F'→Bs w F' D l→BB F' j→Q .none F' ((o,AH dx)::(dx,atS (AW (.val .none) (.val (.str y u)) (.val (.str (tx l) t)) (.val (.bool true)) (.val (.ref D)) (.val (.ref j))))::V)):
  RV (cx w os) A (.call (.ref 177) ⟨[.ref o,.none,.str y u,.str (tx l) t],[]⟩) F ((o,AH dx)::(dx,atS (AW .any .any .any .any .any .any))::V) Q:=by
 refine RV.FN ["self","isjunk","a","b","autojunk"] [] [("self",.val (.ref o)),("isjunk",.val .none),("a",.val (.str y u)),("b",.val (.str (tx l) t)),("autojunk",.val (.bool true))] rm (UK w os) (binds:=[("self",.ref o),("isjunk",.none),("a",.str y u),("b",.str (tx l) t),("autojunk",.bool true)])
  (fun s k=>BindsTo.of_defaults (T:=170) rfl (k 170 (Oa) (by kernel_rfl)) rfl rfl rfl) (by kernel_rfl) (by kernel_rfl) (by rfl) (E7 rfl rfl rfl rfl rfl trivial) ?_
 rintro x ok rfl -
 refine(?_:R _ (_::_) _ _ _ _)
 refine R.doc ok ?_
 refine R.G7 (s:=.val .none) ok has0 (.nm ok Ai) (fun v hv=>Bt.mk has0 (.tail .head) CG NU hv) ?_
 refine R.J3 (s:=.val .none) ok has0 .none (fun v hv=>Bt.mk (s:=.val .none) has0 (.tail .head) BQ GZ hv) (fun v hv=>Bt.mk (s:=.val .none) has0 (.tail .head) put2 G0 hv) ?_
 refine R.G7 (s:=.val (.bool true)) ok has0 (.nm ok Az) (fun v hv=>Bt.mk has0 (.tail .head) put3 NV hv) ?_
 refine R.expr ok (Qv:=fun v F' W=>∃D j,Le F F'∧Bs x.w F' D l∧BB F' j∧W=(o,AH dx)::(dx,atS (AW (.val .none) (.val (.str y u)) (.val (.str (tx l) t)) (.val (.bool true)) (.val (.ref D)) (.val (.ref j))))::V) (Rx.Fa ok Yl (Mq _ _) (TG _ _) has0 has0 (.tail .head) (Fo (by decide+kernel)) (.cons (s:=.val (.str y u)) (.nm ok Al) (.cons (s:=.val (.str (tx l) t)) (.nm ok Ay) .nil)) fun us o'=>?_) fun v F' W le q=>R.nil ?_
 ·obtain⟨_,_,rfl,⟨⟩,⟨⟩⟩:=o'.two
  exact aB (n:=n) ok.rm hu hl ha fun F' D j le h1 h2=>Dt D j le h1 h2 rfl
 ·obtain⟨D,j, -,h1,h2,rfl⟩:=q
  exact En.one (h F' D j le h1 h2)
noncomputable def KM (P:Params):Frag:=[(2,HX P),(152,N8),(151,N6 P),(153,N9),(99,I1 ff)]
theorem Xg: (KM w.params).map (fun p=>(cx w os).F0 p.1)=(KM w.params).map fun p=>some p.2:=by kernel_rfl
theorem Xh (k:∀a o,(cx w os).F0 a=some o→h.get? a=some o):(KM w.params).In h:=by
 refine Frag.in_of (as:=(KM w.params).map (·.1)) rfl ?_
 rw[e8]
 refine List.map_congr_left fun p hp=>?_
 refine k _ _ ?_
 exact List.map_inj_left.mp (Xg (os:=os)) p hp
theorem km_reads:readsIn (KM w.params) 152 (.type "type")=true:=by kernel_rfl
theorem km_new:findCls (KM w.params) (.ref 152) (.type "type") "__new__"=some (.get (.builtin "staticmethod.__get__") (.ref 153) .none (.ref 152)):=by kernel_rfl
theorem Xn:recIn (KM w.params) 153 "staticmethod"=some [.ref 99]:=by kernel_rfl
theorem Xf:specialIn (KM w.params) (.ref 152) "__call__"=some (some (.builtin "type.__call__")):=by kernel_rfl
theorem Xi:instIn (KM w.params) (.ref 152) (.type "type")=some true:=by kernel_rfl
theorem Nt:findIn (KM w.params) (.ref 152) "__init__"=some (some (.builtin "object.__init__")):=by kernel_rfl
theorem Nu:subIn (KM w.params) (.ref 152) (.type "tuple")=some true:=by kernel_rfl
theorem Xm:subIn (KM w.params) (.ref 152) (.ref 152)=some true:=by kernel_rfl
theorem Xl:subIn (KM w.params) (.ref 152) (.type "object")=some true:=by kernel_rfl
theorem JF {M:Model}(X:(KM w.params).In h):Looks M h (Bind.madeBy (.ref 152)) none:=by
 intro A Q E s k q
 have hm:Looks M h (mroOf (.ref 152)) [.ref 152,.type "tuple",.type "object"]:=(looks_clsIn X (by rfl)).andThen .now
 refine d8 (hm A _ E s k ?_)
 rw[e7]
 refine d8 (d8 (d8 (d8 (wpAny_loadPart (k _ _ (X 152 _ rfl)) (d9 ?_)))))
 exact d9 (d9 (d9 q))
theorem JI:Bind.madeBy (.type "tuple")=pure (some "tuple.__new__"):=PySem.F.called_tuple.made
theorem NI {M:Model}(X:(KM w.params).In h):Looks M h (Bind.staticBase (.ref 152)) (.type "tuple"):=by
 intro A Q E s k q
 have X':=X.keeps k
 obtain⟨hh,g,d,t,os⟩:=s
 dsimp only at X'
 have hm:Looks M hh (mroOf (.ref 152)) [.ref 152,.type "tuple",.type "object"]:=(looks_clsIn X' (by rfl)).andThen .now
 have hc:=looks_clsIn (M:=M) (C:=152) X' (by rfl)
 have h1:=JF (M:=M) X'
 have h2:Looks M hh (Bind.madeBy (.type "tuple")) (some "tuple.__new__"):=.of_pure JI
 dsimp only[Bind.staticBase]
 refine d8 (hm.at ?_)
 rw[e7]
 repeat (first|rw[e7]|lk)
 exact q
theorem XU {M:Model}(X:(KM w.params).In h):Looks M h (Bind.madeHere "tuple.__new__" (.ref 152)) ():=(NI X).andThen (by rw[JI];exact .of_pure (by kernel_rfl))
theorem dr:builtinKind "tuple.__new__"=some .builtinFn:=by kernel_rfl
theorem ds:splitId "tuple.__new__"=some ("tuple","__new__"):=by kernel_rfl
theorem YH {R:Result→Shared→Prop}{tt:Addr}(X:(KM w.params).In s.heap) (ht:∃o,s.heap.get? tt=some o∧Dh vs o) (hl:vs.length≤1000)
  (hq:∀(h':Heap) (dx:Addr),(∀b o',s.heap.get? b=some o'→h'.get? b=some o')→R (.ok (.ret (.ref h'.objs.size))) {s with heap:=h'.push {cls:=.ref 152,dict:=some dx,data:=.seq vs.toArray}}):
  codeAny (model P0 w) A (.call (.builtin "tuple.__new__") ⟨[.ref 152,.ref tt],[]⟩) R s:=by
 obtain⟨hh,g,d,t,os⟩:=s
 dsimp only at X ht hq
 have ho:=X 152 _ (by rfl)
 have h1:Looks (model P0 w) hh (isType (.ref 152)) true:=(Looks.ld ho).andThen .now
 have h2:Looks (model P0 w) hh (isSubtype (.ref 152) (.type "tuple")) true:=looks_subIn X Nu
 have h3:=NI (M:=model P0 w) X
 have h4:Looks (model P0 w) hh (Bind.madeBy (.type "tuple")) (some "tuple.__new__"):=.of_pure JI
 have h5:=XU (M:=model P0 w) X
 have h6:Looks (model P0 w) hh (typeLookup (.ref 152) "__init__") (some (.builtin "object.__init__")):=looks_findIn X Nt
 obtain⟨o,e1,e2⟩:=ht
 refine codeAny_call_builtin_at (Code.quiet_builtin _ (by decide+kernel)) PySem.F.entry_tuple_new ?_
 delta checkBuiltinCall
 rw[dr,ds]
 obtain⟨e2,n,e3⟩:=e2
 repeat (first|with_reducible refine wpAny_collect_seq (hsz:=eb (by simpa using hl) (by decide)) tt (.inr rfl) e1 e2 e3 (fun h' hk=>?_)|lk)
 have hz:¬vs.toArray.size>sizeLine:=Nat.not_lt.mpr (eb (by simpa using hl) (by decide))
 rw[if_neg hz]
 refine(?_:wpAny _ _ (newObjAsIs _ _ _) _ _ _)
 delta newObjAsIs classHasDel
 refine d8 (wpAny_alloc (d8 (d8 (wpAny_load (eg _ (eg _ (hk _ _ ho))) (d9 ?_)))))
 refine d9 (d9 ?_)
 exact hq (h'.push {cls:=.type "dict",data:=.dict #[]}) h'.objs.size fun b o' e=>eg _ (hk b o' e)
theorem RJ {R:Result→Shared→Prop}{a b c:Value}(X:(KM w.params).In s.heap)
  (hq:codeAny (model P0 w) (A.under (.builtin "type.__call__" ⟨[.ref 152,a,b,c],[]⟩)) (.call (.ref 99) ⟨[.ref 152,a,b,c],[]⟩) (fun r s'=>∃x o,r= .ok (.ret (.ref x))∧s'.heap.get? x=some o∧o.cls= .ref 152∧(KM w.params).In s'.heap∧R (.ok (.ret (.ref x))) s') {s with toks:=s.toks+1}):
  codeAny (model P0 w) A (.call (.ref 152) ⟨[a,b,c],[]⟩) R s:=by
 obtain⟨hh,g,d,t,os⟩:=s
 dsimp only at X hq
 have hC:=X 152 _ (by rfl)
 have call:=looks_specialIn (M:=model P0 w) X Xf
 have typ:=looks_instIn (M:=model P0 w) X Xi
 have made:=JF (M:=model P0 w) X
 have hm:Looks (model P0 w) hh (mroOf (.ref 152)) [.ref 152,.type "tuple",.type "object"]:=(looks_clsIn X (by rfl)).andThen .now
 refine codeAny_of_tree ?_
 refine(?_:wpAny _ _ (callAny (.ref 152) _) _ _ _)
 refine nd_load hC ?_
 refine(?_:wpAny _ _ (callAny.viaDunder (.ref 152) _) _ _ _)
 delta callAny.viaDunder
 refine d8 (call.at ?_)
 dsimp only
 rw[tc_bind]
 refine d8 (d9 (d8 (d9 ?_)))
 refine d9 (a:=Fin.again (.call (.builtin "type.__call__") ⟨[.ref 152,a,b,c],[]⟩)) (And.intro rfl ?_)
 refine codeAny_call_builtin_at (Code.quiet_builtin _ (by decide+kernel)) entry_typeCall (check_slot tc_kind tc_split typ (tc_args _ _ _) ?_)
 delta Builtin.«type.__call__»
 repeat (first|with_reducible refine cls_bind X km_reads km_new ?_|with_reducible refine wpAny_call ?_|lk)
 refine sm_get (s:=⟨hh,g,d,t+1,os⟩) X Xn (handed_on rfl ?_)
 repeat (first|with_reducible refine wpAny_call ?_|lk)
 refine codeAny_mono hq fun r s' z=>?_
 obtain⟨x,o,rfl,z1,z2,X',z3⟩:=z
 obtain⟨h',g',d',t',os'⟩:=s'
 dsimp only at z1 X'
 have t1:Looks (model P0 w) h' (typeOf (.ref x)) (.ref 152):=z2▸(Looks.ld z1).andThen .now
 have s1:=looks_subIn (M:=model P0 w) X' Xm
 have i1:=looks_findIn (M:=model P0 w) X' Nt
 have m1:=JF (M:=model P0 w) X'
 have b1:Looks (model P0 w) h' (bindSpecial (.builtin "object.__init__") (.ref x)) (.builtin "object.__init__",[.ref x]):=.of_pure (oi_bind _)
 have o1:Looks (model P0 w) h' (isInstance (.ref x) (.type "object")) true:=t1.andThen (looks_subIn X' Xl)
 refine(?_:wpAny _ _ _ _ _ _)
 delta isInstance callSpecial? specialOf
 repeat (first|with_reducible refine wpAny_call ?_|lk)
 refine codeAny_call_builtin oi_plain entry_oi (check_slot oi_kind oi_split o1 (by unfold argsOk;kernel_rfl) ?_)
 delta Builtin.«object.__init__»
 repeat lk
 exact z3
def HS (vs:List Value) (o:Obj):Prop:=o.cls= .ref 152∧∃n,o.data= .seq vs.toArray n
theorem U4:Gl (cx w os) "Match" (.ref 152):=Bp (by kernel_rfl)
theorem Vy:Bl (cx w os) "tuple" (.type "tuple"):=CZ (by kernel_rfl) (by kernel_rfl)
noncomputable def TP (P:Params):FuncData:=Bb (I1 ff)
theorem UM:Fun (cx w os) 99 (TP w.params):=Bf (by kernel_rfl) (by kernel_rfl) rfl rfl rfl
theorem FD (S:StP (cx w os) F V s):(KM w.params).In s.heap:=Xh (os:=os) fun _ _ e=>S.own.fro _ _ (S.base _ _ e)
theorem Run.YG {tt:Addr}(ht:Tu F tt vs) (hl:vs.length≤1000) (h:∀x,Q (.ref x) F ((x,HS vs)::V)):Run (cx w os) A (PySem.call (.builtin "tuple.__new__") [.ref 152,.ref tt]) F V Q:=.mk fun s S=>by
 refine Ag (ht) fun o e1 e2=>?_
 refine wpAny_call (YH (FD S.toStP) ⟨o,S.own.fro _ _ e1,e2⟩ hl fun h' dx k=>?_)
 exact Ae F _ ⟨(S.own.keep k).push (P:=HS vs) ⟨rfl,_,rfl⟩,S.base,S.gens,S.os⟩ (h _)
inductive MkQ (Q:Value→FM→Aa→Prop) (F:FM) (V:Aa):Value→Prop
 |mk {x o vs:_}:F x=some o→HS vs o→Q (.ref x) F V→MkQ Q F V (.ref x)
theorem Run.RF {a b c:Value}(rm:Rm (n+2) A) (h:∀A',Rm (n+1) A'→AM (cx w os) A' (.call (.ref 99) ⟨[.ref 152,a,b,c],[]⟩) F V (fun v F' V'=>MkQ Q F' V' v)):Run (cx w os) A (PySem.call (.ref 152) [a,b,c]) F V Q:=.mk fun s S=>by
 refine wpAny_call (RJ (FD S.toStP) (codeAny_mono (h _ (OG (args:=[a,b,c]) rm) {s with toks:=s.toks+1} ⟨⟨S.own,S.base,S.gens,S.os⟩,eA _⟩) fun r s' q=>?_))
 obtain⟨_,F',V',rfl,S',v,rfl,q⟩:=q
 induction q with
 |mk e4 e5 q=>exact⟨_,_,rfl,S'.own.fro _ _ e4,e5.1,FD S'.toStP,F',V',S'.toStP,q⟩
theorem dq:findCls [] (.type "tuple") (.type "type") "__new__"=some (.val (.builtin "tuple.__new__")):=by kernel_rfl
theorem Run.Yo {rest:List Expr}(g:Gv env) (gb:Gb env gs) (hx:Str.ofString "tuple" ∈ gs)
  (h:Run (cx w os) A (spliced (backTo pos (starEach (e::rest) env))) F V (fun vs F1 V1=>Run (cx w os) A (PySem.call (.builtin "tuple.__new__") vs) F1 V1 Q))
  (he:starEach (e::rest) env=(false,eval e env)::starEach rest env) (hplain:(backTo pos (starEach rest env)).any (·.1)=false)
  (hbase:attributeBase (.Name (Str.ofString "tuple") p) (Str.ofString "__new__") env (eval (.Name (Str.ofString "tuple") p) env)=eval (.Name (Str.ofString "tuple") p) env)
  (hfew:((backTo pos (starEach (e::rest) env)).all (fun x=> !x.1) && (backToKw pos (keywordEach [] env)).all (fun x=>x.1.isSome) && decide ((e::rest).length+([]:List Keyword).length+(if ([]:List Keyword).isEmpty then 0 else 1)<30))=true)
  (hline:(apos.endLine==pos.line)=true):Run (cx w os) A (eval (.Call (.Attribute (.Name (Str.ofString "tuple") p) (Str.ofString "__new__") apos) (e::rest) [] pos) env) F V Q:=fun s S=>by
 rw[arm_eval_Call,hbase]
 refine d8 ((Run.fu (Run.lb (Q:=fun ov F1 V1=>ov= .type "tuple"∧Run (cx w os) A (callWith pos (.builtin "tuple.__new__") [] (backTo pos (starEach (e::rest) env)) []) F1 V1 Q) g gb hx Vy ⟨rfl,Run.Dp (first:=[]) h he hplain⟩) S fun ov s₁ F1 V1 S1 ⟨e,h₁⟩=>?_))
 subst e
 refine d8 (wpAny_standAt ?_)
 have hform:methodCallForm ((e::rest).length+([]:List Keyword).length) (backTo pos (starEach (e::rest) env)) (backToKw pos (keywordEach [] env))=true:=hfew
 have hpos:methodCallPos true (.Name (Str.ofString "tuple") p) env apos pos=Pure.pure pos:=by unfold methodCallPos;simp[hline]
 unfold methodCall
 rw[hform]
 refine d8 (en ?_)
 refine(?_:wpAny _ _ (getMethod (.type "tuple") _ _) _ _ _)
 have X:Frag.In [] s₁.heap:=fun a o e=>nomatch e
 have L0:Looks (model P0 w) s₁.heap (typeOf (.type "tuple")) (.type "type"):=Looks.of_pure (by kernel_rfl)
 have LO:Looks (model P0 w) s₁.heap (opaqueClassAbove (.type "tuple")) Option.none:=Looks.of_pure (by unfold opaqueClassAbove;kernel_rfl)
 have hg:findIn [] (.type "type") "__getattribute__"=some (some (.builtin "type.__getattribute__")):=type_tga
 unfold getMethod specialOf
 refine d8 (d8 (L0.here ((looks_findIn X hg).here ?_)))
 dsimp only
 rw[if_pos canon_tga]
 refine d8 ?_
 refine cls_open X LO L0 hg (looks_hook X (r:=Option.none) (by rfl)) (by refine(?_:subIn [] _ _=_);rfl) dq (d9 (handed_on rfl ?_))
 refine d9 (d8 (wpAny_of_eq hpos ?_))
 exact h₁ _ ⟨⟨S1.own,S1.base,S1.gens,S1.os⟩,eA _⟩
def Ma (F:FM) (a:Addr) (vs:List Value):Prop:=∃o,F a=some o∧HS vs o
theorem Ma.le (x:Ma F a vs) (l:Le F F'):Ma F' a vs:=Ag (x) fun o a b=>⟨o,l _ _ a,b⟩
section
variable {a b c:Value}
theorem Rx.YF (ok:Ok x n gs) (hx:Str.ofString "tuple" ∈ gs) (h0:Ev x F m V e1 (.val (.ref 152))) (he:AZ x F m V [e2,e3,.Name id4 p6] [.val a,.val b,.val c]) (h:∀F' o,Le F F'→Ma F' o [a,b,c]→Q (.ref o) F' V)
  (hn:autoParam (notStar e1=true) aR)
  (hbase:autoParam (attributeBase (.Name (Str.ofString "tuple") p) (Str.ofString "__new__") x.env (eval (.Name (Str.ofString "tuple") p) x.env)=eval (.Name (Str.ofString "tuple") p) x.env) aU)
  (hfew:autoParam (((backTo pos (starEach [e1,.Tuple [e2,e3,.Name id4 p6] k p5] x.env)).all (fun x=> !x.1) && (backToKw pos (keywordEach [] x.env)).all (fun x=>x.1.isSome) && decide ([e1,.Tuple [e2,e3,.Name id4 p6] k p5].length+([]:List Keyword).length+(if ([]:List Keyword).isEmpty then 0 else 1)<30))=true) aU)
  (hline:autoParam ((apos.endLine==pos.line)=true) aU):Rx x F m V (.Call (.Attribute (.Name (Str.ofString "tuple") p) (Str.ofString "__new__") apos) [e1,.Tuple [e2,e3,.Name id4 p6] k p5] [] pos) Q:=.ki fun K Vf Q' ft kk=>
 .up (Run.Yo (w:=x.w) (os:=x.os) ok.gv ok.gb hx (Run.AL (h0.kV ft fun V1 f1=>Run.AL (Rx.to (Rx.tup he (fun F' t vs le ht o V2 f2=>Run.A0 (Run.YG (w:=x.w) (os:=x.os) (by obtain⟨_,_,_,rfl,⟨⟩,⟨⟩,⟨⟩⟩:=o.three;exact ht) (d7 rfl) fun o=>up.AY fun F3 ob le3 h3 h4=>up.one (kk _ F3 V2 V (Le.trans le le3) f2 (h F3 o (Le.trans le le3) (Ak ob h3 h4))))) (d7 rfl)) f1) rfl) (AD hn)) (AD hn) rfl hbase hfew hline)
end
theorem X9 {a b c:Value}(rm:Rm (n+1) A) (h:∀F' o,Le F F'→Ma F' o [a,b,c]→Q (.ref o) F' V):RV (cx w os) A (.call (.ref 99) ⟨[.ref 152,a,b,c],[]⟩) F V Q:=by
 refine RV.fn ["_cls","a","b","size"] ["tuple"] [("_cls",.val (.ref 152)),("a",.val a),("b",.val b),("size",.val c)] rm (UM (w:=w) (os:=os)) (binds:=[("_cls",.ref 152),("a",a),("b",b),("size",c)]) rfl (by kernel_rfl) (by kernel_rfl) (by rfl) (HJ rfl rfl rfl rfl trivial) ?_
 rintro x ok - -
 refine(?_:R _ (_::_) _ _ _ _)
 refine R.doc ok ?_
 exact R.ret (Rx.YF (Q:=fun v F' W=>∃o,v= .ref o∧Ma F' o [a,b,c]∧W=V) ok AK (.nm ok has0) (.cons (.nm ok Ai) (.cons (.nm ok Al) (.cons (.nm ok Ay) .nil))) fun F' o le h1=>AE o rfl h1 rfl) fun v F' W le qz=>AX qz fun o e1 e2 e3=>by subst e1;subst e3;exact En.one (h F' o le e2)
theorem Xk:findIn (KM w.params) (.ref 152) "__ne__"=some (some (.builtin "tuple.__ne__")):=by kernel_rfl
theorem cU:subIn (KM w.params) (.type "tuple") (.ref 152)=some false:=by kernel_rfl
theorem Yy:builtinKind "tuple.__ne__"=some .slot:=by kernel_rfl
theorem YB:splitId "tuple.__ne__"=some ("tuple","__ne__"):=by kernel_rfl
theorem Yx (self:Value):bindSpecial (.builtin "tuple.__ne__") self=pure (.builtin "tuple.__ne__",[self]):=PySem.F.slot_tuple_ne.bind _
theorem Hv {i:Int}{Q:Bool→Shared→Prop}(h:Q (i==j) s):wpAny (model P0 w) A (eqBool (.int i t) (.int j u)) Q E s:=PySem.SeqAt.EqAt.int_int i t j u P0 w E Q h
theorem Yz {b:Addr}{oa ob:Obj}{n':Nat}{i k:Int}{t1 t2 u1 u2 u3:Tok}{Q:Value→Shared→Prop}(X:(KM w.params).In s.heap) (hu:A.units<cLine)
  (ha:s.heap.get? a=some oa) (ca:oa.cls= .ref 152) (da:oa.data= .seq #[.int i t1,.int j t2,.int k t3] n)
  (hb:s.heap.get? b=some ob) (cb:ob.cls= .type "tuple") (db:ob.data= .seq #[.int i' u1,.int j' u2,.int k' u3] n')
  (h:Q (.bool (!(i==i' && j==j' && k==k'))) s):wpAny (model P0 w) A (compareOp .NotEq (.ref a) (.ref b)) Q E s:=by
 obtain⟨hh,g,d,t,os⟩:=s
 dsimp only at X ha hb
 have ta:Looks (model P0 w) hh (typeOf (.ref a)) (.ref 152):=ca▸(Looks.ld ha).andThen .now
 have tb:Looks (model P0 w) hh (typeOf (.ref b)) (.type "tuple"):=cb▸(Looks.ld hb).andThen .now
 have sb:=looks_subIn (M:=model P0 w) X cU
 have ln:Looks (model P0 w) hh (typeLookup (.ref 152) (cmpInfo .NotEq).2.1) (some (.builtin "tuple.__ne__")):=looks_findIn X Xk
 have bn:Looks (model P0 w) hh (bindSpecial (.builtin "tuple.__ne__") (.ref a)) (.builtin "tuple.__ne__",[.ref a]):=.of_pure (Yx _)
 have ia:Looks (model P0 w) hh (isInstance (.ref a) (.type "tuple")) true:=ta.andThen (looks_subIn X Nu)
 have ib:Looks (model P0 w) hh (isInstance (.ref b) (.type "tuple")) true:=tb.andThen (.of_pure sub_tuple_self)
 refine(?_:wpAny _ _ (richCompare .NotEq (.ref a) (.ref b)) _ _ _)
 delta richCompare
 rw[oneThing_ref]
 refine en (d8 (wpAny_cRoomFor hu ?_))
 refine d8 (ta.at (d8 (tb.at ?_)))
 rw[if_pos (by rfl)]
 refine d8 (sb.at ?_)
 refine wpAny_ite_false rfl (d8 ?_)
 delta tryCompare
 refine d8 ?_
 delta callSpecialIfBound? bindSpecialIfBound?
 refine en (d8 (d8 (d8 (ta.at (ln.at ?_)))))
 have run:∀QQ:Value→Shared→Prop,QQ (.bool (!(i==i' && j==j' && k==k'))) ⟨hh,g,d,t,os⟩→wpAny (model P0 w) A (call (.builtin "tuple.__ne__") [.ref a,.ref b]) QQ E ⟨hh,g,d,t,os⟩:=by
  intro QQ hq
  refine wpAny_call (codeAny_call_builtin (by decide+kernel) PySem.F.entry_tuple_ne (check_slot Yy YB ia (PySem.F.args_tuple_ne_2 _ _) ?_))
  delta Builtin.«tuple.__ne__»
  refine(?_:wpAny _ _ (isInstance (.ref b) (.type "tuple")>>=_) _ _ _)
  refine d8 (ib.at (wpAny_ite_false rfl ?_))
  refine d8 (wpAny_tupleItemsOf ha da (d8 (wpAny_tupleItemsOf hb db ?_)))
  refine d8 ?_
  refine(?_:wpAny _ _ (forIn [(Value.int i t1,Value.int i' u1),(Value.int j t2,Value.int j' u2),(Value.int k t3,Value.int k' u3)] _ _) _ _ _)
  rw[e7]
  refine d8 (d8 (Hv ?_))
  cases h1:i==i'<;>rw[h1] at hq
  ·exact d8 (d9 (d9 (d9 (d9 hq))))
  ·refine d9 ?_
   dsimp only
   rw[e7]
   refine d8 (d8 (Hv ?_))
   cases h2:j==j'<;>rw[h2] at hq
   ·exact d8 (d9 (d9 (d9 (d9 hq))))
   ·refine d9 ?_
    dsimp only
    rw[e7]
    refine d8 (d8 (Hv ?_))
    cases h3:k==k'<;>rw[h3] at hq
    ·exact d8 (d9 (d9 (d9 (d9 hq))))
    ·refine d9 ?_
     dsimp only
     rw[List.forIn_nil]
     exact d9 (d9 hq)
 have fin:∀QQ:Option Value→Shared→Prop,QQ (some (.bool (!(i==i' && j==j' && k==k')))) ⟨hh,g,d,t,os⟩→wpAny (model P0 w) A (call (.builtin "tuple.__ne__") ([.ref a]++[.ref b])>>=fun v=>pure (some v)) QQ E ⟨hh,g,d,t,os⟩:=fun QQ hq=>d8 (run _ (d9 hq))
 refine d8 (wpAny_askSetting (wpAny_ite_split (fun _=>?_) fun _=>?_))
 ·exact d8 (bn.at (d9 (fin _ (d9 (d9 h)))))
 ·exact wpAny_tryCatch (d8 (bn.at (d9 (fin _ (d9 (d9 h))))))
section
variable {i k:Int}
def Ec (F:FM) (v:Value) (i j k:Int):Prop:=∃a t u r,v= .ref a∧Ma F a [.int i t,.int j u,.int k r]
theorem Xj:keepIn (KM w.params) (.ref 152)=true:=by kernel_rfl
theorem Run.HT {b:Addr}{r r':Tok}(rm:Rm n A) (ha:Ma F a [.int i t,.int j u,.int k r]) (hb:Tu F b [.int i' t',.int j' u',.int k' r']) (h:Q (.bool (!(i==i' && j==j' && k==k'))) F V):Run (cx w os) A (compareOp .NotEq (.ref a) (.ref b)) F V Q:=fun s S=>by
 obtain⟨oa,h1,h2,n1,h3⟩:=ha
 obtain⟨ob,g1,g2,n2,g3⟩:=hb
 exact Yz (FD S.toStP) (by have:=rm.2.1;refine(?_:A.units<9900);exact CX ‹_› rfl) (S.own.fro _ _ h1) h2 h3 (S.own.fro _ _ g1) g2 g3 (Ae F V S h)
theorem Run.SD {rest:List Expr}(h:Run (cx w os) A (spliced (backTo pos (starEach (e::rest) env))) F V (fun vs F1 V1=>Run (cx w os) A (PySem.call (.ref 152) vs) F1 V1 Q))
  (he:starEach (e::rest) env=(false,eval e env)::starEach rest env) (hplain:(backTo pos (starEach rest env)).any (·.1)=false):Run (cx w os) A (callWith pos (.ref 152) [] (backTo pos (starEach (e::rest) env)) []) F V Q:=fun s S=>
 callWith_K (first:=[]) (FD S.toStP) Xj ((Run.fu h S fun vs s1 F1 V1 S1 h1=>⟨FD S1.toStP,h1 s1 S1⟩)) he hplain
theorem Rx.mkMatch (ok:Ok x (n+2) gs) (hx:Str.ofString "Match" ∈ gs) (he:AZ x F m V [e1,e2,e3] [.int i,.int j,.int k]) (h:∀F' v,Le F F'→Ec F' v i j k→Q v F' V):Rx x F m V (.Call (.Name (Str.ofString "Match") p) [e1,e2,e3] [] pos) Q:=.ki fun K Vf Q' ft kk=>
 have hs:=he.star
 .CA (Run.lg ok.gv ok.gb hx U4 (Run.SD (w:=x.w) (os:=x.os) (he.fu ft fun V1 vs f1 o1=>by
  obtain⟨_,_,_,rfl,⟨t,⟨⟩⟩,⟨u,⟨⟩⟩,⟨r,⟨⟩⟩⟩:=o1.three
  exact Run.fit (Fc f1).fit (Run.RF (n:=n) (w:=x.w) (os:=x.os) ok.rm fun A' rm'=>RV.to (X9 (n:=n) (w:=x.w) (os:=x.os) rm' fun F' o le hm V' sb=>hm.elim fun ob q=>.mk q.1 q.2 (kk _ F' V' V le (Fd sb) (h F' _ le (Wl o t u r rfl hm)))))) (AD (hs e1 (.head _))) (plain_any fun y hy=>hs y (.tail _ hy))))
end
noncomputable def Be (l:List Nat) (i:Int):Option Nat:=if 0≤i then l[i.toNat]? else none
noncomputable def jl (ps:List (Int×Int)) (k:Int):Int:=((ps.find? fun p=>p.1=k).map (·.2)).getD 0
noncomputable def Cp (i blo bhi:Int) (j2:List (Int×Int)):List Nat→List (Int×Int)→Int→Int→Int→Option (List (Int×Int)×Int×Int×Int)
 |[],nj,bi,bj,bs=>some (nj,bi,bj,bs)
 |j::js,nj,bi,bj,bs=>
  if (j:Int)<blo then Cp i blo bhi j2 js nj bi bj bs
  else if (j:Int)≥bhi then some (nj,bi,bj,bs)
  else if (nj.map (·.1)).contains (j:Int)||decide (nj.length≥900) then none
  else if jl j2 (j - 1)+1>bs then Cp i blo bhi j2 js (nj++[((j:Int),jl j2 (j - 1)+1)]) (i - (jl j2 (j - 1)+1)+1) (j - (jl j2 (j - 1)+1)+1) (jl j2 (j - 1)+1)
  else Cp i blo bhi j2 js (nj++[((j:Int),jl j2 (j - 1)+1)]) bi bj bs
theorem Gq {α:Type}{c:Bool}{a b t:α}(h:c=true) (e:(bif c then a else b)=t):a=t:=by subst h;exact e
theorem Gp {α:Type}{c:Bool}{a b t:α}(h:c=false) (e:(bif c then a else b)=t):b=t:=by subst h;exact e
theorem Lx {α β:Type}{o:Option α}{x:α}{d t:β}{f:α→β}(h:o=some x) (e:o.elim d f=t):f x=t:=by subst h;exact e
noncomputable def I5 (ats:Int→Option (List Nat)) (blo bhi:Int):Nat→Int→List (Int×Int)→Int→Int→Int→Option (Int×Int×Int)
 |0,_,_,bi,bj,bs=>some (bi,bj,bs)
 |n+1,i,j2,bi,bj,bs=>(ats i).elim none fun ps=>(Cp i blo bhi j2 ps [] bi bj bs).elim none fun r=>I5 ats blo bhi n (i+1) r.1 r.2.1 r.2.2.1 r.2.2.2
noncomputable def I6 (eq:Int→Int→Option Bool) (alo blo:Int):Nat→Int→Int→Int→Option (Int×Int×Int)
 |0,_,_,_=>none
 |n+1,bi,bj,bs=>bif decide (bi>alo) && decide (bj>blo) then(eq (bi - 1) (bj - 1)).elim none fun q=>bif q then I6 eq alo blo n (bi - 1) (bj - 1) (bs+1) else some (bi,bj,bs) else some (bi,bj,bs)
noncomputable def I7 (eq:Int→Int→Option Bool) (ahi bhi:Int):Nat→Int→Int→Int→Option (Int×Int×Int)
 |0,_,_,_=>none
 |n+1,bi,bj,bs=>bif decide (bi+bs<ahi) && decide (bj+bs<bhi) then(eq (bi+bs) (bj+bs)).elim none fun q=>bif q then I7 eq ahi bhi n bi bj (bs+1) else some (bi,bj,bs) else some (bi,bj,bs)
noncomputable def I3 (hb:Int→Bool) (alo ahi blo bhi:Int) (r:Int×Int×Int):Option (Int×Int×Int):=
 if (r.1>alo→r.2.1>blo→hb (r.2.1 - 1)=true)∧(r.1+r.2.2<ahi→r.2.1+r.2.2<bhi→hb (r.2.1+r.2.2)=true) then some r else none
noncomputable def I8 (ats:Int→Option (List Nat)) (eq:Int→Int→Option Bool) (hb:Int→Bool) (alo ahi blo bhi:Int):Option (Int×Int×Int):=
 (I5 ats blo bhi (ahi - alo).toNat alo [] alo blo 0).bind fun r1=>(I6 eq alo blo 50 r1.1 r1.2.1 r1.2.2).bind fun r2=>(I7 eq ahi bhi 50 r2.1 r2.2.1 r2.2.2).bind fun r3=>I3 hb alo ahi blo bhi r3
noncomputable def ET (a b:List Nat) (i:Int):Option (List Nat):=(Be a i).map (Ba b)
noncomputable def DN (a b:List Nat) (i j:Int):Option Bool:=(Be b j).bind fun y=>(Be a i).map fun x=>decide (x=y)
noncomputable def FO (b:List Nat) (j:Int):Bool:=(Be b j).isSome
noncomputable abbrev GG (a b:List Nat):Int→Int→Nat→Int→List (Int×Int)→Int→Int→Int→Option (Int×Int×Int):=I5 (ET a b)
noncomputable abbrev HA (a b:List Nat):Int→Int→Nat→Int→Int→Int→Option (Int×Int×Int):=I6 (DN a b)
noncomputable abbrev GH (a b:List Nat):Int→Int→Nat→Int→Int→Int→Option (Int×Int×Int):=I7 (DN a b)
noncomputable abbrev GF (b:List Nat):Int→Int→Int→Int→Int×Int×Int→Option (Int×Int×Int):=I3 (FO b)
noncomputable def B1 (a b:List Nat):Int→Int→Int→Int→Option (Int×Int×Int):=I8 (ET a b) (DN a b) (FO b)
inductive As4 (x:Cc) (ida idb idc idd:Str) (rest:List Stmt) (Q:Flow→FM→Sm→Aa→Prop) (m:Sm) (v:Value) (F:FM) (W:Aa):Prop
 |mk {t v1 v2 v3 v4 m1 W1 m2 W2 m3 W3 m4 W4:_}:v= .ref t→Tu F t [v1,v2,v3,v4]→Au x ida v1 m W m1 W1→Au x idb v2 m1 W1 m2 W2→Au x idc v3 m2 W2 m3 W3→Au x idd v4 m3 W3 m4 W4→R x rest F m4 W4 Q→As4 x ida idb idc idd rest Q m v F W
inductive AsW3 (x:Cc) (ida idb idc:Str) (rest:List Stmt) (Q:Flow→FM→Sm→Aa→Prop) (m:Sm) (V:Aa) (v1 v2 v3:Value) (F:FM):Prop
 |mk {m1 W1 m2 W2 m3 W3:_}:Au x idc v3 m V m1 W1→Au x idb v2 m1 W1 m2 W2→Au x ida v1 m2 W2 m3 W3→R x rest F m3 W3 Q→AsW3 x ida idb idc rest Q m V v1 v2 v3 F
theorem Dj.nil:Dj [] []:=⟨rfl,fun _=>rfl⟩
theorem Dj.snoc {ps:List (Int×Int)}{i r:Int}(h:Dj kvs ps) (hn:i ∉ ps.map (·.1)):Dj (stored kvs i (.int r t)) (ps++[(i,r)]):=by
 refine And.elim (fun h1 h2=>?_) (h)
 have hv:valueAt kvs i=none:=by
  have:=h2 i
  cases e:ps.find? fun p=>p.1=i with
  |none=>rw[e] at this;exact this
  |some p=>exact absurd (List.mem_map.mpr ⟨p,List.mem_of_find?_eq_some e,by simpa using List.find?_some e⟩) hn
 rw[stored_absent hv]
 refine⟨by simp only[eQ,eQ,h1];rfl,fun k=>?_⟩
 have hk:=h2 k
 have e1:valueAt (kvs++[(i,Value.int r t)]) k=(valueAt kvs k).or (if i=k then some (.int r t) else none):=by
  unfold valueAt
  refine(List.find?_append)▸?_
  cases kvs.find? fun kv=>kv.1=k with
  |some q=>rfl
  |none=>by_cases q:i=k<;>simp[q]
 have e2:(ps++[(i,r)]).find? (fun p=>p.1=k)=(ps.find? fun p=>p.1=k).or (if i=k then some (i,r) else none):=by
  rw[List.find?_append]
  cases ps.find? fun p=>p.1=k with
  |some q=>rfl
  |none=>by_cases q:i=k<;>simp[q]
 rw[e1,e2]
 cases e:ps.find? fun p=>p.1=k with
 |some p=>
  rw[e] at hk
  obtain⟨u,hk⟩:=hk
  exact⟨u,by rw[hk];rfl⟩
 |none=>
  rw[e] at hk
  rw[hk]
  by_cases q:i=k
  ·simp only[q,if_true]
   exact⟨t,rfl⟩
  ·simp only[q,if_false]
   rfl
theorem Bs.get {D:Addr}{l:List Nat}{no:Addr}(h:Bs w F D l) (hno:Ls F no []):(D==sysModules)=false∧∃kvs,Dc (strKind P0 w) F D kvs∧∀c,∃a vs,(valueAt kvs (ch c)).getD (.ref no)= .ref a∧Ls F a vs∧Af DG vs (Ba l c):=by
 obtain⟨h1,kvs,h2,h3⟩:=h
 refine⟨h1,kvs,h2,fun c=>?_⟩
 have:=h3 c
 cases e:valueAt kvs (ch c) with
 |none=>
  rw[e] at this
  exact Bg no ([]) rfl hno (by rw[show Ba l c=[] from this];exact .nil)
 |some v=>
  rw[e] at this
  obtain⟨a,vs,rfl,h4,h5⟩:=this
  exact Bg a vs rfl h4 h5
theorem AS.imp {item item':Nat→Value→Prop}(k:∀i v,item i v→item' i v) (h:AS c F xv n item):AS c F xv n item':=fun A kk V rm=>
 (h A kk V rm).mono fun _ _ _ q=>⟨q.1,IO q.2 fun it P b d e f g i=>HM it P b d e (fun j F' W Q le hj hq=>f j F' W Q le hj fun v hv=>hq v (k _ _ hv)) g i⟩
theorem AS.Ba {ps:List Nat}(h:Ls F a vs) (hp:Af DG vs ps):AS c F (.ref a) ps.length (fun i v=>∃j,ps[i]? =some j∧DG v j):=by
 refine(hp.len)▸?_
 exact(AS.fx h).imp fun i v hv=>by
  have hlt:i<ps.length:=hp.len▸(List.getElem?_eq_some_iff.mp hv).1
  refine Ag (hp.get (eN hlt)) fun v' h1 h2=>?_
  replace h1:=(hv)▸h1
  obtain rfl:=ed h1
  exact Ak _ (eN hlt) h2
section
variable {pd:Pos}{sb sc:Sp}{idd:Str}{Q:Flow→FM→Sm→Aa→Prop}
theorem Ev.Ca {l:List Nat}{i:Int}{c:Nat}(h1:Ev x F m V e1 (.str (tx l))) (h2:Ev x F m V e2 (.int i)) (hc:Be l i=some c) (hl:l.length<1000) (hp:autoParam (C9 e2=true) aR):Ev x F m V (.Subscript e1 e2 p) (.str (ch c)):=by
 unfold Be at hc
 split at hc
 ·rename_i h0
  have hlt:i.toNat<l.length:=(List.getElem?_eq_some_iff.mp hc).1
  refine Ev.Bn (k:=i.toNat) (r:=l.drop (i.toNat+1)) h1 h2 ⟨?_,by rw[Av];exact ec ‹_›⟩ (Iq ‹_›) (by rw[Av];exact ea ‹_› (d7 rfl)) hp
  simp only[DL,List.drop_eq_getElem_cons hlt,(List.getElem?_eq_some_iff.mp hc).2]
 ·contradiction
theorem Tb.Do {b3 b4:Bool}(h1:Tb x F m V e1 b1) (h2:b1=true→Tb x F m V e2 b2) (h3:b1=true→b2=true→Tb x F m V e3 b3) (h4:b1=true→b2=true→b3=true→Tb x F m V e4 b4):Tb x F m V (.BoolOp .And [e1,e2,e3,e4] p) (b1 && (b2 && (b3 && b4))):=.ki fun K Vf Q ft kk=>.J8 (.FB (h1.fu ft fun V1 f=>⟨fun q=>by
 subst q
 exact .FB ((h2 rfl).fu f fun V2 f2=>⟨fun q=>by
  subst q
  exact .FB ((h3 rfl rfl).fu f2 fun V3 f3=>⟨fun q=>by
   subst q
   exact .FB ((h4 rfl rfl rfl).fu f3 fun V4 f4=>⟨fun q=>by subst q;exact .Kq (kk V4 f4),fun q=>by subst q;exact kk V4 f4⟩),fun q=>by subst q;exact kk V3 f3⟩),fun q=>by subst q;exact kk V2 f2⟩),fun q=>by subst q;exact kk V1 f⟩))
theorem Rx.H4 {a b:Int}(ok:Ok x n gs) (hx:Str.ofString "range" ∈ gs) (h1:Ev x F m V e1 (.int a)) (h2:Ev x F m V e2 (.int b)) (kk:∀F' r,Le F F'→Rg F' r a b 1→QV (.ref r) F' V) (hn1:autoParam (notStar e1=true) aR) (hn2:autoParam (notStar e2=true) aR):
  Rx x F m V (.Call (.Name (Str.ofString "range") p) [e1,e2] [] pos) QV:=
 .Id ok hx Jm (.cons h1 (.cons h2 .nil hn2) hn1) fun t t2 K=>.up (Run.H4 fun r=>up.AY fun F1 o le ho hp=>up.one ⟨le,V,Sb.refl,kk F1 r le (Ak o ho hp)⟩)
theorem Rx.dL (h1:Ev x F m V e1 s1) (h2:Ev x F m V e2 s2) (h3:Ev x F m V e3 s3) (h4:Rx x F m V e4 fun v F' W=>s1.fm fun v1=>s2.fm fun v2=>s3.fm fun v3=>∀F'' a,Le F' F''→Tu F'' a [v1,v2,v3,v]→QV (.ref a) F'' W)
  (hn1:autoParam (notStar e1=true) aR) (hn2:autoParam (notStar e2=true) aR) (hn3:autoParam (notStar e3=true) aR) (hn4:autoParam (notStar e4=true) aR):Rx x F m V (.Tuple [e1,e2,e3,e4] k pos) QV:=.ki fun K Vf Q' ft kk=>
 .up (.tup (Run.AL (h1.fu ft fun V1 v1 f1 o1=>Run.AL (h2.fu f1 fun V2 v2 f2 o2=>Run.AL (h3.fu f2 fun V3 v3 f3 o3=>Run.AL (h4.fu f3 fun v F4 V4 W le f4 q=>Run.A0 ⟨d7 rfl,fun b=>up.AY fun F5 o le5 ho hp=>up.one (kk _ F5 V4 W (Le.trans le le5) f4
  (Sp.BJ (P:=fun v3=>∀F'' a,Le F4 F''→Tu F'' a [v1,v2,v3,v]→QV (.ref a) F'' W) o3 (Sp.G3 (P:=fun v1 v2=>s3.fm fun v3=>∀F'' a,Le F4 F''→Tu F'' a [v1,v2,v3,v]→QV (.ref a) F'' W) o1 o2 q) F5 b le5 (Ak o ho hp)))⟩) (AD hn4)) (AD hn3)) (AD hn2)) (AD hn1)))
theorem R.Q4 (ok:Ok x n gs) (h:Rx x F m V e (As4 x ida idb idc idd rest Q m))
  (hs:autoParam (swapsWithSole [.Tuple [.Name ida pa,.Name idb pb,.Name idc pc,.Name idd pd] k tp] e p.line x.env=Pure.pure false) aU) (hw:autoParam (swappedStores [.Tuple [.Name ida pa,.Name idb pb,.Name idc pc,.Name idd pd] k tp] e x.env=Pure.pure Option.none) aU):
  R x (.Assign [.Tuple [.Name ida pa,.Name idb pb,.Name idc pc,.Name idd pd] k tp] e p::rest) F m V Q:=.ki fun K Vf Q' ft kk'=>Run.cons (Run.Iz (h.fu ft fun v F1 V1 W le f1 q=>q.casesOn fun e ht h1 h2 h3 h4 hb=>e▸Run.fit f1.fit (Run.Iy ok.rm ht rfl rfl (.Ck (Run.BA (h1 _ _ _ (.Ck (Run.BA (h2 _ _ _ (.Ck (Run.BA (h3 _ _ _ (.Ck (Run.BA (h4 _ _ _ (.Gj (hb.go le Sb.refl kk')))))))))))))))) hs hw)
theorem c9 (hk:env.scope.kind= .function) (ha:env.scope.names.lookup ida=some .local) (hb:env.scope.names.lookup idb=some .local) (hd:env.scope.names.lookup idc=some .local)
  (h1:notStar e1=true) (h2:notStar e2=true) (h3:notStar e3=true) (hl:(pb.line==pa.line)=true) (hl2:(pc.line==pa.line)=true) (hne:[ida,idb,idc].eraseDups.length=3) (hf:[e1,e2,e3].all (foldedForSure 8)=false) (hc:[e1,e2,e3].all (constantsAlone 8)=false):
  swappedStores [.Tuple [.Name ida pa,.Name idb pb,.Name idc pc] k tp] (.Tuple [e1,e2,e3] kd pos) env=Pure.pure (some [ida,idb,idc]):=
 Pn hk rfl (List.forall_mem_cons.mpr ⟨h1,List.forall_mem_cons.mpr ⟨h2,List.forall_mem_singleton.mpr h3⟩⟩) (fun _ q=>GI (q _ _ (GR ha (eX _))) (GI (q _ _ (GR hb hl)) (GI (q _ _ (GR hd hl2)) rfl))) ((congrArg (fun n=>false||n !=3) hne).trans rfl) hf hc
theorem R.IB (ok:Ok x n gs) (ha:Ad ida sa m) (hb:Ad idb sb m) (hc':Ad idc sc m) (h1:Ev x F m V e1 s1) (h2:Ev x F m V e2 s2) (h3:Ev x F m V e3 s3)
  (kk:s1.fm fun v1=>s2.fm fun v2=>s3.fm fun v3=>∀F',Le F F'→AsW3 x ida idb idc rest Q m V v1 v2 v3 F') (hn1:autoParam (notStar e1=true) aR) (hn2:autoParam (notStar e2=true) aR) (hn3:autoParam (notStar e3=true) aR)
  (hs:autoParam (swapsWithSole [.Tuple [.Name ida pa,.Name idb pb,.Name idc pc] k tp] (.Tuple [e1,e2,e3] kd pos) p.line x.env=Pure.pure false) aU)
  (hl:autoParam ((pb.line==pa.line)=true) aR) (hl2:autoParam ((pc.line==pa.line)=true) aR) (hne:autoParam ([ida,idb,idc].eraseDups.length=3) aD) (hf:autoParam ([e1,e2,e3].all (foldedForSure 8)=false) aD) (hc:autoParam ([e1,e2,e3].all (constantsAlone 8)=false) aD):
  R x (.Assign [.Tuple [.Name ida pa,.Name idb pb,.Name idc pc] k tp] (.Tuple [e1,e2,e3] kd pos) p::rest) F m V Q:=fun K Vf ft=>Run.fit ft.fit fun s S=>
 have y:=(S.own.get .head).elim fun o q=>q.2.1
 R.Rb ok h1 h2 h3 (fun F' v1 v2 v3 le o1 o2 o3=>(Sp.BJ (P:=fun v3=>∀F',Le F F'→AsW3 x ida idb idc rest Q m V v1 v2 v3 F') o3 (Sp.G3 (P:=fun v1 v2=>s3.fm fun v3=>∀F',Le F F'→AsW3 x ida idb idc rest Q m V v1 v2 v3 F') o1 o2 kk) F' le).casesOn fun{m1 W1 m2 W2 m3 W3} a b c d=>Wp m1 W1 m2 W2 m3 W3 a b c d) hn1 hn2 hn3 hs (c9 ok.lo.kind (ok.lo.loc _ (y▸C3 ha)) (ok.lo.loc _ (y▸C3 hb)) (ok.lo.loc _ (y▸C3 hc')) hn1 hn2 hn3 hl hl2 hne hf hc) K _ Sb.refl s S
end
structure Fk where
 (o dx D jk isb no:Addr)
 (alo ahi blo bhi:Int)
 (la lb:List Nat)
 (ta tb:Tok)
 (isj aj:Sp)
noncomputable abbrev Fk.base (c:Fk) (V:Aa):Aa:=(c.o,AH c.dx)::(c.dx,atS (AW c.isj (.val (.str (tx c.la) c.ta)) (.val (.str (tx c.lb) c.tb)) c.aj (.val (.ref c.D)) (.val (.ref c.jk))))::V
noncomputable abbrev Fk.sm (c:Fk) (bi bj bs:Int) (j2:Addr) (i jg nj j k:Sp):Sm:=[("self",.val (.ref c.o)),("alo",.int c.alo),("ahi",.int c.ahi),("blo",.int c.blo),("bhi",.int c.bhi),("a",.str (tx c.la)),("b",.str (tx c.lb)),("b2j",.val (.ref c.D)),("isbjunk",.val (.ref c.isb)),("besti",.int bi),("bestj",.int bj),("bestsize",.int bs),("j2len",.val (.ref j2)),("nothing",.val (.ref c.no)),("i",i),("j2lenget",jg),("newj2len",nj),("j",j),("k",k)]
structure Fk.Fz (c:Fk) (w:World) (F:FM):Prop where
 b2j:Bs w F c.D c.lb
 st0:BB F c.jk
 isb:Bd F c.isb "set.__contains__" c.jk
 no:Ls F c.no []
theorem Fk.Fz.le {c:Fk}(h:c.Fz w F) (l:Le F F'):c.Fz w F':=⟨h.b2j.le l,h.st0.le l,h.isb.le l,h.no.le l⟩
inductive FI (c:Fk) (w:World) (V:Aa) (RES:Option (Int×Int×Int)) (t:Nat) (F':FM):Sm→Aa→Prop
 |mk {bi bj bs d2 kvs j2 si sg sn sj sk:_}:(d2==sysModules)=false→Dc (intKind P0 w) F' d2 kvs→Dj kvs j2→GG c.la c.lb c.blo c.bhi ((c.ahi - c.alo).toNat - t) (c.alo+t) j2 bi bj bs=RES→FI c w V RES t F' (c.sm bi bj bs d2 si sg sn sj sk) (c.base V)
inductive FJ (c:Fk) (w:World) (V:Aa) (i:Int) (d2 jg nd:Addr) (j2:List (Int×Int)) (ps:List Nat) (RES:Option (List (Int×Int)×Int×Int×Int)) (t:Nat) (F':FM):Sm→Aa→Prop
 |mk {bi bj bs kvs nj sj sk:_}:Dj kvs nj→Cp i c.blo c.bhi j2 (ps.drop t) nj bi bj bs=RES→FJ c w V i d2 jg nd j2 ps RES t F' (c.sm bi bj bs d2 (.int i) (.val (.ref jg)) (.val (.ref nd)) sj sk) ((nd,AU (intKind P0 w) kvs)::c.base V)
inductive FL (c:Fk) (V:Aa) (f:Nat→Int→Int→Int→Option (Int×Int×Int)) (RES:Option (Int×Int×Int)) (t:Nat) (F':FM):Sm→Aa→Prop
 |mk {bi bj bs d2 si sg sn sj sk:_}:f t bi bj bs=RES→FL c V f RES t F' (c.sm bi bj bs d2 si sg sn sj sk) (c.base V)
theorem bf {a b:Int}(h1:0≤a) (h2:a≤1000) (h3:0≤b) (h4:b≤1000):Builtin.Range.small a b 1=true:=small_one (by lia) (by lia) (by lia) (by lia)
theorem Z4 (a b:Int):Builtin.Range.rangeSize a b 1=((b - a).toNat:Int):=by
 rw[rangeSize_one]
 split<;>lia
inductive GrS (f:Nat→Prop) (r cur:Int×Int×Int) (c1 c2:Bool) (E:Nat→Nat→Prop) (t:Nat):Prop
 |go {t' y z:_}:t'<t→c1=true→c2=true→E y z→(ch z==ch y)=true→f t'→GrS f r cur c1 c2 E t
 |no {y z:_}:c1=true→c2=true→E y z→(ch z==ch y)=false→cur=r→GrS f r cur c1 c2 E t
 |out1:c1=false→cur=r→GrS f r cur c1 c2 E t
 |out2:c1=true→c2=false→cur=r→GrS f r cur c1 c2 E t
theorem MY {f:Nat→Prop}{c1 c2:Bool}{a b:List Nat}{i:Int}{t:Nat}{cur r:Int×Int×Int}{G:Option (Int×Int×Int)}(h:(bif c1 && c2 then(DN a b i j).elim none fun q=>bif q then G else some cur else some cur)=some r) (hf:G=some r→f t):GrS f r cur c1 c2 (fun y z=>Be b j=some y∧Be a i=some z) (t+1):=by
 cases c1 with
 |false=>exact .out1 rfl (ed h)
 |true=>cases c2 with
  |false=>exact .out2 rfl rfl (ed h)
  |true=>
   unfold DN at h
   cases hy:Be b j with
   |none=>replace h:=(hy)▸h;cases h
   |some y=>
    replace h:=(hy)▸h
    cases hz:Be a i with
    |none=>replace h:=(hz)▸h;cases h
    |some z=>
     rw[hz] at h
     have h:(bif decide (z=y) then G else some cur)=some r:=h
     cases q:decide (z=y) with
     |true=>exact .go (ey t) rfl rfl ⟨rfl,rfl⟩ (by rw[B8];exact beq_iff_eq.mpr (ee q)) (hf (Gq q h))
     |false=>exact .no rfl rfl ⟨rfl,rfl⟩ (by rw[B8];exact beq_false_of_ne (of_decide_eq_false q)) (ed (Gp q h))
theorem Uj {a b:List Nat}{bi:Int}{t:Nat}{r:Int×Int×Int}(h:HA a b alo blo t bi bj bs=some r):GrS (fun t'=>HA a b alo blo t' (bi - 1) (bj - 1) (bs+1)=some r) r (bi,bj,bs) (decide (bi>alo)) (decide (bj>blo)) (fun y z=>Be b (bj - 1)=some y∧Be a (bi - 1)=some z) t:=by
 cases t with
 |zero=>cases h
 |succ t=>exact MY h id
theorem Uk {a b:List Nat}{bi:Int}{t:Nat}{r:Int×Int×Int}(h:GH a b ahi bhi t bi bj bs=some r):GrS (fun t'=>GH a b ahi bhi t' bi bj (bs+1)=some r) r (bi,bj,bs) (decide (bi+bs<ahi)) (decide (bj+bs<bhi)) (fun y z=>Be b (bj+bs)=some y∧Be a (bi+bs)=some z) t:=by
 cases t with
 |zero=>cases h
 |succ t=>exact MY h id
theorem Ug {b:List Nat}{r r':Int×Int×Int}(h:GF b alo ahi blo bhi r=some r'):r=r'∧(decide (r.1>alo)=true→decide (r.2.1>blo)=true→∃y,Be b (r.2.1 - 1)=some y)∧(decide (r.1+r.2.2<ahi)=true→decide (r.2.1+r.2.2<bhi)=true→∃y,Be b (r.2.1+r.2.2)=some y):=by
 unfold GF I3 at h
 split at h
 ·rename_i hE
  exact⟨ed h,fun a b=>Option.isSome_iff_exists.mp (hE.1 (ee a) (ee b)),fun a b=>Option.isSome_iff_exists.mp (hE.2 (ee a) (ee b))⟩
 ·cases h
inductive WhO (m:Sm) (V:Aa) (f:Nat) (F:FM):Sm→Aa→Prop
 |mk:WhO m V f F m V
theorem R.PA {Q:Flow→FM→Sm→Aa→Prop}(h:∀F',Le F F'→Tb x F' m V e false) (k:∀F',Le F F'→R x rest F' m V Q):R x (.While e body [] p::rest) F m V Q:=
 R.Cu (WhO m V) (fun _ _ _ _ hI=>hI.casesOn (motive:=fun m' V' _=>Le F _→Wh x e body rest Q _ _ m' V') fun le=>.f (h _ le) rfl (k _ le)) 0 .mk
theorem Ul {c:Fk}{r:Int×Int×Int}(ok:Ok x (n+2) ["len","range","Match"]) (fz:c.Fz x.w F) (hla:c.la.length<1000) (hlb:c.lb.length<1000) (hf:GF c.lb c.alo c.ahi c.blo c.bhi r=some (ri,rj,rs))
  (h:∀F' v,Le F F'→Ec F' v ri rj rs→Q v F' (c.base V)):R x ((bodyOf (Cn x.w.params)).drop 10) F (c.sm r.1 r.2.1 r.2.2 d2 si sg sn sj sk) (c.base V) (fun f F' _ W=>En Q (BK f) F' W):=by
 refine(?_:R _ (_::_) _ _ _ _)
 have hE:=Ug hf
 refine R.PA (fun F1 le=>Tb.conv (Tb.Do (b3:=false) (b4:=false) (Tb.cmp (.nm ok AT) (.nm ok Ai) Ac.BV) (fun _=>Tb.cmp (.nm ok AQ) (.nm ok Ay) Ac.BV) (fun q1 q2=>?_) fun _ _ q=>nomatch q) (by simp)) (fun F1 le=>?_)
 ·refine BZ (hE.2.1 q1 q2) fun y e1=>?_
  have fz1:=fz.le le
  exact Tb.val (Ev.Ei ok fz1.isb BN fz1.st0 (Ev.Ca (.nm ok AG) (.bin (.nm ok AQ) .int .Bh) e1 hlb)) Bz.bool
 refine R.PA (fun F2 le2=>Tb.conv (Tb.Do (b3:=false) (b4:=false) (Tb.cmp (.bin (.nm ok AT) (.nm ok AN) .Aw) (.nm ok Al) Ac.ltI) (fun _=>Tb.cmp (.bin (.nm ok AQ) (.nm ok AN) .Aw) (.nm ok Az) Ac.ltI) (fun q1 q2=>?_) fun _ _ q=>nomatch q) (by simp)) (fun F2 le2=>?_)
 ·refine BZ (hE.2.2 q1 q2) fun y e1=>?_
  have fz1:=fz.le (Le.trans le le2)
  exact Tb.val (Ev.Ei ok fz1.isb BN fz1.st0 (Ev.Ca (.nm ok AG) (.bin (.nm ok AQ) (.nm ok AN) .Aw) e1 hlb)) Bz.bool
 ·exact R.DE (Rx.mkMatch (n:=n) ok Ce (.cons (.nm ok AT) (.cons (.nm ok AQ) (.cons (.nm ok AN) .nil))) fun F' v le3 hm=>En.one (h F' v (Le.trans le (Le.trans le2 le3)) (by rw[hE.1] at hm;exact hm)))
theorem Up {c:Fk}{bi:Int}(ok:Ok x (n+2) ["len","range","Match"]) (fz:c.Fz x.w F) (hla:c.la.length<1000) (hlb:c.lb.length<1000)
  (hf:((GH c.la c.lb c.ahi c.bhi 50 bi bj bs).bind fun r3=>GF c.lb c.alo c.ahi c.blo c.bhi r3)=some (ri,rj,rs))
  (h:∀F' v,Le F F'→Ec F' v ri rj rs→Q v F' (c.base V)):R x ((bodyOf (Cn x.w.params)).drop 9) F (c.sm bi bj bs d2 si sg sn sj sk) (c.base V) (fun f F' _ W=>En Q (BK f) F' W):=by
 refine(?_:R _ (_::_) _ _ _ _)
 refine Ag (Option.bind_eq_some_iff.mp hf) fun r3 hR hf=>?_
 refine R.Cu (FL c V (fun t=>GH c.la c.lb c.ahi c.bhi t) (some r3)) ?_ 50 (.mk hR)
 intro t F1 m1 W1 hI
 induction hI with|mk hh=>
 rename_i bi bj bs d2 si sg sn sj sk
 intro le
 have fz1:=fz.le le
 have lst:(bi,bj,bs)=r3→R x ((bodyOf (Cn x.w.params)).drop 10) F1 (c.sm bi bj bs d2 si sg sn sj sk) (c.base V) (fun f F' _ W=>En Q (BK f) F' W):=fun e=>Ul (r:=(bi,bj,bs)) ok fz1 hla hlb (e▸hf) fun F' v le2=>h F' v (Le.trans le le2)
 cases Uk hh with
 |go ht c1 c2 e q hh=>
  refine .t (Tb.Do (b3:=true) (b4:=true) (Tb.cmp (.bin (.nm ok AT) (.nm ok AN) .Aw) (.nm ok Al) Ac.ltI) (fun _=>Tb.cmp (.bin (.nm ok AQ) (.nm ok AN) .Aw) (.nm ok Az) Ac.ltI) (fun _ _=>Tb.not (Tb.val (Ev.Ei ok fz1.isb BN fz1.st0 (Ev.Ca (.nm ok AG) (.bin (.nm ok AQ) (.nm ok AN) .Aw) e.1 hlb)) Bz.bool)) fun _ _ _=>Tb.conv (Tb.cmp (Ev.Ca (.nm ok Ax) (.bin (.nm ok AT) (.nm ok AN) .Aw) e.2 hla) (Ev.Ca (.nm ok AG) (.bin (.nm ok AQ) (.nm ok AN) .Aw) e.1 hlb) Ac.AO) q) (by rw[c1,c2];rfl) ?_
  exact R.aug ok AN .int Da (R.nil (.mk _ ht (.mk hh)))
 |no c1 c2 e q hh=>
  exact .f (Tb.Do (b3:=true) (b4:=false) (Tb.cmp (.bin (.nm ok AT) (.nm ok AN) .Aw) (.nm ok Al) Ac.ltI) (fun _=>Tb.cmp (.bin (.nm ok AQ) (.nm ok AN) .Aw) (.nm ok Az) Ac.ltI) (fun _ _=>Tb.not (Tb.val (Ev.Ei ok fz1.isb BN fz1.st0 (Ev.Ca (.nm ok AG) (.bin (.nm ok AQ) (.nm ok AN) .Aw) e.1 hlb)) Bz.bool)) fun _ _ _=>Tb.conv (Tb.cmp (Ev.Ca (.nm ok Ax) (.bin (.nm ok AT) (.nm ok AN) .Aw) e.2 hla) (Ev.Ca (.nm ok AG) (.bin (.nm ok AQ) (.nm ok AN) .Aw) e.1 hlb) Ac.AO) q) (by rw[c1,c2];rfl) (lst hh)
 |out1 c1 hh=>exact .f (Tb.Do (b3:=true) (b4:=true) (Tb.cmp (.bin (.nm ok AT) (.nm ok AN) .Aw) (.nm ok Al) Ac.ltI) (fun _=>Tb.cmp (.bin (.nm ok AQ) (.nm ok AN) .Aw) (.nm ok Az) Ac.ltI) (fun q=>nomatch c1.symm.trans q) fun q=>nomatch c1.symm.trans q) (by rw[c1];rfl) (lst hh)
 |out2 c1 c2 hh=>exact .f (Tb.Do (b3:=true) (b4:=true) (Tb.cmp (.bin (.nm ok AT) (.nm ok AN) .Aw) (.nm ok Al) Ac.ltI) (fun _=>Tb.cmp (.bin (.nm ok AQ) (.nm ok AN) .Aw) (.nm ok Az) Ac.ltI) (fun _ q=>nomatch c2.symm.trans q) fun _ q=>nomatch c2.symm.trans q) (by rw[c1,c2];rfl) (lst hh)
theorem Uq {c:Fk}{bi:Int}(ok:Ok x (n+2) ["len","range","Match"]) (fz:c.Fz x.w F) (hla:c.la.length<1000) (hlb:c.lb.length<1000)
  (hf:((HA c.la c.lb c.alo c.blo 50 bi bj bs).bind fun r2=>(GH c.la c.lb c.ahi c.bhi 50 r2.1 r2.2.1 r2.2.2).bind fun r3=>GF c.lb c.alo c.ahi c.blo c.bhi r3)=some (ri,rj,rs))
  (h:∀F' v,Le F F'→Ec F' v ri rj rs→Q v F' (c.base V)):
  R x ((bodyOf (Cn x.w.params)).drop 8) F (c.sm bi bj bs d2 si sg sn sj sk) (c.base V) (fun f F' _ W=>En Q (BK f) F' W):=by
 refine(?_:R _ (_::_) _ _ _ _)
 refine Ag (Option.bind_eq_some_iff.mp hf) fun r2 hL hf=>?_
 refine R.Cu (FL c V (fun t=>HA c.la c.lb c.alo c.blo t) (some r2)) ?_ 50 (.mk hL)
 intro t F1 m1 W1 hI
 induction hI with|mk hh=>
 rename_i bi bj bs d2 si sg sn sj sk
 intro le
 have fz1:=fz.le le
 have lst:(bi,bj,bs)=r2→R x ((bodyOf (Cn x.w.params)).drop 9) F1 (c.sm bi bj bs d2 si sg sn sj sk) (c.base V) (fun f F' _ W=>En Q (BK f) F' W):=fun e=>Up ok fz1 hla hlb (by replace hf:=(e)▸hf;exact hf) fun F' v le2=>h F' v (Le.trans le le2)
 cases Uj hh with
 |go ht c1 c2 e q hh=>
  refine .t (Tb.Do (b3:=true) (b4:=true) (Tb.cmp (.nm ok AT) (.nm ok Ai) Ac.BV) (fun _=>Tb.cmp (.nm ok AQ) (.nm ok Ay) Ac.BV) (fun _ _=>Tb.not (Tb.val (Ev.Ei ok fz1.isb BN fz1.st0 (Ev.Ca (.nm ok AG) (.bin (.nm ok AQ) .int .Bh) e.1 hlb)) Bz.bool)) fun _ _ _=>Tb.conv (Tb.cmp (Ev.Ca (.nm ok Ax) (.bin (.nm ok AT) .int .Bh) e.2 hla) (Ev.Ca (.nm ok AG) (.bin (.nm ok AQ) .int .Bh) e.1 hlb) Ac.AO) q) (by rw[c1,c2];rfl) ?_
  exact R.IB ok AT AQ AN (s1:=.int (bi - 1)) (s2:=.int (bj - 1)) (s3:=.int (bs+1)) (.bin (.nm ok AT) .int .Bh) (.bin (.nm ok AQ) .int .Bh) (.bin (.nm ok AN) .int .Aw) fun t1 t2 t3 F2 le2=>.mk (.fq ok Da) (.fq ok FY) (.fq ok CH) (R.nil (.mk _ ht (.mk hh)))
 |no c1 c2 e q hh=>
  exact .f (Tb.Do (b3:=true) (b4:=false) (Tb.cmp (.nm ok AT) (.nm ok Ai) Ac.BV) (fun _=>Tb.cmp (.nm ok AQ) (.nm ok Ay) Ac.BV) (fun _ _=>Tb.not (Tb.val (Ev.Ei ok fz1.isb BN fz1.st0 (Ev.Ca (.nm ok AG) (.bin (.nm ok AQ) .int .Bh) e.1 hlb)) Bz.bool)) fun _ _ _=>Tb.conv (Tb.cmp (Ev.Ca (.nm ok Ax) (.bin (.nm ok AT) .int .Bh) e.2 hla) (Ev.Ca (.nm ok AG) (.bin (.nm ok AQ) .int .Bh) e.1 hlb) Ac.AO) q) (by rw[c1,c2];rfl) (lst hh)
 |out1 c1 hh=>exact .f (Tb.Do (b3:=true) (b4:=true) (Tb.cmp (.nm ok AT) (.nm ok Ai) Ac.BV) (fun _=>Tb.cmp (.nm ok AQ) (.nm ok Ay) Ac.BV) (fun q=>nomatch c1.symm.trans q) fun q=>nomatch c1.symm.trans q) (by rw[c1];rfl) (lst hh)
 |out2 c1 c2 hh=>exact .f (Tb.Do (b3:=true) (b4:=true) (Tb.cmp (.nm ok AT) (.nm ok Ai) Ac.BV) (fun _=>Tb.cmp (.nm ok AQ) (.nm ok Ay) Ac.BV) (fun _ q=>nomatch c2.symm.trans q) fun _ q=>nomatch c2.symm.trans q) (by rw[c1,c2];rfl) (lst hh)
inductive FIS (c:Fk) (t:Nat) (j2:List (Int×Int)) (bi bj bs:Int) (RES:Option (Int×Int×Int)):Prop
 |mk {ca nj' bi' bj' bs'}:Be c.la (c.alo+t)=some ca→Cp (c.alo+t) c.blo c.bhi j2 (Ba c.lb ca) [] bi bj bs=some (nj',bi',bj',bs')→GG c.la c.lb c.blo c.bhi ((c.ahi - c.alo).toNat - (t+1)) (c.alo+(t+1:Nat)) nj' bi' bj' bs'=RES→FIS c t j2 bi bj bs RES
theorem Uh {c:Fk}{t:Nat}{bi:Int}{r:Int×Int×Int}(ht:t<(c.ahi - c.alo).toNat) (h:GG c.la c.lb c.blo c.bhi ((c.ahi - c.alo).toNat - t) (c.alo+t) j2 bi bj bs=some r):FIS c t j2 bi bj bs (some r):=by
 rw[show(c.ahi - c.alo).toNat - t=(c.ahi - c.alo).toNat - (t+1)+1 by exact Go ‹_›] at h
 have h:(ET c.la c.lb (c.alo+t)).elim none (fun ps=>(Cp (c.alo+t) c.blo c.bhi j2 ps [] bi bj bs).elim none fun r=>GG c.la c.lb c.blo c.bhi ((c.ahi - c.alo).toNat - (t+1)) (c.alo+t+1) r.1 r.2.1 r.2.2.1 r.2.2.2)=some r:=h
 unfold ET at h
 cases hc:Be c.la (c.alo+t) with
 |none=>rw[hc] at h;cases h
 |some ca=>
  rw[hc] at h
  cases hq:Cp (c.alo+t) c.blo c.bhi j2 (Ba c.lb ca) [] bi bj bs with
  |none=>rw[show Option.map (Ba c.lb) (some ca)=some (Ba c.lb ca) from rfl,Option.elim_some,hq] at h;cases h
  |some q=>
   rw[show Option.map (Ba c.lb) (some ca)=some (Ba c.lb ca) from rfl,Option.elim_some,hq] at h
   exact .mk hc hq (by rw[show c.alo+((t+1:Nat):Int)=c.alo+t+1 by lia];exact h)
inductive FJS (i blo bhi:Int) (j2 nj:List (Int×Int)) (ps:List Nat) (t j:Nat) (bi bj bs:Int) (RES:Option (List (Int×Int)×Int×Int×Int)):Prop
 |lt:decide ((j:Int)<blo)=true→Cp i blo bhi j2 (ps.drop (t+1)) nj bi bj bs=RES→FJS i blo bhi j2 nj ps t j bi bj bs RES
 |brk:decide ((j:Int)<blo)=false→decide ((j:Int)≥bhi)=true→some (nj,bi,bj,bs)=RES→FJS i blo bhi j2 nj ps t j bi bj bs RES
 |go {k:_}:decide ((j:Int)<blo)=false→decide ((j:Int)≥bhi)=false→(j:Int) ∉ nj.map (·.1)→nj.length≤900→k=jl j2 (j - 1)+1→(decide (k>bs)=true→Cp i blo bhi j2 (ps.drop (t+1)) (nj++[((j:Int),k)]) (i - k+1) (j - k+1) k=RES)→
   (decide (k>bs)=false→Cp i blo bhi j2 (ps.drop (t+1)) (nj++[((j:Int),k)]) bi bj bs=RES)→FJS i blo bhi j2 nj ps t j bi bj bs RES
theorem Ui {i:Int}{nj:List (Int×Int)}{ps:List Nat}{t j:Nat}{bi:Int}{r:List (Int×Int)×Int×Int×Int}(hj:ps[t]? =some j) (h:Cp i blo bhi j2 (ps.drop t) nj bi bj bs=some r):FJS i blo bhi j2 nj ps t j bi bj bs (some r):=by
 rw[EV hj,Cp] at h
 split at h
 ·rename_i h1
  exact .lt (eU h1) h
 rename_i h1
 split at h
 ·rename_i h2
  exact .brk (eV h1) (eU h2) h
 rename_i h2
 split at h
 ·cases h
 rename_i hn
 have hn:=Bool.or_eq_false_iff.mp (Bool.not_eq_true _▸hn)
 have hl:=of_decide_eq_false hn.2
 refine .go (eV h1) (eV h2) (fun q=>by replace hn:=(List.contains_iff_mem.mpr q)▸hn;cases hn.1) (Nat.le_of_not_ge ‹_›) rfl (fun hb=>?_) fun hb=>?_
 ·rw[if_pos (ee hb)] at h;exact h
 ·rw[if_neg (of_decide_eq_false hb)] at h;exact h
theorem SI (h:AU (intKind P0 w) kvs o):∀q,o.data≠.cls q:=by
 obtain⟨-,es,ep,he, -⟩:=h
 intro q c
 replace c:=(he)▸c
 cases c
theorem WE {ps:List (Int×Int)}(h:Dj kvs ps) (hl:ps.length≤900):kvs.length≤1000:=by
 have:=congrArg List.length h.1
 rw[eM,eM] at this
 exact KK ‹_› ‹_› rfl
noncomputable abbrev Fk.bb (c:Fk):Sm:=[("self",.val (.ref c.o)),("alo",.int c.alo),("ahi",.int c.ahi),("blo",.int c.blo),("bhi",.int c.bhi),("a",.str (tx c.la)),("b",.str (tx c.lb)),("b2j",.val (.ref c.D)),("isbjunk",.val (.ref c.isb)),("besti",.any),("bestj",.any),("bestsize",.any),("j2len",.any),("nothing",.any),("i",.any),("j2lenget",.any),("newj2len",.any),("j",.any),("k",.any)]
theorem Ur {c:Fk}{t:Nat}{bi:Int}{RES:Option (Int×Int×Int)}{Q:Flow→FM→Sm→Aa→Prop}(ok:Ok x (n+2) ["len","range","Match"]) (fz:c.Fz x.w F) (hla:c.la.length<1000)
  (hd2:(d2==sysModules)=false) (hdc:Dc (intKind P0 x.w) F d2 kvs) (hj2:Dj kvs j2) (hs:FIS c t j2 bi bj bs RES) (h:∀F' m' W,FI c x.w V RES (t+1) F' m' W→Q .next F' m' W):
  R x (Du true (bodyOf (Cn x.w.params))[7]?) F (c.sm bi bj bs d2 (.int (c.alo+t)) sg sn sj sk) (c.base V) Q:=by
 refine(?_:R _ (_::_) _ _ _ _)
 cases hs with|mk hca hr hff=>
 rename_i ca nj' bi' bj' bs'
 refine Ag hdc fun od ho1 hP=>?_
 refine R.Bi ok (Rx.KU UW PySem.F.slot_dict_get PySem.F.type_dict_get Yf (.nm ok HG) ho1 hP.ty.1 hP.ty.2 (SI hP) fun F1 jg le1 hjg=>As.fC Ow ?_)
 refine R.Bi ok (Rx.IN (intKind P0 x.w) fun nd hnd=>As.fC Ox ?_)
 have fz1:=fz.le le1
 refine fz1.b2j.get fz1.no|>.elim fun hDs q=>Ag q fun kv hDc hget=>Bk (hget ca) fun al vs hv1 hv2 hv3=>?_
 refine R.DP ok (Ba c.lb ca).length (fun i v=>∃j,(Ba c.lb ca)[i]? =some j∧DG v j) (FJ c x.w V (c.alo+t) d2 jg nd j2 (Ba c.lb ca) (some (nj',bi',bj',bs')))
  (Rx.IM ok BM hDs hDc (Ev.Ca (.nm ok Ax) (.nm ok Jp) hca hla) (.nm ok M0) (by simp only[hv1];exact⟨.Ba hv2 hv3,.mk .nil hr⟩)) ?_ ?_
 ·intro i F2 m2 W2 v hi hJ
  induction hJ with|mk hnj hff2=>
  rename_i bi bj bs kvs2 nj sj sk
  intro hv le2
  refine Ag hv fun j hj hv=>?_
  refine .mk (Au.loc ok (s:=.int j) (hv.elim fun t e=>⟨t,congrArg some e⟩) Oy) ?_
  have done:∀{bi bj bs:Int}{nj:List (Int×Int)},some (nj,bi,bj,bs)=some (nj',bi',bj',bs')→GG c.la c.lb c.blo c.bhi ((c.ahi - c.alo).toNat - (t+1)) (c.alo+(t+1:Nat)) nj bi bj bs=RES:=fun e=>by
   cases e;exact hff
  cases Ui hj hff2 with
  |lt h1 hff2=>exact R.B2 (Tb.cmp (.nm ok DT) (.nm ok Ay) Ac.ltI) h1 (R.cnt (.mk hnj hff2))
  |brk h1 h2 e=>
   refine R.A3 (Tb.cmp (.nm ok DT) (.nm ok Ay) Ac.ltI) h1 (R.nil (R.next ?_))
   refine R.B2 (Tb.cmp (.nm ok DT) (.nm ok Az) Ac.DQ) h2 (R.brk ?_)
   refine(?_:R x _ F2 _ _ _)
   exact R.AC ok (.nm ok HH) G5 (R.AY fun F7 o le7 h1 h2=>R.nil (h _ _ _ (.mk hnd (Ak o h1 h2) hnj (done e))))
  |go h1 h2 hnin hnl hk ha hb=>
   rename_i k
   refine R.A3 (Tb.cmp (.nm ok DT) (.nm ok Ay) Ac.ltI) h1 (R.nil (R.next ?_))
   refine R.A3 (Tb.cmp (.nm ok DT) (.nm ok Az) Ac.DQ) h2 (R.nil (R.next ?_))
   refine R.Q7 (r:=k) ok (Ev.to (Ev.bin (Ev.IG (ps:=j2) (r:=jl j2 (j - 1)) ok (le2 _ _ hjg) M1 hd2 (Ak od (le2 _ _ (le1 _ _ ho1)) hP) hj2 (.bin (.nm ok DT) .int .Bh) .int rfl) .int Aq.Aw) (congrArg Sp.int hk.symm)) ZG HH (.nm ok DT) (fun v=>CG) (fun t'=>?_) (WE hnj hnl)
   refine R.BE (Tb.cmp (.nm ok HI) (.nm ok AN) Ac.BV) (fun hb3=>?_) (fun hb3=>R.nil (R.next (R.nil (.mk (hnj.snoc hnin) (hb hb3)))))
   exact R.IB ok AT AQ AN (s1:=.int (c.alo+t - k+1)) (s2:=.int (j - k+1)) (s3:=.int k) (.bin (.bin (.nm ok Jp) (.nm ok HI) .Bh) .int .Aw) (.bin (.bin (.nm ok DT) (.nm ok HI) .Bh) .int .Aw) (.nm ok HI) fun t1 t2 t3 F3 le3=>.mk (.fq ok Da) (.fq ok FY) (.fq ok CH) (R.nil (R.next (R.nil (.mk (hnj.snoc hnin) (ha hb3)))))
 ·intro F2 m2 W2 hJ
  induction hJ with|mk hnj hff2=>
  rename_i bi bj bs kvs2 nj sj sk
  intro le2
  rw[List.drop_length,Cp] at hff2
  exact R.AC ok (.nm ok HH) G5 (R.AY fun F7 o le7 h1 h2=>R.nil (h _ _ _ (.mk hnd (Ak o h1 h2) hnj (by cases hff2;exact hff))))
theorem Um {c:Fk}(ok:Ok x (n+2) ["len","range","Match"]) (fz:c.Fz x.w F) (hd2:(d2==sysModules)=false) (hdc:Dc (intKind P0 x.w) F d2 []) (hla:c.la.length<1000) (hlb:c.lb.length<1000) (hal:0≤c.alo) (hal2:c.alo≤1000) (hah:0≤c.ahi) (hah2:c.ahi≤1000)
  (hf:B1 c.la c.lb c.alo c.ahi c.blo c.bhi=some (ri,rj,rs)) (h:∀F' v,Le F F'→Ec F' v ri rj rs→Q v F' (c.base V)):
  R x ((bodyOf (Cn x.w.params)).drop 7) F (c.sm c.alo c.blo 0 d2 .any .any .any .any .any) (c.base V) (fun f F' _ W=>En Q (BK f) F' W):=by
 refine(?_:R _ (_::_) _ _ _ _)
 refine Ag (Option.bind_eq_some_iff.mp hf) fun r1 hf1 hf2=>?_
 refine R.DP ok (c.ahi - c.alo).toNat (fun t v=>(Sp.int (c.alo+t*1)).ok (some v)) (FI c x.w V (some r1)) (Rx.H4 ok Bx (.nm ok Ai) (.nm ok Al) fun F' r le hr=>⟨.rg hr (bf hal hal2 hah hah2) (Z4 _ _),.mk hd2 (hdc.le le) .nil (by simp only[Nat.sub_zero,Int.natCast_zero,Int.add_zero];exact hf1)⟩) ?_ ?_
 ·intro t F1 m1 W1 v ht hI
  induction hI with|mk hd2 hdc hj2 hff=>
  rename_i bi bj bs d2 kvs j2 si sg sn sj sk
  intro hv le1
  refine .mk (Au.loc (s:=.int (c.alo+t)) ok (by rw[Int.mul_one] at hv;exact hv) Ov) ?_
  exact Ur ok (fz.le le1) hla hd2 hdc hj2 (Uh ht hff) fun _ _ _ q=>q
 ·intro F1 m1 W1 hI
  induction hI with|mk hd2 hdc hj2 hff=>
  rename_i bi bj bs d2 kvs j2 si sg sn sj sk
  intro le1
  rw[Nat.sub_self] at hff
  have hff:some (bi,bj,bs)=some _:=hff
  exact Uq ok (fz.le le1) hla hlb (by rw[←ed hff] at hf2;exact hf2) fun F' v le hm=>h F' v (Le.trans le1 le) hm
theorem Un {c:Fk}(ok:Ok x (n+2) ["len","range","Match"])
  (hB:Bs x.w F c.D c.lb) (hS:BB F c.jk) (hI:Bd F c.isb "set.__contains__" c.jk) (hla:c.la.length<1000) (hlb:c.lb.length<1000) (hal:0≤c.alo) (hal2:c.alo≤1000) (hah:0≤c.ahi) (hah2:c.ahi≤1000)
  (hf:B1 c.la c.lb c.alo c.ahi c.blo c.bhi=some (ri,rj,rs)) (h:∀F' v,Le F F'→Ec F' v ri rj rs→Q v F' (c.base V)):
  R x ((bodyOf (Cn x.w.params)).drop 4) F c.bb (c.base V) (fun f F' _ W=>En Q (BK f) F' W):=by
 refine(?_:R _ (_::_) _ _ _ _)
 refine R.IB ok AT AQ AN (s1:=.int c.alo) (s2:=.int c.blo) (s3:=.int 0) (.nm ok Ai) (.nm ok Ay) .int fun t1 t2 t3 F1 le1=>.mk (.fq ok Da) (.fq ok FY) (.fq ok CH) ?_
 refine R.Bi ok (Rx.IN (intKind P0 x.w) fun d2 hd2=>As.fC G5 (R.AY fun F2 od le2 hod hdc=>?_))
 refine R.Bi ok (Rx.DZ .nil fun no=>As.fC Ou (R.Ds fun F3 le3 hno=>?_))
 have le13:Le F F3:=Le.trans le1 (Le.trans le2 le3)
 exact Um (c:={c with no:=no}) ok ⟨hB.le le13,hS.le le13,le13 _ _ hI,hno⟩ hd2 ⟨od,le3 _ _ hod,hdc⟩ hla hlb hal hal2 hah hah2 hf fun F' v le hm=>h F' v (Le.trans le13 le) hm
theorem Lz {i:Int}(h:(v= .none∧i=n)∨∃t,v= .int i t):∃s:Sp,s.ok (some v)∧((s= .val .none∧i=n)∨s= .int i):=by
 rcases h with ⟨rfl,e⟩|⟨t,rfl⟩
 ·exact⟨.val .none,rfl,.inl ⟨rfl,e⟩⟩
 ·exact⟨.int i,⟨t,rfl⟩,.inr rfl⟩
noncomputable abbrev Fk.H9 (c:Fk) (sb sd:Sp):Sm:=[("self",.val (.ref c.o)),("alo",.int c.alo),("ahi",sb),("blo",.int c.blo),("bhi",sd),("a",.str (tx c.la)),("b",.str (tx c.lb)),("b2j",.val (.ref c.D)),("isbjunk",.val (.ref c.isb)),("besti",.any),("bestj",.any),("bestsize",.any),("j2len",.any),("nothing",.any),("i",.any),("j2lenget",.any),("newj2len",.any),("j",.any),("k",.any)]
theorem Us {c:Fk}{Q:Flow→FM→Sm→Aa→Prop}(ok:Ok x (n+2) ["len","range","Match"]) (hlb:c.lb.length<1000) (hd:(sd= .val .none∧c.bhi=c.lb.length)∨sd= .int c.bhi) (main:R x ((bodyOf (Cn x.w.params)).drop 4) F (c.H9 (.int c.ahi) (.int c.bhi)) V Q):R x ((bodyOf (Cn x.w.params)).drop 3) F (c.H9 (.int c.ahi) sd) V Q:=by
 refine(?_:R _ (_::_) _ _ _ _)
 rcases hd with ⟨e,e2⟩|e<;>rw[e]
 ·exact R.B2 (Tb.cmp (.nm ok Az) .none Ac.GN) rfl (R.AC ok (Ev.to (Ev.Bv ok AK (.nm ok AG) (by rw[Av];exact ec (ea ‹_› (d7 rfl)))) (by rw[Av,←e2])) BF (R.nil (R.next main)))
 ·exact R.A3 (Tb.cmp (.nm ok Az) .none Ac.Nf) rfl (R.nil (R.next main))
theorem Uo {c:Fk}{sb:Sp}{Q:Flow→FM→Sm→Aa→Prop}(ok:Ok x (n+2) ["len","range","Match"]) (hla:c.la.length<1000) (hb:(sb= .val .none∧c.ahi=c.la.length)∨sb= .int c.ahi) (main:R x ((bodyOf (Cn x.w.params)).drop 3) F (c.H9 (.int c.ahi) sd) V Q):R x ((bodyOf (Cn x.w.params)).drop 2) F (c.H9 sb sd) V Q:=by
 refine(?_:R _ (_::_) _ _ _ _)
 rcases hb with ⟨e,e2⟩|e<;>rw[e]
 ·exact R.B2 (Tb.cmp (.nm ok Al) .none Ac.GN) rfl (R.AC ok (Ev.to (Ev.Bv ok AK (.nm ok Ax) (by rw[Av];exact ec (ea ‹_› (d7 rfl)))) (by rw[Av,←e2])) put2 (R.nil (R.next main)))
 ·exact R.A3 (Tb.cmp (.nm ok Al) .none Ac.Nf) rfl (R.nil (R.next main))
theorem L7 {o D jk:Addr}{args:List Value}{la lb:List Nat}{ta tb t1:Tok}{vb vd:Value}(rm:Rm (n+3) A)
  (hbind:∀s:Shared,(∀a o,(cx w os).F0 a=some o→s.heap.get? a=some o)→BindsTo s (Cn w.params) ⟨.ref o::args,[]⟩ [("self",.ref o),("alo",.int alo t1),("ahi",vb),("blo",.int blo t3),("bhi",vd)])
  (hb:(vb= .none∧ahi=la.length)∨∃t,vb= .int ahi t) (hd:(vd= .none∧bhi=lb.length)∨∃t,vd= .int bhi t) (hB:Bs w F D lb) (hS:BB F jk) (hla:la.length<1000) (hlb:lb.length<1000) (hal:0≤alo) (hal2:alo≤1000) (hah:0≤ahi) (hah2:ahi≤1000)
  (hf:B1 la lb alo ahi blo bhi=some (ri,rj,rs)) (h:∀F' v,Le F F'→Ec F' v ri rj rs→Q v F' ((o,AH dx)::(dx,atS (AW isj (.val (.str (tx la) ta)) (.val (.str (tx lb) tb)) aj (.val (.ref D)) (.val (.ref jk))))::V)):
  RV (cx w os) A (.call (.ref 213) ⟨.ref o::args,[]⟩) F ((o,AH dx)::(dx,atS (AW isj (.val (.str (tx la) ta)) (.val (.str (tx lb) tb)) aj (.val (.ref D)) (.val (.ref jk))))::V) Q:=by
 refine Ag (Lz hb) fun sb hsb hb=>Ag (Lz hd) fun sd hsd hd=>?_
 refine RV.FN ["self","alo","ahi","blo","bhi","a","b","b2j","isbjunk","besti","bestj","bestsize","j2len","nothing","i","j2lenget","newj2len","j","k"] ["len","range","Match"]
  [("self",.val (.ref o)),("alo",.int alo),("ahi",sb),("blo",.int blo),("bhi",sd),("a",.any),("b",.any),("b2j",.any),("isbjunk",.any),("besti",.any),("bestj",.any),("bestsize",.any),("j2len",.any),("nothing",.any),("i",.any),("j2lenget",.any),("newj2len",.any),("j",.any),("k",.any)] rm (Jd w os) hbind (by kernel_rfl) (by kernel_rfl) (by rfl) ⟨rfl,⟨_,rfl⟩,hsb,⟨_,rfl⟩,hsd,trivial,trivial,trivial,trivial,trivial,trivial,trivial,trivial,trivial,trivial,trivial,trivial,trivial,trivial,trivial⟩ ?_
 rintro x ok rfl -
 refine(?_:R _ (_::_) _ _ _ _)
 refine R.doc ok ?_
 refine hS.elim fun oj q=>q.2.elim fun led hj3=>?_
 have hj1:=q.1
 refine R.Q4 ok (Rx.dL (s1:=.val (.str (tx la) ta)) (s2:=.val (.str (tx lb) tb)) (s3:=.val (.ref D)) (Ev.at ok has0 has0 Ai Ai GZ) (Ev.at ok has0 has0 Ai Al G0) (Ev.at ok has0 has0 Ai BM NY)
  (Rx.KU UY PySem.F.slot_set_contains dR Ye (Ev.at ok has0 has0 Ai BN NZ) hj1 (by exact congrArg _ (hj3)) (by exact congrArg _ (hj3)) (by rw[hj3];intro q e;cases e) fun F1 isb le1 hib F2 t le2 ht=>.mk rfl ht (.loc ok (s:=.str (tx la)) ⟨_,rfl⟩ Br) (.loc ok (s:=.str (tx lb)) ⟨_,rfl⟩ Db) (.loc ok (s:=.val (.ref D)) rfl D5) (.loc ok (s:=.val (.ref isb)) rfl put8) ?_))
 have le:=Le.trans le1 le2
 exact Uo (c:=⟨o,dx,D,jk,isb,0,alo,ahi,blo,bhi,la,lb,ta,tb,isj,aj⟩) ok hla hb (Us ok hlb hd (Un (V:=V) ok (hB.le le) (hS.le le) (le2 _ _ hib) hla hlb hal hal2 hah hah2 hf fun F' v le3 hm=>h F' v (Le.trans le le3) hm))
section
variable {α:Type}(lt:α→α→Bool)
noncomputable def Dd (start:Nat) (new:α):Nat→List α→Nat→List α
 |0,its,pos=>its.set pos new
 |k+1,its,pos=>bif decide (pos>start) then(its[(pos - 1) / 2]?).elim (its.set pos new) fun p=>bif lt new p then Dd start new k (its.set pos p) ((pos - 1) / 2) else its.set pos new else its.set pos new
noncomputable def DC (its:List α) (x:α):List α:=Dd lt 0 x its.length (its++[x]) its.length
noncomputable def CF (its:List α) (e c:Nat):Nat:=bif decide (c+1<e) then(its[c]?).elim c fun a=>(its[c+1]?).elim c fun b=>bif lt a b then c else c+1 else c
noncomputable def Df (e:Nat) (new:α) (start:Nat):Nat→List α→Nat→List α
 |0,its,pos=>Dd lt start new pos (its.set pos new) pos
 |k+1,its,pos=>bif decide (2*pos+1<e) then(its[CF lt its e (2*pos+1)]?).elim its fun p=>Df e new start k (its.set pos p) (CF lt its e (2*pos+1)) else Dd lt start new pos (its.set pos new) pos
noncomputable def Fi (its:List α) (x:α):List α:=Df lt its.length x 0 its.length its 0
noncomputable def Fh (its:List α):Option (α×List α):=(its.getLast?).elim none fun z=>some ((its.dropLast.head?).elim (z,[]) fun t=>(t,Fi lt (z::its.dropLast.tail) z))
end
section
variable {α:Type}{lt:α→α→Bool}
theorem JZ (start:Nat) (new:α) (k:Nat):∀(its:List α) (pos:Nat),(Dd lt start new k its pos).length=its.length:=by
 induction k with
 |zero=>intro its pos;exact e9
 |succ k ih=>
  intro its pos
  simp only[Dd]
  cases decide (pos>start) with
  |false=>exact e9
  |true=>cases its[(pos - 1) / 2]? with
   |none=>exact e9
   |some p=>
    dsimp only[cond_true,Option.elim]
    cases lt new p with
    |false=>exact e9
    |true=>exact(ih ..).trans e9
theorem cN (e:Nat) (new:α) (start k:Nat):∀(its:List α) (pos:Nat),(Df lt e new start k its pos).length=its.length:=by
 induction k with
 |zero=>intro its pos;exact(JZ ..).trans e9
 |succ k ih=>
  intro its pos
  simp only[Df]
  cases decide (2*pos+1<e) with
  |false=>exact(JZ ..).trans e9
  |true=>cases its[CF lt its e (2*pos+1)]? with
   |none=>rfl
   |some p=>exact(ih ..).trans e9
theorem Xb {its:List α}{e c:Nat}(h:c<e):CF lt its e c<e∧c≤CF lt its e c:=by
 have h0:c<e∧c≤c:=⟨h,eh c⟩
 unfold CF
 cases hd:decide (c+1<e) with
 |false=>exact h0
 |true=>cases its[c]? with
  |none=>exact h0
  |some a=>cases its[c+1]? with
   |none=>exact h0
   |some b=>
    dsimp only[cond_true,Option.elim]
    cases lt a b with
    |true=>exact h0
    |false=>exact⟨ee hd,Nat.le_succ c⟩
end
noncomputable def Gc:Nat→Itm→Nat→List Itm→Nat→List Itm:=Dd ltB
noncomputable def By:List Itm→Itm→List Itm:=DC ltB
noncomputable def kid:List Itm→Nat→Nat→Nat:=CF ltB
noncomputable def sup:Nat→Itm→Nat→Nat→List Itm→Nat→List Itm:=Df ltB
noncomputable def Ew:List Itm→Itm→List Itm:=Fi ltB
noncomputable def Cf:List Itm→Option (Itm×List Itm):=Fh ltB
theorem Xe {e ch:Nat}(h:ch<e):kid its e ch<e∧ch≤kid its e ch:=Xb h
def IP (P:Value→Prop) (F:FM) (v:Value) (p:Itm):Prop:=It F v p∧P v
abbrev AR (P:Value→Prop) (F:FM) (vs:List Value) (its:List Itm):Prop:=Af (IP P F) vs its
theorem IP.le {P:Value→Prop}{p:Itm}(h:IP P F v p) (l:Le F F'):IP P F' v p:=⟨h.1.le l,h.2⟩
theorem AR.le {P:Value→Prop}{ps:List Itm}(h:AR P F vs ps) (l:Le F F'):AR P F' vs ps:=h.mono fun _ _ x=>x.le l
theorem Af.set {α:Type}{R:Value→α→Prop}{ps:List α}{p:α}(h:Af R vs ps) (i:Nat) (hv:R v p):Af R (vs.set i v) (ps.set i p):=by
 induction h generalizing i with
 |nil=>exact .nil
 |cons a b ih=>cases i with|zero=>exact .cons hv b|succ i=>exact .cons a (ih i)
theorem Af.bo {α:Type}{R:Value→α→Prop}{is:List α}{z:α}(h:Af R vs (is++[z])):∃us v,vs=us++[v]∧Af R us is∧R v z:=by
 induction is generalizing vs with
 |nil=>cases h with|cons a b=>cases b;exact Bg ([]) _ rfl .nil a
 |cons p is ih=>cases h with
  |cons a b=>
   obtain⟨us,v,rfl,h1,h2⟩:=ih b
   exact Bg (_::us) v rfl (.cons a h1) h2
theorem Aq.OS {i:Int}(h:0≤i):Aq .RShift (.int i) (.int 1) (.int (i / 2)):=by rintro c A F V _ _ Q ⟨t,⟨⟩⟩ ⟨u,⟨⟩⟩ hq;exact Run.aN h fun k=>hq _ ⟨k,rfl⟩
theorem Aq.NT {i:Int}:Aq .Mult (.int 2) (.int i) (.int (2*i)):=by rintro c A F V _ _ Q ⟨t,⟨⟩⟩ ⟨u,⟨⟩⟩ hq;exact Run.Yt (fun k=>hq _ ⟨k,rfl⟩) (.of_left (by decide+kernel))
section
variable {s:Sp}{Q:Flow→FM→Sm→Aa→Prop}
theorem Tb.GX {a b:Itm}(ok:Ok x n gs) (h1:Ev x F m V e1 (.val v)) (h2:Ev x F m V e2 (.val v2)) (ha:It F v a) (hb:It F v2 b) (hm:autoParam (behindInMarks .Lt e2=false) aU):Tb x F m V (.Compare e1 [.Lt] [e2] p) (ltB a b):=fun K Vf ft=>
 .DF ((h1 K Vf ft).mono fun v1 _ V1 qz=>Bj qz fun a f1 o1=>by rw[a];exact(h2 K V1 f1).mono fun v2 _ V2 qz=>Bj qz fun a f2 o2=>by rw[a];obtain rfl:=ed o1;obtain rfl:=ed o2;exact Run.GX ok.rm ha hb (FP _ rfl rfl f2 rfl)) hm
theorem R.D7 {k:Int}{V':Value→Aa}(ok:Ok x n gs) (h:Ev x F m V e s) (h0:Ad id_ (.val (.ref l)) m) (hi:Ev x F m V e1 (.int k)) (hd:∀v,Aj l (Ab vs) (Ab (vs.set i v)) V (V' v)) (hk:k=i) (hn:i<vs.length) (hb:vs.length<100000)
  (kk:s.fm fun v=>R x rest F m (V' v) Q) (hs:autoParam (swapsWith e (some (.Subscript (.Name id_ p2) e1 p3)) p.line x.env=(Pure.pure false:Sem Bool)) aU):R x (.Assign [.Subscript (.Name id_ p2) e1 p3] e p::rest) F m V Q:=.ki fun K Vf Q' ft kq=>Run.cons (Run.Q8 (h.fu ft fun V1 v f1 hv=>Run.C1 ok h0 f1 (hi.kI Sb.refl fun V2 u f2=>Run.fit f2.fit (Run.D7 (.tail (hd v).app) hk (by lia) hn ((Sp.BJ (P:=fun v=>R x rest F m (V' v) Q) hv kk).fu Sb.refl kq)))) hs)
theorem Rx.pop (ok:Ok x n gs) (h0:Ad id_ (.val (.ref l)) m) (hl:Aj l (Ab (vs++[v])) (Ab vs) V V') (hs:vs.length≤100000) (k:QV v F V')
  (hline:autoParam ((apos.endLine==pos.line)=true) aU):Rx x F m V (.Call (.Attribute (.Name id_ q) (Str.ofString "pop") apos) [] [] pos) QV:=.ki fun K Vf Q' ft kk=>.Es (Run.C1 ok h0 ft (Run.Yn (t:=fun i=>callWith pos (.builtin i) [.ref l] (backTo pos (starEach [] x.env)) []) (.tail hl.has.app) PySem.F.slot_list_pop PySem.F.type_list_pop (Run.Sz (Run.Rj (.tail hl.app) hs (kk v F _ V' (Le.refl _) Sb.refl k))))) rfl rfl hline
end
noncomputable abbrev ak (l:Addr) (start pos:Nat) (v:Value) (pp par:Sp):Sm:=[("heap",.val (.ref l)),("startpos",.int start),("pos",.int pos),("newitem",.val v),("parentpos",pp),("parent",par)]
inductive SdI (P:Value→Prop) (l:Addr) (start:Nat) (v:Value) (new:Itm) (N:Nat) (V:Aa) (T:List Itm) (pos:Nat) (F:FM):Sm→Aa→Prop
 |mk {its vs pp par k:_}:AR P F vs its→IP P F v new→its.length=N→pos<N→pos≤k→Gc start new k its pos=T→SdI P l start v new N V T pos F (ak l start pos v pp par) ((l,Ab vs)::V)
inductive SdS (its:List Itm) (new:Itm) (start pos:Nat) (T:List Itm):Prop
 |up {p k:_}:decide ((pos:Int)>start)=true→0<pos→its[(pos - 1) / 2]? =some p→(pos - 1) / 2<pos→ltB new p=true→(pos - 1) / 2≤k→Gc start new k (its.set pos p) ((pos - 1) / 2)=T→SdS its new start pos T
 |stay {p:_}:decide ((pos:Int)>start)=true→0<pos→its[(pos - 1) / 2]? =some p→(pos - 1) / 2<pos→ltB new p=false→its.set pos new=T→SdS its new start pos T
 |top:decide ((pos:Int)>start)=false→its.set pos new=T→SdS its new start pos T
theorem am {T:List Itm}{new:Itm}{start pos:Nat}(hs:Gc start new k its pos=T) (hk:pos≤k) (hl:pos<its.length):SdS its new start pos T:=by
 by_cases hb:pos>start
 ·have hb':decide ((pos:Int)>start)=true:=eU (Int.ofNat_lt.mpr ‹_›)
  obtain⟨p,hp⟩:∃p,its[(pos - 1) / 2]? =some p:=⟨_,eN (Qn ‹_›)⟩
  cases k with
  |zero=>lia
  |succ k=>
  have hs:=Lx hp (Gq (eU hb) hs)
  cases q:ltB new p with
  |true=>exact .up hb' (eb (d7 rfl) ‹_›) hp (Kz ‹_›) q (Qo ‹_›) (Gq q hs)
  |false=>exact .stay hb' (eb (d7 rfl) ‹_›) hp (Kz ‹_›) q (Gp q hs)
 ·refine .top (eV (by lia)) ?_
  cases k with
  |zero=>exact hs
  |succ k=>exact Gp (eV hb) hs
theorem MZ {pos:Nat}(h:0<pos):Sp.int (((pos:Int) - 1) / 2)=Sp.int (((pos - 1) / 2:Nat):Int):=by rw[show(((pos:Int) - 1) / 2)=((pos - 1) / 2:Nat) by exact QC ‹_›]
theorem OT {P:Value→Prop}{start pos:Nat}{new:Itm}(rm:Rm (n+1) A) (hi:AR P F vs its) (hp:its[pos]? =some new) (hsz:its.length<10000)
  (h:∀F' vs',Le F F'→AR P F' vs' (Gc start new pos its pos)→Q .none F' ((l,Ab vs')::V)):
  RV (cx w os) A (.call (.ref 329) ⟨[.ref l,.int start t,.int pos u],[]⟩) F ((l,Ab vs)::V) Q:=by
 refine RV.fn ["heap","startpos","pos","newitem","parentpos","parent"] [] [("heap",.val (.ref l)),("startpos",.int start),("pos",.int pos),("newitem",.any),("parentpos",.any),("parent",.any)] rm (Jg w os) (binds:=[("heap",.ref l),("startpos",.int start t),("pos",.int pos u)]) rfl (by kernel_rfl) (by kernel_rfl) (by rfl) (HK rfl ⟨_,rfl⟩ ⟨_,rfl⟩ trivial trivial trivial trivial) ?_
 rintro x ok - -
 refine(?_:R _ (_::_) _ _ _ _)
 have hlt:pos<its.length:=(List.getElem?_eq_some_iff.mp hp).1
 refine Ag (hi.get hp) fun v hv hit=>?_
 have hvl:=hi.len
 refine R.AC ok (s:=.val v) (Ev.B9 (k:=pos) (.nm ok has0) (.nm ok Al) .head hv rfl (by lia) rfl) put3 ?_
 refine R.Cu (SdI P l start v new its.length V (Gc start new pos its pos)) ?_ pos (.mk hi hit rfl hlt (eh _) rfl)
 intro pos2 F1 m1 W1 hI
 induction hI with|mk hi2 hit2 hlen hlt2 hk hs=>
 rename_i its2 vs2 pp par k
 intro le
 have hps:pos2<10000:=ez hlt2 hsz
 have hvl2:vs2.length=its.length:=hi2.len.trans hlen
 have hv1:pos2<vs2.length:=hvl2▸hlt2
 have hv2:vs2.length<100000:=hvl2▸ez hsz (by decide)
 cases am hs hk (hlen▸hlt2) with
 |up hb h0 hp2 hlt3 hl hk' hs=>
  refine Ag (hi2.get hp2) fun v2 hv3 hit3=>?_
  refine .t (Tb.cmp (.nm ok Al) (.nm ok Ai) Ac.BV) hb ?_
  refine R.AC ok (s:=.int (((pos2 - 1) / 2:Nat):Int)) (Ev.to (Ev.bin (Ev.bin (.nm ok Al) .int Aq.Bh) .int (Aq.OS (by lia))) (MZ h0)) BF ?_
  refine R.AC ok (s:=.val v2) (Ev.B9 (k:=(pos2 - 1) / 2) (.nm ok has0) (.nm ok Az) .head hv3 rfl (ec ‹_›) rfl) Br ?_
  refine R.B2 (Tb.GX ok (.nm ok Ay) (.nm ok Ax) hit2.1 hit3.1) hl ?_
  refine R.D7 (s:=.val v2) (i:=pos2) ok (.nm ok Ax) has0 (.nm ok Al) (fun _=>.head) rfl hv1 hv2 ?_
  refine(?_:R _ _ _ _ _ _)
  exact R.AC ok (.nm ok Az) put2 (R.cnt (.mk _ hlt3 (.mk (hi2.set _ hit3) hit2 (by exact(e9).trans (hlen)) (ez hlt3 hlt2) hk' hs)))
 |stay hb h0 hp2 hlt3 hl hs=>
  refine Ag (hi2.get hp2) fun v2 hv3 hit3=>?_
  refine .t (Tb.cmp (.nm ok Al) (.nm ok Ai) Ac.BV) hb ?_
  refine R.AC ok (s:=.int (((pos2 - 1) / 2:Nat):Int)) (Ev.to (Ev.bin (Ev.bin (.nm ok Al) .int Aq.Bh) .int (Aq.OS (by lia))) (MZ h0)) BF ?_
  refine R.AC ok (s:=.val v2) (Ev.B9 (k:=(pos2 - 1) / 2) (.nm ok has0) (.nm ok Az) .head hv3 rfl (ec ‹_›) rfl) Br ?_
  refine R.A3 (Tb.GX ok (.nm ok Ay) (.nm ok Ax) hit2.1 hit3.1) hl (R.nil (R.next (R.brk ?_)))
  refine(?_:R x _ F1 _ _ _)
  exact R.D7 (s:=.val v) (i:=pos2) ok (.nm ok Ay) has0 (.nm ok Al) (fun _=>.head) rfl hv1 hv2 (R.nil (En.one (h F1 _ le (hs▸hi2.set _ hit2))))
 |top hb hs=>
  refine .f (Tb.cmp (.nm ok Al) (.nm ok Ai) Ac.BV) hb ?_
  exact R.D7 (s:=.val v) (i:=pos2) ok (.nm ok Ay) has0 (.nm ok Al) (fun _=>.head) rfl hv1 hv2 (R.nil (En.one (h F1 _ le (hs▸hi2.set _ hit2))))
noncomputable abbrev Pm (l:Addr) (N start pos ch:Nat) (v:Value) (rp:Sp):Sm:=[("heap",.val (.ref l)),("pos",.int pos),("endpos",.int N),("startpos",.int start),("newitem",.val v),("childpos",.int (ch:Int)),("rightpos",rp)]
inductive SuI (P:Value→Prop) (l:Addr) (start:Nat) (v:Value) (new:Itm) (N:Nat) (V:Aa) (T:List Itm) (i:Nat) (F:FM):Sm→Aa→Prop
 |mk {pos its vs rp k:_}:AR P F vs its→IP P F v new→its.length=N→pos<N→N≤pos+k→sup N new start k its pos=T→i=N - pos→SuI P l start v new N V T i F (Pm l N start pos (2*pos+1) v rp) ((l,Ab vs)::V)
theorem Xd {e ch:Nat}{a b:Itm}(h:ch+1<e) (ha:its[ch]? =some a) (hb:its[ch+1]? =some b):(bif ltB a b then ch else ch+1)=kid its e ch:=by
 delta kid CF
 rw[eU h,ha,hb]
 rfl
inductive SuS (its:List Itm) (new:Itm) (start N pos:Nat) (T:List Itm):Prop
 |down {kd p pl k b:_}:decide (((2*pos+1:Nat):Int)<N)=true→kd<N→its[kd]? =some p→its[2*pos+1]? =some pl→N - kd<N - pos→N≤kd+k→sup N new start k (its.set pos p) kd=T→
   (decide (((2*pos+1+1:Nat):Int)<N)=true→∃pr,its[2*pos+1+1]? =some pr∧(!(ltB pl pr))=b)→(decide (((2*pos+1+1:Nat):Int)<N) && b)=b→(b=true→kd=2*pos+1+1)→(b=false→kd=2*pos+1)→SuS its new start N pos T
 |leaf:decide (((2*pos+1:Nat):Int)<N)=false→Gc start new pos (its.set pos new) pos=T→SuS its new start N pos T
theorem cW {T:List Itm}{new:Itm}{start pos:Nat}(hs:sup N new start k its pos=T) (hN:its.length=N) (hp:pos<N) (hk:N≤pos+k):SuS its new start N pos T:=by
 by_cases hb:2*pos+1<N
 ·refine And.elim (fun hk1 hk2=>?_) (Xe (its:=its) (e:=N) (ch:=2*pos+1) hb)
  obtain⟨p,hp2⟩:∃p,its[kid its N (2*pos+1)]? =some p:=⟨_,eN (by lia)⟩
  obtain⟨pl,hpl⟩:∃p,its[2*pos+1]? =some p:=⟨_,eN (by lia)⟩
  cases k with
  |zero=>lia
  |succ k=>
  have hs:=Lx hp2 (Gq (eU hb) hs)
  by_cases h:2*pos+1+1<N
  ·obtain⟨pr,hpr⟩:∃p,its[2*pos+1+1]? =some p:=⟨_,eN (by lia)⟩
   have hke:=Xd h hpl hpr
   have h':decide (((2*pos+1+1:Nat):Int)<N)=true:=eU (Int.ofNat_lt.mpr ‹_›)
   refine .down (b:= !(ltB pl pr)) (eU (Int.ofNat_lt.mpr ‹_›)) hk1 hp2 hpl (KF ‹_› ‹_›) (KB ‹_› ‹_›) hs (fun _=>Ak pr hpr rfl) (by rw[h',Bool.true_and]) (fun hb=>?_) fun hb=>?_
   ·exact(Gp ((Bool.not_eq_true' _).mp hb) hke).symm
   ·exact(Gq ((Bool.not_eq_false' _).mp hb) hke).symm
  ·have h':decide (((2*pos+1+1:Nat):Int)<N)=false:=eV (by lia)
   refine .down (b:=false) (eU (Int.ofNat_lt.mpr ‹_›)) hk1 hp2 hpl (KF ‹_› ‹_›) (KB ‹_› ‹_›) hs (fun q=>nomatch h'.symm.trans q) (Bool.and_false _) (fun hb=>nomatch hb) fun hb=>?_
   delta kid CF
   refine(eV h)▸?_
   rfl
 ·refine .leaf (eV (by lia)) ?_
  cases k with
  |zero=>exact hs
  |succ k=>exact Gp (eV hb) hs
theorem Li (k:Nat):Sp.int (2*(k:Int)+1)=Sp.int ((2*k+1:Nat):Int):=by simp only[show(2*(k:Int)+1)=((2*k+1:Nat):Int) by exact rfl]
theorem aO {P:Value→Prop}{start:Nat}{new:Itm}(rm:Rm (n+2) A) (hi:AR P F vs its) (hp:its[start]? =some new) (hsz:its.length<10000)
  (h:∀F' vs',Le F F'→AR P F' vs' (sup its.length new start its.length its start)→Q .none F' ((l,Ab vs')::V)):
  RV (cx w os) A (.call (.ref 336) ⟨[.ref l,.int start t],[]⟩) F ((l,Ab vs)::V) Q:=by
 refine RV.fn ["heap","pos","endpos","startpos","newitem","childpos","rightpos"] ["len","_siftdown"] [("heap",.val (.ref l)),("pos",.int start),("endpos",.any),("startpos",.any),("newitem",.any),("childpos",.any),("rightpos",.any)] rm (Ms w os) (binds:=[("heap",.ref l),("pos",.int start t)]) rfl (by kernel_rfl) (by kernel_rfl) (by rfl) (Jq rfl ⟨_,rfl⟩ trivial trivial trivial trivial trivial trivial) ?_
 rintro x ok - -
 refine(?_:R _ (_::_) _ _ _ _)
 have hlt:start<its.length:=(List.getElem?_eq_some_iff.mp hp).1
 refine Ag (hi.get hp) fun v hv hit=>?_
 have hvl:=hi.len
 refine R.AC ok (s:=.int its.length) (Ev.to (Ev.A5 ok AK (.nm ok has0) .head (by lia)) (by exact(hvl)▸rfl)) put2 ?_
 refine R.AC ok (.nm ok Ai) put3 ?_
 refine R.AC ok (s:=.val v) (Ev.B9 (k:=start) (.nm ok has0) (.nm ok Ai) .head hv rfl (by lia) rfl) BF ?_
 refine R.AC ok (s:=.int ((2*start+1:Nat):Int)) (Ev.to (Ev.bin (Ev.bin .int (.nm ok Ai) Aq.NT) .int Aq.Aw) (Li start)) Br ?_
 refine R.Cu (SuI P l start v new its.length V (sup its.length new start its.length its start)) ?_ _ (.mk hi hit rfl hlt (Nat.le_add_left _ _) rfl rfl)
 intro i F1 m1 W1 hI
 induction hI with|mk hi2 hit2 hlen hlt2 hk hs hie=>
 rename_i pos2 its2 vs2 rp k
 intro le
 have hvl2:vs2.length=its.length:=hi2.len.trans hlen
 have hv1:pos2<vs2.length:=hvl2▸hlt2
 have hv2:vs2.length<100000:=hvl2▸ez hsz (by decide)
 clear hi hp hv hit hvl hlt
 cases cW hs hlen hlt2 hk with
 |down hb hk1 hp2 hpl hdec hk' hs hr hand hkt hkf=>
  rename_i kd p pl k b
  refine Ag (hi2.get hp2) fun v2 hv3 hit3=>Ag (hi2.get hpl) fun vl hvl hitl=>?_
  refine .t (Tb.cmp (.nm ok Ax) (.nm ok Al) Ac.ltI) hb ?_
  refine R.AC ok (s:=.int ((2*pos2+1+1:Nat):Int)) (Ev.to (s:=.int (((2*pos2+1:Nat):Int)+1)) (Ev.bin (.nm ok Ax) .int Aq.Aw) rfl) Db ?_
  refine R.GL (b:=b) (fun Z=>Z F1 (Pm l its.length start pos2 kd v (.int ((2*pos2+1+1:Nat):Int))) ((l,Ab vs2)::V)) (Tb.conv (Tb.and (Tb.cmp (.nm ok AG) (.nm ok Al) Ac.ltI) fun hq=>?_) hand) ?_ (fun rest hb2=>?_) (fun rest hb2=>?_)
  ·exact Ag (hr hq) fun pr hpr hke=>Ag (hi2.get hpr) fun vr hvr hitr=>Tb.conv (Tb.not (Tb.GX ok (Ev.B9 (k:=2*pos2+1) (.nm ok has0) (.nm ok Ax) .head hvl rfl (ec ‹_›) rfl) (Ev.B9 (k:=2*pos2+1+1) (.nm ok has0) (.nm ok AG) .head hvr rfl (by have:=ee hq;exact ec ‹_›) rfl) hitl.1 hitr.1)) hke
  ·refine R.D7 (s:=.val v2) (i:=pos2) ok (Ev.B9 (k:=kd) (.nm ok has0) (.nm ok Ax) .head hv3 rfl (ec ‹_›) rfl) has0 (.nm ok Ai) (fun _=>.head) rfl hv1 hv2 ?_
   refine(?_:R _ _ _ _ _ _)
   refine R.AC ok (.nm ok Ax) BQ ?_
   exact R.AC ok (s:=.int ((2*kd+1:Nat):Int)) (Ev.to (Ev.bin (Ev.bin .int (.nm ok Ai) Aq.NT) .int Aq.Aw) (Li kd)) Br (R.nil (.mk (its.length - kd) (hie▸hdec) (.mk (hi2.set _ hit3) hit2 (by exact(e9).trans (hlen)) hk1 hk' hs rfl)))
  ·rw[hkt hb2] at rest
   exact R.AC ok (.nm ok AG) Br (R.nil rest)
  ·rw[hkf hb2] at rest
   exact R.nil rest
 |leaf hb hs=>
  refine .f (Tb.cmp (.nm ok Ax) (.nm ok Al) Ac.ltI) hb ?_
  refine R.D7 (s:=.val v) (i:=pos2) ok (.nm ok Az) has0 (.nm ok Ai) (fun _=>.head) rfl hv1 hv2 ?_
  refine R.Dq ok (Rx.BI ok Bx MC (Jg _ _) (.cons (s:=.val (.ref l)) (.nm ok has0) (.cons (s:=.int start) (.nm ok Ay) (.cons (s:=.int pos2) (.nm ok Ai) .nil))) fun t1 t2=>?_)
  exact OT (n:=n) ok.rm (hi2.set _ hit2) (List.getElem?_set_self (by lia)) (by rw[e9,hlen];exact hsz) fun F' vs' le3 hi3=>R.nil (En.one (h F' _ (Le.trans le le3) (hs▸hi3)))
theorem Ot {P:Value→Prop}{p:Itm}(rm:Rm (n+2) A) (hi:AR P F vs its) (hx:IP P F v p) (hsz:its.length<9000)
  (h:∀F' vs',Le F F'→AR P F' vs' (By its p)→Q .none F' ((l,Ab vs')::V)):RV (cx w os) A (.call (.ref 308) ⟨[.ref l,v],[]⟩) F ((l,Ab vs)::V) Q:=by
 refine RV.fn ["heap","item"] ["len","_siftdown"] [("heap",.val (.ref l)),("item",.val v)] rm (Jf w os) (binds:=[("heap",.ref l),("item",v)]) rfl (by kernel_rfl) (by kernel_rfl) (by rfl) (BO rfl rfl trivial) ?_
 rintro x ok - -
 refine(?_:R _ (_::_) _ _ _ _)
 have hl:=hi.len
 refine R.doc ok ?_
 refine R.CW (s:=.val v) (vs:=vs) ok (.nm ok has0) (.nm ok Ai) (fun _=>.head) (EQ ‹_› ‹_› rfl) ?_
 refine R.Dq ok (Rx.BI ok Bx MC (Jg _ _) (.cons (s:=.val (.ref l)) (.nm ok has0) (.cons (s:=.int 0) .int (.cons (s:=.int (its.length:Nat)) (Ev.to (Ev.bin (Ev.A5 ok AK (.nm ok has0) .head (by simp;exact EQ ‹_› ‹_› rfl)) .int Aq.Bh) (by exact congrArg _ (show(((vs++[v]).length:Nat):Int) - 1=(its.length:Nat) by simp;exact congrArg _ ‹_›))) .nil))) fun t1 t2=>?_)
 exact OT (n:=n) (start:=0) ok.rm (hi.app (.cons hx .nil)) (by simp) (by simp;exact ef ‹_› (d7 rfl)) fun F' vs' le3 hi3=>R.nil (En.one (h F' _ le3 hi3))
theorem Ol (p0 z:Itm) (ps:List Itm):Cf (p0::ps++[z])=some (p0,Ew (z::ps) z):=by
 delta Cf Fh
 rw[List.getLast?_append,List.dropLast_concat]
 rfl
theorem Rx.OU {P:Value→Prop}{p0:Itm}(ok:Ok x (n+2) gs) (hx:Str.ofString "_siftup" ∈ gs) (hh:Ad (Str.ofString "heap") (.val (.ref l)) m) (hi:AR P F vs its) (hp:its[0]? =some p0) (hsz:its.length<10000)
  (h:∀F' vs',Le F F'→AR P F' vs' (Ew its p0)→Q .none F' ((l,Ab vs')::V)):Rx x F m ((l,Ab vs)::V) (.Call (.Name (Str.ofString "_siftup") p) [.Name (Str.ofString "heap") q,.Constant (.int 0) k p1] [] pos) Q:=
 Rx.BI ok hx Ve (Ms x.w x.os) (.cons (s:=.val (.ref l)) (Ev.nm ok hh) (.cons (s:=.int 0) .int .nil)) fun t=>aO (n:=n) (start:=0) ok.rm hi hp hsz h
theorem ZX {P:Value→Prop}{x0:Itm}(rm:Rm (n+3) A) (hi:AR P F vs its) (hx:IP P F v x0) (ht:its[0]? =some top) (hsz:its.length<10000)
  (h:∀F' v' vs',Le F F'→IP P F' v' top→AR P F' vs' (Ew (its.set 0 x0) x0)→Q v' F' ((l,Ab vs')::V)):RV (cx w os) A (.call (.ref 322) ⟨[.ref l,v],[]⟩) F ((l,Ab vs)::V) Q:=by
 refine Ag (hi.get ht) fun v0 hv0 hit0=>?_
 have hvl:=hi.len
 have hlt:0<its.length:=(List.getElem?_eq_some_iff.mp ht).1
 refine RV.fn ["heap","item","returnitem"] ["_siftup"] [("heap",.val (.ref l)),("item",.val v),("returnitem",.any)] rm (Mm w os) (binds:=[("heap",.ref l),("item",v)]) rfl (by kernel_rfl) (by kernel_rfl) (by rfl) (C4 rfl rfl trivial trivial) ?_
 rintro x ok - -
 refine(?_:R _ (_::_) _ _ _ _)
 refine R.doc ok ?_
 refine R.AC ok (s:=.val v0) (Ev.B9 (k:=0) (i:=0) (.nm ok has0) .int .head hv0 (by rfl) (by lia) rfl) put2 ?_
 refine R.D7 (s:=.val v) (i:=0) (k:=0) ok (.nm ok Ai) has0 .int (fun _=>.head) (by rfl) (by lia) (by lia) ?_
 refine R.Dq ok (Rx.OU ok AK has0 (hi.set 0 hx) (by simp[hlt]) (by rw[e9];exact hsz) fun F' vs' le3 hi3=>R.D6 (v:=v0) (.nm ok Al) (En.one (h F' _ _ le3 (hit0.le le3) hi3)))
theorem Zx {P:Value→Prop}{is r:List Itm}{vz:Value}{z:Itm}(rm:Rm (n+3) A) (hus:AR P F us is) (hz:IP P F vz z) (hp:Cf (is++[z])=some (top,r)) (hsz:is.length+1<10000)
  (h:∀F' v' vs',Le F F'→IP P F' v' top→AR P F' vs' r→Q v' F' ((l,Ab vs')::V)):RV (cx w os) A (.call (.ref 315) ⟨[.ref l],[]⟩) F ((l,Ab (us++[vz]))::V) Q:=by
 have hl:=hus.len
 refine RV.fn ["heap","lastelt","returnitem"] ["_siftup"] [("heap",.val (.ref l)),("lastelt",.any),("returnitem",.any)] rm (Je w os) (binds:=[("heap",.ref l)]) rfl (by kernel_rfl) (by kernel_rfl) (by rfl) (C4 rfl trivial trivial trivial) ?_
 rintro x ok - -
 refine(?_:R _ (_::_) _ _ _ _)
 refine R.doc ok ?_
 refine R.Bi ok (Rx.pop ok has0 .head (Ix ‹_› ‹_› rfl) (As.fC BQ ?_))
 cases hus with
 |cons h0 hus=>
  rename_i v0 p0 us ps
  have hp':some (p0,Ew (z::ps) z)=some (top,r):=(Ol ..).symm.trans hp
  cases hp'
  refine R.B2 (Tb.fx (.nm ok has0) .head (Ix ‹_› ‹_› rfl)) rfl ?_
  refine R.AC ok (s:=.val v0) (Ev.B9 (k:=0) (i:=0) (.nm ok has0) .int .head (by rfl) (by rfl) (Ix ‹_› ‹_› rfl) rfl) put2 ?_
  refine R.D7 (s:=.val vz) (i:=0) (k:=0) ok (.nm ok Ai) has0 .int (fun _=>.head) (by rfl) (Nat.zero_lt_succ _) (by lia) ?_
  exact R.Dq ok (Rx.OU ok AK has0 (.cons hz hus) rfl (Nat.lt_of_succ_lt hsz) fun F' vs' le3 hi3=>R.D6 (v:=v0) (.nm ok Al) (En.one (h F' _ _ le3 (h0.le le3) hi3)))
 |nil=>
  have hp':some (z,([]:List Itm))=some (top,r):=hp
  cases hp'
  refine R.A3 (Tb.fx (.nm ok has0) .head (eB _)) rfl (R.nil (R.next ?_))
  exact R.D6 (v:=vz) (.nm ok Ai) (En.one (h F _ _ (Le.refl _) hz .nil))
theorem On {P:Value→Prop}{r:List Itm}(rm:Rm (n+3) A) (hi:AR P F vs its) (hp:Cf its=some (top,r)) (hsz:its.length<10000)
  (h:∀F' v' vs',Le F F'→IP P F' v' top→AR P F' vs' r→Q v' F' ((l,Ab vs')::V)):RV (cx w os) A (.call (.ref 315) ⟨[.ref l],[]⟩) F ((l,Ab vs)::V) Q:=by
 obtain⟨is,z,rfl⟩:∃is z,its=is++[z]:=by
  rcases List.eq_nil_or_concat its with e|⟨is,z,e⟩
  ·subst e;cases hp
  ·exact⟨is,z,by simpa using e⟩
 obtain⟨us,vz,rfl,hus,hz⟩:=hi.bo
 exact Zx rm hus hz hp (by simpa using hsz) h
noncomputable def BD (b s:List Nat):Int:=Txt.find (tx b) (tx s)
noncomputable def XP (g:Nat→Nat→Int) (size i:Nat):Option (Nat×Int×Nat):=if g size i≥0 then some (i,g size i,size) else none
noncomputable def JE (g:Nat→Nat→Int) (size:Nat):Nat→Nat→Option (Nat×Int×Nat)
 |_,0=>none
 |i,n+1=>(XP g size i).or (JE g size (i+1) n)
noncomputable def GU (g:Nat→Nat→Int) (la:Nat):Nat→Nat×Int×Nat
 |0=>(0,0,0)
 |n+1=>(JE g (n+1) 0 (la - (n+1)+1)).getD (GU g la n)
noncomputable abbrev gF (a b:List Nat) (size i:Nat):Int:=BD b ((a.drop i).take size)
noncomputable abbrev GT (a b:List Nat):Nat→Nat→Nat→Option (Nat×Int×Nat):=JE (gF a b)
noncomputable abbrev DY (a b:List Nat):Nat→Nat×Int×Nat:=GU (gF a b) a.length
noncomputable def Cd (a b:List Nat):Nat×Int×Nat:=DY a b (min a.length b.length)
theorem OH (n:Nat):Builtin.Range.rangeSize n 0 (-1)=n:=by
 unfold Builtin.Range.rangeSize
 simp
 lia
theorem small_down (h:n<1000):Builtin.Range.small n 0 (-1)=true:=by
 delta Builtin.Range.small Builtin.Range.rangeFitsLong
 rw[OH]
 simp
 lia
noncomputable abbrev NG (a b:List Nat) (ss si sj:Sp):Sm:=[("one",.str (tx a)),("other",.str (tx b)),("size",ss),("i",si),("j",sj)]
inductive LgO (a b:List Nat) (V:Aa) (N:Nat) (t:Nat) (F:FM):Sm→Aa→Prop
 |mk {ss si sj:_}:DY a b (N - t)=Cd a b→LgO a b V N t F (NG a b ss si sj) V
inductive LgN (a b:List Nat) (V:Aa) (sz N:Nat) (t:Nat) (F:FM):Sm→Aa→Prop
 |mk {si sj:_}:(GT a b (sz+1) t (N - t)).getD (DY a b sz)=Cd a b→LgN a b V sz N t F (NG a b (.int ((sz+1:Nat):Int)) si sj) V
inductive LgS (a b:List Nat) (sz i M:Nat) (T:Nat×Int×Nat):Prop
 |hit:decide (BD b ((a.drop i).take (sz+1))≥0)=true→(i,BD b ((a.drop i).take (sz+1)),sz+1)=T→LgS a b sz i M T
 |no:decide (BD b ((a.drop i).take (sz+1))≥0)=false→(GT a b (sz+1) (i+1) (M - (i+1))).getD (DY a b sz)=T→LgS a b sz i M T
theorem XS {a b:List Nat}{sz:Nat}{T:Nat×Int×Nat}(hi:i<M) (h:(GT a b (sz+1) i (M - i)).getD (DY a b sz)=T):LgS a b sz i M T:=by
 rw[show M - i=(M - (i+1))+1 by exact Go ‹_›] at h
 have h:((if BD b ((a.drop i).take (sz+1))≥0 then some (i,BD b ((a.drop i).take (sz+1)),sz+1) else none).or (GT a b (sz+1) (i+1) (M - (i+1)))).getD (DY a b sz)=T:=h
 cases hq:decide (BD b ((a.drop i).take (sz+1))≥0) with
 |true=>rw[if_pos (ee hq)] at h;exact .hit hq h
 |false=>rw[if_neg (of_decide_eq_false hq)] at h;exact .no hq h
theorem XR {a b:List Nat}{t:Nat}{T:Nat×Int×Nat}(ht:t<N) (h:DY a b (N - t)=T):∃sz,N - (t+1)=sz∧(N:Int)+t*(-1)=((sz+1:Nat):Int)∧(GT a b (sz+1) 0 (a.length - (sz+1)+1 - 0)).getD (DY a b sz)=T:=by
 refine AE (N - (t+1)) rfl (by lia) ?_
 rw[show N - t=N - (t+1)+1 by exact Go ‹_›] at h
 exact h
theorem Ev.min2 {i:Int}(ok:Ok x n gs) (hx:Str.ofString "min" ∈ gs) (h1:Ev x F m V e1 (.int i)) (h2:Ev x F m V e2 (.int j)) (hn:autoParam (notStar e1=true) aR) (hn2:autoParam (notStar e2=true) aR):Ev x F m V (.Call (.Name (Str.ofString "min") p) [e1,e2] [] pos) (.int (min i j)):=
 .rx fun Q hQ=>.Hk ok hx Vp (.cons h1 (.cons h2 .nil hn2) hn) fun t u=>.pure (.int _) (fun V Q hQ=>Run.min2 ok.rm fun t=>hQ _ ⟨t,rfl⟩) hQ
theorem XY {a b:List Nat}(rm:Rm (n+1) A) (ha:a.length<100) (hb:b.length<100)
  (h:∀F' o k1 k2 k3,Le F F'→Tu F' o [.int (Cd a b).1 k1,.int (Cd a b).2.1 k2,.int (Cd a b).2.2 k3]→Q (.ref o) F' V):RV (cx w os) A (.call (.ref 381) ⟨[.str (tx a) t,.str (tx b) u],[]⟩) F V Q:=by
 refine RV.fn ["one","other","size","i","j"] ["range","min","len"] [("one",.str (tx a)),("other",.str (tx b)),("size",.any),("i",.any),("j",.any)] rm (Ml w os) (binds:=[("one",.str (tx a) t),("other",.str (tx b) u)]) rfl (by kernel_rfl) (by kernel_rfl) (by rfl) (E7 ⟨_,rfl⟩ ⟨_,rfl⟩ trivial trivial trivial trivial) ?_
 rintro x ok - -
 refine(?_:R _ (_::_) _ _ _ _)
 generalize hm:min a.length b.length=N
 have hz:DY a b N=Cd a b:=by rw[←hm];rfl
 have lax:(tx a).length=a.length:=Av a
 have lbx:(tx b).length=b.length:=Av b
 refine R.DP ok N (fun t v=>(Sp.int ((N:Int)+t*(-1))).ok (some v)) (LgO a b V N)
  (Rx.H5 ok AK (Ev.to (Ev.min2 ok Bx (Ev.Bv ok Ce (.nm ok has0) (ec (ea ‹_› (d7 rfl)))) (Ev.Bv ok Ce (.nm ok Ai) (ec (ea ‹_› (d7 rfl))))) (by simp only[lax,lbx,←hm];congr 1;lia)) .int (.neg .int) (by decide) (PyProof.noPylong_small (by decide)) fun F' r le hr=>⟨.rg hr (small_down (by lia)) (OH N),.mk (by simp only[Nat.sub_zero];exact hz)⟩) ?_ ?_
 ·intro t F1 m1 W v ht hJ
  induction hJ with|mk hl=>
  rename_i ss si sj
  intro hv le
  refine AX (XR ht hl) fun sz hsz hvz hl=>?_
  refine .mk (Au.loc (s:=.int ((sz+1:Nat):Int)) ok (hvz▸hv) put2) ?_
  refine R.DP ok (a.length - (sz+1)+1) (fun t v=>(Sp.int (0+t*1)).ok (some v)) (LgN a b V sz (a.length - (sz+1)+1))
   (Rx.Ey ok AK (Ev.to (Ev.bin (Ev.bin (Ev.Bv ok Ce (.nm ok has0) (ec (ea ‹_› (d7 rfl)))) (.nm ok Al) Aq.Bh) .int Aq.Aw) (by rw[lax];congr 1;lia)) fun F' r le hr=>⟨.rg hr (F9 (Qc ‹_›)) (Ga _),.mk hl⟩) ?_ ?_
  ·intro i F2 m2 W v hi hJ
   induction hJ with|mk hl2=>
   rename_i si sj
   intro hv le2
   refine .mk (Au.loc (s:=.int (i:Int)) ok (by rw[Int.mul_one,Int.zero_add] at hv;exact hv) put3) ?_
   refine R.AC ok (s:=.int (BD b ((a.drop i).take (sz+1)))) (Ev.find (.nm ok Ai) (Ev.D8 (k:=i) (sz+1) (.nm ok has0) (.nm ok Ay) (Ev.bin (.nm ok Ay) (.nm ok Al) Aq.Aw) ⟨by dsimp only[DL],PV ‹_› ‹_›⟩ rfl rfl (ea ‹_› (d7 rfl)))) BF ?_
   cases XS hi hl2 with
   |hit hq e=>
    refine R.B2 (Tb.cmp (.nm ok Az) .int Ac.DQ) hq ?_
    exact R.DE (Rx.BR (.cons (s:=.int i) (.nm ok Ay) (.cons (s:=.int (BD b ((a.drop i).take (sz+1)))) (.nm ok Az) (.cons (s:=.int ((sz+1:Nat):Int)) (.nm ok Al) .nil))) fun k1 k2 k3 F' o le3 ht=>En.one (h F' o k1 k2 k3 (Le.trans le (Le.trans le2 le3)) (by refine(e)▸?_;exact ht)))
   |no hq hl3=>exact R.A3 (Tb.cmp (.nm ok Az) .int Ac.DQ) hq (R.nil (R.next (R.nil (.mk hl3))))
  ·intro F2 m2 W hJ
   induction hJ with|mk hl2=>
   intro le2
   rw[Nat.sub_self] at hl2
   exact R.nil (.mk (by rw[hsz];exact hl2))
 ·intro F1 m1 W hJ
  induction hJ with|mk hl=>
  intro le
  rw[Nat.sub_self] at hl
  exact R.DE (Rx.BR (.cons (s:=.int 0) .int (.cons (s:=.int 0) .int (.cons (s:=.int 0) .int .nil))) fun k1 k2 k3 F' o le3 ht=>En.one (h F' o k1 k2 k3 (Le.trans le le3) (by refine(hl)▸?_;exact ht)))
inductive BS (x:Cc) (F:FM) (K:Aa) (Q:Nat→Flow→FM→Sm→Aa→Prop) (f:Flow) (s':Shared):Prop
 |mk {F' Vf' m' W N':_}:St x.fo F' Vf' s'→N'≤s'.toks→Le F F'→Sb (full x m' (W++K)) Vf'→Q N' f F' m' W→BS x F K Q f s'
def RN (x:Cc) (N:Nat) (t:List Stmt) (F:FM) (m:Sm) (V:Aa) (Q:Nat→Flow→FM→Sm→Aa→Prop):Prop:=
 ∀K Vf,Sb (full x m (V++K)) Vf→∀s,St x.fo F Vf s→N≤s.toks→wpAny (Mo x.fo) x.A (execs t x.env) (BS x F K Q) (fun _ _=>False) s
theorem Tv {st:Stmt}:execs [st] env=exec st env:=by
 have:execs [st] env=(exec st env>>=fun f=>match f with| .next=>execs [] env|f=>pure f):=by
  first|rfl|(unfold execs;rfl)
 rw[this]
 conv=>rhs;rw[←bind_pure (exec st env)]
 congr 1
 funext f
 induction f<;>first|rfl|(unfold execs;rfl)
theorem BS.up {K:Aa}{Q:Nat→Flow→FM→Sm→Aa→Prop}{f:Flow}{s':Shared}(h:BS x F1 K Q f s') (le:Le F F1):BS x F K Q f s':=by
 cases h with|mk a b c d e=>exact .mk a b (Le.trans le c) d e
section
variable {b:Bool}{st:Stmt}{t:List Stmt}{Q:Nat→Flow→FM→Sm→Aa→Prop}{Q1:Flow→FM→Sm→Aa→Prop}
theorem Run.kt {α:Type}{t:Sem α}{Q':α→FM→Aa→Prop}(h:Run c A t F V Q') {P:α→Shared→Prop}(S:St c F V s) (hN:N≤s.toks) (k:∀a s' F' V',St c F' V' s'→N≤s'.toks→Q' a F' V'→P a s'):wpAny (Mo c) A t P E s:=
 ej (wpAny_toks (h s S)) (fun a s' q=>BH q.1 fun F' V' S' q'=>k a s' F' V' S' (eb hN q.2) q') fun _ _ e=>e.1.elim
theorem RN.go {K:Aa}(h:RN x N t F1 m V Q) (le:Le F F1) (ft:Sb (full x m (V++K)) Vf) (S:St x.fo F1 Vf s) (hN:N≤s.toks):wpAny (Mo x.fo) x.A (execs t x.env) (BS x F K Q) (fun _ _=>False) s:=
 ej (h K Vf ft s S hN) (fun _ _ h=>h.up le) fun _ _ e=>e
theorem RN.of (h:R x t F m V (fun f F' m' W=>Q N f F' m' W)):RN x N t F m V Q:=fun K Vf ft s S hN=>
 Run.kt (h.fu (Q':=fun f F' V'=>∀s',St x.fo F' V' s'→N≤s'.toks→BS x F K Q f s') ft fun f F' V' m' W le sb q s' S' hN'=>.mk S' hN' le sb q) S hN fun _ s' _ _ S' hN' q=>q s' S' hN'
theorem RN.nil (h:Q N .next F m V):RN x N [] F m V Q:=.of (R.nil h)
theorem RN.cons (h:R x [st] F m V Q1) (k:∀f F' m' W,Le F F'→Q1 f F' m' W→f= .next∧RN x N rest F' m' W Q):RN x N (st::rest) F m V Q:=fun K Vf ft s S hN=>by
 refine wpAny_execs_cons ?_
 refine(Tv)▸?_
 exact Run.kt (h.fu (Q':=fun f F' V'=>f= .next∧∀s',St x.fo F' V' s'→N≤s'.toks→wpAny (Mo x.fo) x.A (execs rest x.env) (BS x F K Q) (fun _ _=>False) s') ft fun f F' V' m' W le sb q=>⟨(k f F' m' W le q).1,fun s' S' hN'=>(k f F' m' W le q).2.go le sb S' hN'⟩) S hN
  fun f s' F' V' S' hN' q=>q.1▸q.2 s' S' hN'
theorem RN.fw (h:R x [st] F m V (fun f F' m' W=>f= .next∧RN x N rest F' m' W Q)):RN x N (st::rest) F m V Q:=.cons h fun _ _ _ _ _ q=>q
theorem RN.Fq {K:Aa}(h:RN x N t F1 m V (fun N' f F' m' W=>f= .next∧RN x N' rest F' m' W Q)) (le:Le F F1) (ft:Sb (full x m (V++K)) Vf) (S:St x.fo F1 Vf s) (hN:N≤s.toks):
  wpAny (Mo x.fo) x.A (execs t x.env) (fun f s'=>match f with| .next=>wpAny (Mo x.fo) x.A (execs rest x.env) (BS x F K Q) (fun _ _=>False) s'|f=>BS x F K Q f s') (fun _ _=>False) s:=
 ej (h K Vf ft s S hN) (fun f s' q=>by
  cases q with|mk S' hN' le' sb' q=>exact q.1▸q.2.go (Le.trans le le') sb' S' hN') fun _ _ e=>e
theorem RN.BE (h:Tb x F m V e b) (k1:b=true→RN x N body F m V (fun N' f F' m' W=>f= .next∧RN x N' rest F' m' W Q)) (k2:b=false→RN x N orelse F m V (fun N' f F' m' W=>f= .next∧RN x N' rest F' m' W Q)):RN x N (.If e body orelse p::rest) F m V Q:=fun K Vf ft s S hN=>
 wpAny_execs_cons (wpAny_If (Run.kt (h.fu (Q:=fun b' F' V'=>b'=b∧∀s',St x.fo F' V' s'→N≤s'.toks→(b=true→wpAny (Mo x.fo) x.A (execs body x.env) (fun f s'=>match f with| .next=>wpAny (Mo x.fo) x.A (execs rest x.env) (BS x F K Q) (fun _ _=>False) s'|f=>BS x F K Q f s') (fun _ _=>False) s')∧(b=false→wpAny (Mo x.fo) x.A (execs orelse x.env) (fun f s'=>match f with| .next=>wpAny (Mo x.fo) x.A (execs rest x.env) (BS x F K Q) (fun _ _=>False) s'|f=>BS x F K Q f s') (fun _ _=>False) s')) ft
  fun V1 sb=>⟨rfl,fun s' S' hN'=>⟨fun hb=>(k1 hb).Fq (Le.refl _) sb S' hN',fun hb=>(k2 hb).Fq (Le.refl _) sb S' hN'⟩⟩) S hN fun b' s1 F1 V1 S1 hN1 q=>by
   have:=q.2 s1 S1 hN1
   refine(q.1)▸?_
   induction b with
   |false=>exact this.2 rfl
   |true=>exact this.1 rfl))
theorem RN.G9 {ι:Type}(I:ι→Nat→FM→Sm→Aa→Prop) (μ:ι→Nat)
  (turn:∀i N' F' m' V',Le F F'→I i N' F' m' V'→∃b,Tb x F' m' V' e b∧(b=true→RN x N' body F' m' V' (fun N2 f F2 m2 V2=>f= .next∧∃j,μ j<μ i∧I j N2 F2 m2 V2))∧(b=false→RN x N' rest F' m' V' Q))
  (i:ι) (hI:I i N F m V):RN x N (.While e body [] p::rest) F m V Q:=fun K Vf ft s S hN=>by
 refine wpAny_execs_cons ?_
 dsimp only[exec_While]
 refine d8 (wpAny_standAt (wpAny_runOwn ?_))
 rw[show x.A.mark Option.none=x.A from rfl]
 suffices H:∀k i N' F' m' V' Vf' s,μ i<k→Le F F'→St x.fo F' Vf' s→N'≤s.toks→Sb (full x m' (V'++K)) Vf'→I i N' F' m' V'→codeAny (Mo x.fo) x.A (.whileLoop e body [] x.env) (fun r s'=>r= .ok .next∧wpAny (Mo x.fo) x.A (execs rest x.env) (BS x F K Q) (fun _ _=>False) s') s by
  exact codeAny_mono (H _ i N F m V Vf s (ey _) (Le.refl _) S hN ft hI) fun r s' qz=>EW qz fun e1 q=>by refine e1▸?_;exact q
 intro k
 induction k with
 |zero=>intro i N' F' m' V' Vf' s h;exact absurd h (Nat.not_lt_zero _)
 |succ k ih=>
  intro i N' F' m' V' Vf' s hk le S hN ft hI
  refine AX (turn i N' F' m' V' le hI) fun b ht k1 k2=>?_
  refine codeAny_of_tree ?_
  rw[Around.under_of_weight (by rfl) (by rfl)]
  refine(?_:wpAny _ x.A ((whileTurn e body [] x.env).onRaise (fun y=>do noteFrame y x.env;theTreesLotGoes y)) _ _ s)
  refine wpAny_noted ?_
  refine d8 (Run.kt (ht.fu (Q:=fun b' F1 V1=>b'=b∧F1=F'∧Sb (full x m' (V'++K)) V1) ft fun V1 sb=>⟨rfl,rfl,sb⟩) S hN fun b' s1 F1 V1 S1 hN1 q=>Bj q fun e1 e2 sb=>?_)
  subst e1 e2
  induction b' with
  |false=>
   exact d8 (wpAny_execs_nil (d9 ⟨rfl,(k2 rfl).go le sb S1 hN1⟩))
  |true=>
   refine d8 (ej (k1 rfl K V1 sb s1 S1 hN1) (fun f s' h=>?_) fun _ _ e=>e.elim)
   cases h with|mk S2 hN2 le2 sb2 q=>
   exact AX (q.2.imp fun j q=>⟨q.1,q.2,q.2⟩) fun j hj hI2 _=>by
    simp only[q.1]
    exact d9 ⟨rfl,ih j _ _ _ _ _ s' (ea hj (ex hk)) (Le.trans le le2) S2 hN2 sb2 hI2⟩
inductive FsT (x:Cc) (K:Aa) (F1:FM) (y:Str) (t:Tok) (it:Addr) (J:Nat→Nat→FM→Sm→Aa→Prop) (k:Nat) (s:Shared):Prop
 |mk {i F' m' W Vf' N':_}:k=y.cps.size - i→i≤y.cps.size→J i N' F' m' W→Le F1 F'→N'≤s.toks→Sb (full x m' (W++K)) Vf'→St x.fo F' ((it,AI "str_ascii_iterator" (.str y t) i)::Vf') s→FsT x K F1 y t it J k s
theorem RN.UD (ok:Ok x n gs) (J:Nat→Nat→FM→Sm→Aa→Prop) (h:Ev x F m V e (.str y)) (ha:y.cps.all (·<128)=true) (hJ:∀N',N≤N'→J 0 N' F m V)
  (turn:∀i c u N' F' m' W,y.cps[i]? =some c→Le F F'→N'≤u→J i N' F' m' W→∃s0 m1,Aj id_ s0 (.val (.str (ch c) u)) m' m1∧RN x (u+1) body F' m1 W (fun N2 f F2 m2 V2=>f= .next∧J (i+1) N2 F2 m2 V2))
  (fin:∀N' F' m' W,Le F F'→J y.cps.size N' F' m' W→RN x N' rest F' m' W Q)
  (hs:autoParam (∀v,foldedSetIterable e x.env v=Pure.pure v) aI):RN x N (.For (.Name id_ p') e body [] pos::rest) F m V Q:=fun K Vf ft s S hN=>
 wpAny_execs_cons (wpAny_For (Run.kt (h.kS (Q:=fun v F' V'=>F'=F∧Sb (full x m (V++K)) V'∧∃t,v= .str y t) ft fun V1 t sb=>⟨rfl,sb,t,rfl⟩) S hN fun v s1 F1 V1 S1 hN1 q=>Bj q fun e1 sb q=>q.elim fun t e2=>by
  subst e1 e2
  refine Run.kt (Run.Nm ha (Q:=fun v F' V'=>F1=F'∧∃it,v= .ref it∧V'=(it,AI "str_ascii_iterator" (.str y t) 0)::V1) fun it=>⟨rfl,it,rfl,rfl⟩) S1 hN1 fun v s2 F2 V2 S2 hN2 q=>q.2.elim fun it q2=>?_
  refine(q2.1)▸?_
  refine codeAny_mono (codeAny_forLoop_any (R:=fun r s'=>r= .ok .next∧wpAny (Mo x.fo) x.A (execs rest x.env) (BS x F1 K Q) (fun _ _=>False) s') (FsT x K F1 y t it J) (fun k s3 T=>?_) y.cps.size
   (.mk rfl (eB _) (hJ N (eh _)) (Le.refl _) hN2 sb (q.1▸q2.2▸S2))) fun r s' q=>q.1.symm▸q.2
  cases T with|mk ek hi hJ le hN' sb' S3=>
  rename_i i F' m' W Vf' N'
  rcases Nat.lt_or_ge i y.cps.size with hlt|hge
  ·refine AX (S3.own.get .head) fun o ho hc hd=>?_
   refine wpAny_pyNext_ascii_item (AE o ho hc hd) (fh hlt) fun h' hi' hs'=>?_
   have S4:St x.fo F' ((it,AI "str_ascii_iterator" (.str y t) (i+1))::Vf') {s3 with heap:=h',toks:=s3.toks+1}:=AX hi' fun o' a b d=>⟨S3.put .head hs' (AE o' a b d),eA _⟩
   have S5:St x.fo F' (full x m' (W++((it,AI "str_ascii_iterator" (.str y t) (i+1))::K))) {s3 with heap:=h',toks:=s3.toks+1}:=S4.fit (Sb.fit (Sb.trans (.perm ((List.perm_middle.cons _).trans (eK ..))) sb'.cons))
   refine BH (turn i _ s3.toks N' F' m' W (fh hlt) le hN' hJ) fun s0 m1 hp hb=>VA (Run.kt (N:=s3.toks+1) (Run.BA (Run.D9 (s:=.val (.str (ch y.cps[i]) s3.toks)) (QU:=fun _ F2 V2=>F2=F'∧V2=full x m1 (W++((it,AI "str_ascii_iterator" (.str y t) (i+1))::K))) ok.lo hp rfl ⟨rfl,rfl⟩)) S5 (eh _) fun _ s5 F5 V5 S5 lt5 q=>?_)
   have S6:St x.fo F' (full x m1 (W++((it,AI "str_ascii_iterator" (.str y t) (i+1))::K))) s5:=q.1▸q.2▸S5
   refine ej (hb _ _ Sb.refl s5 S6 lt5) (fun f s6 h6=>?_) fun _ _ e=>e.elim
   cases h6 with|mk S7 hN7 le7 sb7 q7=>
   rename_i F7 Vf7 m7 W7 N7
   simp only[q7.1]
   exact Ak (y.cps.size - (i+1)) (PY ‹_› ‹_›) (.mk (Vf':=full x m7 (W7++K)) rfl hlt q7.2 (Le.trans le le7) hN7 Sb.refl (S7.fit (Sb.fit (Sb.trans (.perm ((eK ..).trans ((List.perm_middle.symm).cons _))) sb7))))
  ·have ei:i=y.cps.size:=Nat.le_antisymm hi hge
   subst ei
   refine Run.kt (Run.Ly ok.rm (eh _) (QO:=fun r F2 V2=>r=Option.none∧F2=F'∧V2=Vf') ⟨rfl,rfl,rfl⟩) S3 hN' fun r s4 F4 V4 S4 lt4 q=>Bj q fun e1 e2 e3=>?_
   subst e1 e2 e3
   exact wpAny_execs_nil ⟨rfl,(fin N' F4 m' W le hJ).go le sb' S4 lt4⟩) hs)
end
def Am {α:Type}(c:Cx) (A:Around) (N:Nat) (t:Sem α) (F:FM) (V:Aa) (Q:Nat→α→FM→Aa→Prop):Prop:=
 ∀s,St c F V s→N≤s.toks→wpAny (Mo c) A t (fun a s'=>∃F' V' N',St c F' V' s'∧N'≤s'.toks∧Q N' a F' V') (fun _ _=>False) s
section
variable {Q:Nat→Value→FM→Aa→Prop}
theorem Am.of {α:Type}{t:Sem α}{Q:Nat→α→FM→Aa→Prop}(h:Run c A t F V (fun a F' V'=>Q N a F' V')):Am c A N t F V Q:=fun s S hN=>
 Run.kt h S hN fun _ _ F' V' S' hN' q=>Cr F' V' N S' hN' q
theorem Am.fu {α:Type}{t:Sem α}{Q:Nat→α→FM→Aa→Prop}(h:Am c A N t F V Q) {P:α→Shared→Prop}(S:St c F V s) (hN:N≤s.toks) (k:∀a s' F' V' N',St c F' V' s'→N'≤s'.toks→Q N' a F' V'→P a s'):wpAny (Mo c) A t P E s:=
 ej (h s S hN) (fun a s' q=>FE q fun F' V' N' S' q=>k a s' F' V' N' S' q.1 q.2) fun _ _ e=>e.elim
theorem NC (h:n≤1000):n≤sizeLine:=eb h (by rw[eT];decide)
theorem Am.fit {α:Type}{t:Sem α}{Q:Nat→α→FM→Aa→Prop}(x:B5 W V) (h:Am c A N t F W Q):Am c A N t F V Q:=fun s S hN=>h s (S.fit x) hN
theorem Am.CA {id p args pos:_}(h:Run c A (eval (.Name id p) env) F V (fun f F1 V1=>Am c A N (callWith pos f [] (backTo pos (starEach args env)) []) F1 V1 Q)):
  Am c A N (eval (.Call (.Name id p) args [] pos) env) F V Q:=fun s S hN=>by
 simp only[arm_eval_Call_Name']
 exact d8 (Run.kt h S hN fun _ s1 _ _ S1 hN1 h1=>h1 s1 S1 hN1)
theorem Am.Gx {rest:List Expr}{pos:_}(fn:Fun c a fd)
  (h:Am c A N (spliced (backTo pos (starEach (e::rest) env))) F V (fun N' vs F1 V1=>AM c A (.call (.ref a) ⟨vs,[]⟩) F1 V1 (fun v F2 V2=>Q N' v F2 V2)))
  (he:starEach (e::rest) env=(false,eval e env)::starEach rest env):
  Am c A N (callWith pos (.ref a) [] (backTo pos (starEach (e::rest) env)) []) F V Q:=fun s S hN=>by
 rw[he] at h⊢
 exact Ag fn.at_ fun o h1 h2=>callWith_function (o:=o) (fd:=fd) (evalArgs_plain (h.fu S hN fun vs s1 F1 V1 N' S1 hN' h1'=>⟨⟨S1.own.fro _ _ (S1.base _ _ h1),h2⟩,Am.of (Q:=Q) (Run.call h1') s1 S1 hN'⟩))
theorem Am.AL {pos e rest:_}{QL:Nat→List Value→FM→Aa→Prop}(h:Am c A N (eval e env) F V (fun N' v F1 V1=>Am c A N' (spliced (backTo pos (starEach rest env))) F1 V1 (fun N2 vs=>QL N2 (v::vs))))
  (he:starEach (e::rest) env=(false,eval e env)::starEach rest env):Am c A N (spliced (backTo pos (starEach (e::rest) env))) F V QL:=fun s S hN=>
 wpAny_items_cons (h.fu S hN fun _ s1 _ _ _ S1 hN1 h1=>h1 s1 S1 hN1) he
theorem Am.A0 {pos:_}{QL:Nat→List Value→FM→Aa→Prop}(h:QL N [] F V):Am c A N (spliced (backTo pos (starEach [] env))) F V QL:=.of (Run.A0 h)
theorem Am.tup {elts k pos:_}(h:Am c A N (spliced (backTo pos (starEach elts env))) F V (fun N' vs F1 V1=>vs.length≤1000∧∀a,Q N' (.ref a) F1 ((a,Dh vs)::V1))):Am c A N (eval (.Tuple elts k pos) env) F V Q:=fun s S hN=>
 wpAny_Tuple (h.fu S hN fun vs s1 F1 V1 N' S1 hN1 h1=>⟨NC h1.1,F1,_,N',⟨S1.toStP.push (P:=Dh vs) (k:=s1.toks) ⟨rfl,_,rfl⟩,S1.tk⟩,hN1,h1.2 _⟩)
theorem Am.bin {l op r p:_}(h:Run c A (eval l env) F V (fun a F1 V1=>Run c A (eval r env) F1 V1 (fun b F2 V2=>Am c A N (binaryOp op a b) F2 V2 Q))):Am c A N (eval (.BinOp l op r p) env) F V Q:=fun s S hN=>
 wpAny_BinOp (Run.kt h S hN fun _ s1 _ _ S1 hN1 h1=>Run.kt h1 S1 hN1 fun _ s2 _ _ S2 hN2 h2=>h2 s2 S2 hN2)
theorem Am.addW {a:List Nat}{us:Tok}(hM:M≤us) (hN:us<N) (ha:a.length<1000) (h:∀u N',M≤u→u<N'→N≤N'→Q N' (.str (tx (a++[d])) u) F V):Am c A N (binaryOp .Add (.str (tx a) t) (.str (ch d) us)) F V Q:=fun s S hs=>by
 refine PySem.P.add_str ?_
 have e:tx a++ch d=tx (a++[d]):=Gh a [d]
 have hd:((ch d).length==0)=false:=rfl
 induction a with
 |nil=>
  rw[if_pos (by rfl)]
  exact Cr F V N S hs (h us N hM hN (eh _))
 |cons b r=>
  rw[if_neg (by rw[Av];simp),hd,if_neg (by decide),e]
  refine⟨by rw[Av,eT];simp at ha⊢;lia,F,V,s.toks+1,⟨⟨S.own,S.base,S.gens,S.os⟩,eA _⟩,eh _,h s.toks (s.toks+1) (eb hM (ec (ea hN hs))) (ey _) (Nat.le_succ_of_le hs)⟩
end
section
variable {Q:Nat→Flow→FM→Sm→Aa→Prop}{idh idw ids:Str}
theorem RN.push {P:Value→Prop}{a:List Nat}{us:Tok}{i:Int}(ok:Ok x (n+2) gs) (hx:Str.ofString "heappush" ∈ gs) (hh:Ad idh (.val (.ref l)) m) (hw:Ad idw (.str (tx a)) m) (hs:Ad ids (.val (.str (ch d) us)) m) (h1:Ev x F m ((l,Ab vs)::V) e1 (.int i)) (hi:AR P F vs its) (hsz:its.length<9000) (ha:a.length<1000)
  (hM:M≤us) (hN:us<N)
  (kk:∀F' b t u N',Le F F'→M≤u→u<N'→N≤N'→Tu F' b [.int i t,.str (tx (a++[d])) u]→∃P':Value→Prop,AR P' F' vs its∧P' (.ref b)∧∀F'' vs',Le F' F''→AR P' F'' vs' (By its (i,tx (a++[d])))→RN x N' rest F'' m ((l,Ab vs')::V) Q)
  (hn1:autoParam (notStar e1=true) aR)
  (hsw:autoParam (swapsWith (.Call (.Name (Str.ofString "heappush") p1) [.Name idh p2,.Tuple [e1,.BinOp (.Name idw q1) .Add (.Name ids q2) q3] k tp] [] pos) Option.none p.line x.env=(Pure.pure false:Sem Bool)) aU):
  RN x N (.Expr (.Call (.Name (Str.ofString "heappush") p1) [.Name idh p2,.Tuple [e1,.BinOp (.Name idw q1) .Add (.Name ids q2) q3] k tp] [] pos) p::rest) F m ((l,Ab vs)::V) Q:=fun K Vf ft s S hNs=>
 have r:Am x.fo x.A N (eval (.Call (.Name (Str.ofString "heappush") p1) [.Name idh p2,.Tuple [e1,.BinOp (.Name idw q1) .Add (.Name ids q2) q3] k tp] [] pos) x.env) F Vf (fun N' _ F' V'=>∀s',St x.fo F' V' s'→N'≤s'.toks→wpAny (Mo x.fo) x.A (execs rest x.env) (BS x F K Q) (fun _ _=>False) s'):=
  Am.CA (Run.lg ok.gv ok.gb hx ME (Am.Gx (Jf x.w x.os) (Am.fit ft.fit (Am.AL (Am.of (Run.C1 ok hh Sb.refl (Am.AL (Am.tup (Am.AL (Am.of (h1.kI Sb.refl fun V1 t f1=>
   Am.fit f1.fit (Am.AL (Am.bin ((Ev.nm (p:=q1) (s:=.str (tx a)) ok hw).kS Sb.refl fun V2 t2 f2=>(Ev.nm (p:=q2) (s:=.val (.str (ch d) us)) ok hs).kV f2 fun V3 f3=>Am.addW hM hN ha fun u N' hu1 hu2 hu3=>Am.A0 ⟨by simp,fun b=>Am.A0
    (AA.fit f3.cons.fit fun s2 S2=>EX S2.own.freeze fun F4 o le4 ho hp O4=>AX (kk F4 b t u N' le4 hu1 hu2 hu3 (Ak o ho hp)) fun P' hi' hp' kk=>
     (AA.fit (Fc (V:=(l,Ab vs)::V) Sb.refl).fit (AA.mono (Ot (n:=n) (w:=x.w) (os:=x.os) (Q:=fun v F' W=>Le F4 F'∧RN x N' rest F' m W Q) ok.rm hi' ⟨⟨b,t,u,rfl,o,ho,hp⟩,hp'⟩ hsz (fun F' vs' le h=>⟨le,kk F' vs' le h⟩) _)
      fun f F' V' q=>q.elim fun v q=>Ak v q.1 (q.2.2.elim fun W r=>fun s' S' hN'=>r.2.2.go (Le.trans le4 r.2.1) (Fd r.1) S' hN'))) s2 ⟨⟨O4,fun b y e=>le4 b y (S2.base b y e),S2.gens,S2.os⟩,S2.tk⟩)⟩)) rfl))) (AD hn1))) rfl))) rfl)) rfl))
 wpAny_execs_cons (wpAny_Expr_any (ej (r s S hNs) (fun v s' h=>FE h fun F' V' N' S' q=>q.2 s' S' q.1) fun _ _ e=>e) (by dsimp only[interactive];rw[ok.gv.kind];rfl) hsw)
end
section
variable {Q:Nat→Value→FM→Aa→Prop}
theorem Am.str (h:∀t N',t≠0→t<N'→N≤N'→Q N' (.str y t) F V):Am c A N (eval (.Constant (.str y) k p) env) F V Q:=fun s S hN=>
 wpAny_Constant_str (Cr F V (s.toks+1) ⟨⟨S.own,S.base,S.gens,S.os⟩,eA _⟩ (eh _) (h s.toks (s.toks+1) (eF S.tk) (ey _) (Nat.le_succ_of_le hN)))
theorem Am.lst {elts pos:_}(h:Am c A N (spliced (backTo pos (starEach elts env))) F V (fun N' vs F1 V1=>vs.length≤1000∧∀a,Q N' (.ref a) F1 ((a,Ab vs)::V1))):Am c A N (eval (.List elts pos) env) F V Q:=fun s S hN=>
 wpAny_List (h.fu S hN fun vs s1 F1 V1 N' S1 hN1 h1=>⟨NC h1.1,F1,_,N',⟨S1.toStP.push (P:=Ab vs) (k:=s1.toks) ⟨_,rfl⟩,S1.tk⟩,hN1,h1.2 _⟩)
theorem Am.freeze {α:Type}{t:Sem α}{Q:Nat→α→FM→Aa→Prop}(h:∀F' o,Le F F'→F' a=some o→P o→Am c A N t F' V Q):Am c A N t F ((a,P)::V) Q:=fun s S hN=>by
 refine EX (S.own.freeze) fun F' o le ha hp O=>?_
 exact h F' o le ha hp s ⟨⟨O,fun b x e=>le b x (S.base b x e),S.gens,S.os⟩,S.tk⟩ hN
theorem Am.SE {rest:List Expr}(h:Am (cx w os) A N (spliced (backTo pos (starEach (e::rest) env))) F V (fun N' vs F1 V1=>Am (cx w os) A N' (PySem.call (.ref 259) vs) F1 V1 Q))
  (he:starEach (e::rest) env=(false,eval e env)::starEach rest env) (hplain:(backTo pos (starEach rest env)).any (·.1)=false):Am (cx w os) A N (callWith pos (.ref 259) [] (backTo pos (starEach (e::rest) env)) []) F V Q:=fun s S hN=>by
 have h:=h s S hN
 rw[he] at h⊢
 have hst:((backTo pos ((false,eval e env)::starEach rest env)).any (fun x=>x.fst)||([]:List (Option Str×Sem Value)).any fun x=>x.fst.isNone)=false:=by
  refine(?_:((false||(backTo pos (starEach rest env)).any (·.1))||false)=false)
  rw[hplain];rfl
 dsimp only[callWith]
 refine d8 (en (Calls.evalArgs_plain (ej h (fun vs s₁ q=>FE q fun F1 V1 N' S1 r=>?_) fun _ _ x=>x)))
 refine GB S1.toStP fun nm q bs sn sub col dd k0 k1 k2 k3 k5 hC _=>?_
 have f1:=tc_lookup
 have hT:s₁.TypeIs (.ref 259) "type":=Ak _ hC rfl
 refine d8 (wpAny_standAt ?_)
 refine(?_:wpAny _ _ (keeperOf (.ref 259)>>=_) _ _ _)
 repeat (any_goals (first|assumption|with_reducible refine wpAny_loadPart_at hC ?_|with_reducible refine wpAny_load' hC ?_|wp_step))
 rw[if_pos (by rfl),hst]
 exact d8 (ej (r.2 s₁ S1 r.1) (fun r s' hr=>d8 (en (wpAny_point (d9 hr)))) fun _ _ x=>x)
end
inductive AsN (x:Cc) (id_:Str) (rest:List Stmt) (Q:Nat→Flow→FM→Sm→Aa→Prop) (m:Sm) (N:Nat) (v:Value) (F:FM) (W:Aa):Prop
 |mk {s s0 m':_}:s.ok (some v)→Aj id_ s0 s m m'→RN x N rest F m' W Q→AsN x id_ rest Q m N v F W
section
variable {Q:Nat→Flow→FM→Sm→Aa→Prop}
def Ef (x:Cc) (N:Nat) (F:FM) (m:Sm) (V:Aa) (e:Expr) (Q:Nat→Value→FM→Aa→Prop):Prop:=∀K Vf,Sb (full x m (V++K)) Vf→Am x.fo x.A N (eval e x.env) F Vf (fun N' v F' V'=>Le F F'∧∃W,Sb (full x m (W++K)) V'∧Q N' v F' W)
theorem RN.asg {Qv:Nat→Value→FM→Aa→Prop}(ok:Ok x n gs) (h:Ef x N F m V e Qv) (kk:∀N' v F' W,Le F F'→Qv N' v F' W→∃s s0 m',s.ok (some v)∧Aj id_ s0 s m m'∧RN x N' rest F' m' W Q)
  (hs:autoParam (swapsWith e (some (.Name id_ p')) p.line x.env=(Pure.pure false:Sem Bool)) aU):RN x N (.Assign [.Name id_ p'] e p::rest) F m V Q:=fun K Vf ft s S hN=>
 wpAny_execs_cons (wpAny_Assign_Name ((h K Vf ft).fu S hN fun v s1 F1 V1 N' S1 hN1 q=>q.2.elim fun W q2=>EY (kk N' v F1 W q.1 q2.2) fun sp s0 m' hv hp h'=>Run.kt (Run.D9 (QU:=fun _ F2 V2=>F2=F1∧V2=full x m' (W++K)) ok.lo hp hv ⟨rfl,rfl⟩) (S1.fit q2.1.fit) hN1 fun _ s2 F2 V2 S2 hN2 e=>h'.go q.1 Sb.refl (e.1▸e.2▸S2) hN2) hs)
theorem RN.Bi (ok:Ok x n gs) (h:Ef x N F m V e (AsN x id_ rest Q m)) (hs:autoParam (swapsWith e (some (.Name id_ p')) p.line x.env=(Pure.pure false:Sem Bool)) aU):RN x N (.Assign [.Name id_ p'] e p::rest) F m V Q:=
 .asg ok h (fun _ _ _ _ _ q=>q.casesOn fun{s s0 m'} a b c=>Cr s s0 m' a b c) hs
theorem Ef.Wc {QV:Nat→Value→FM→Aa→Prop}(h:∀F' a b i t N',t≠0→t<N'→N≤N'→Le F F'→Tu F' b [.int 0 i,.str (Str.ofString "") t]→QV N' (.ref a) F' ((a,Ab [.ref b])::V)):
  Ef x N F m V (.List [.Tuple [.Constant (.int 0) k1 p1,.Constant (.str (Str.ofString "")) k2 p2] k3 p3] p4) QV:=fun K Vf ft=>by
 refine Am.lst (Am.AL (Am.tup (Am.AL (Am.of ((Ev.int (i:=0) (k:=k1) (p:=p1)).kI ft fun V1 t f1=>?_)) rfl)) rfl)
 refine Am.AL (Am.str fun u N' hu1 hu2 hu3=>Am.A0 ⟨by simp,fun b=>Am.freeze fun F' o le h1 h2=>Am.A0 ⟨by simp,fun a=>⟨le,(a,Ab [.ref b])::V,(Sb.perm (.swap ..)).trans f1.cons,h F' a b t u N' hu1 hu2 hu3 le (Ak o h1 h2)⟩⟩⟩) rfl
theorem Ef.JP {l:List Nat}{QV:Nat→Value→FM→Aa→Prop}(ok:Ok x (n+5) gs) (hx:Str.ofString "SequenceMatcher" ∈ gs) (he:Ev x F m V e (.str (tx l))) (hl:l.length<100) (ha:l.all (·<128)=true) (hn:notStar e=true)
  (h:∀F' o dx D j t u N',u≠0→u<N'→N≤N'→Le F F'→Bs x.w F' D l→BB F' j→QV N' (.ref o) F' ((o,AH dx)::(dx,atS (AW (.val .none) (.val (.str (Str.ofString "") u)) (.val (.str (tx l) t)) (.val (.bool true)) (.val (.ref D)) (.val (.ref j))))::V)):
  Ef x N F m V (.Call (.Name (Str.ofString "SequenceMatcher") p) [.Constant .none k1 p1,.Constant (.str (Str.ofString "")) k2 p2,e] [] pos) QV:=fun K Vf ft=>by
 refine Am.CA ?_
 refine Run.lg ok.gv ok.gb hx U5 ?_
 refine Am.SE (w:=x.w) (os:=x.os) (Am.AL (Am.of (Run.none ?_)) rfl) rfl (by rw[AD rfl,AD hn];rfl)
 refine Am.AL (Am.str fun u N' hu hu2 hu3=>Am.AL (Am.of (he.kS ft fun V1 t f1=>Am.A0 ?_)) (AD hn)) rfl
 refine Am.of (Run.fit f1.fit (Run.JP (n:=n+4) (ks:=["isjunk","a","b","autojunk","matching_blocks","opcodes","fullbcount","b2j","bjunk","bpopular"]) ok.rm (TC _ _) (by decide+kernel) (by decide+kernel) fun o dx A' rm'=>?_))
 exact RV.to (WA (n:=n) (w:=x.w) (os:=x.os) (V:=[]) rm' hu hl ha fun F' D j le h1 h2 V' sb=>⟨rfl,le,_,Sb.trans (.perm ((eK ..).trans ((eK ..).cons _))) sb,h F' o dx D j t u N' hu hu2 hu3 le h1 h2⟩)
end
theorem aT (l:List Nat):Txt.slice (tx l) Option.none (some (-1))=tx l.dropLast:=by
 rw[EB,DL,Av,Lb,show clip Option.none 0 l.length=0 from rfl,List.drop_zero,Nat.sub_zero,List.dropLast_eq_take]
theorem J2 (l:List Nat):Txt.slice (tx l) (some 1) Option.none=tx (l.drop 1):=by
 rw[EB,DL,Av,show(1:Int)=((1:Nat):Int) from rfl,Hp,show clip Option.none l.length l.length=l.length from rfl]
 induction l with
 |nil=>rfl
 |cons a r=>rw[show min 1 (a::r).length=1 from Nat.min_eq_left (eL (eB _)),List.take_of_length_le (eH (List.length_drop ..))]
theorem aQ (l:List Nat):Txt.slice (tx l) (some 1) (some (-1))=tx (l.drop 1).dropLast:=by
 rw[EB,DL,Av,Lb,show(1:Int)=((1:Nat):Int) from rfl,Hp]
 induction l with
 |nil=>rfl
 |cons a r=>rw[show min 1 (a::r).length=1 from Nat.min_eq_left (eL (eB _)),List.dropLast_eq_take,List.length_drop]
inductive NmP (i j k:Int) (P:FM→Aa→Prop) (v:Value) (F:FM) (W:Aa):Prop
 |mk {b t u r:_}:v= .ref b→Tu F b [.int i t,.int j u,.int k r]→P F W→NmP i j k P v F W
section
variable {t:List Stmt}{Q:Nat→Flow→FM→Sm→Aa→Prop}{s:Sp}{i k:Int}
theorem RN.sb (sb:Sb W V) (h:RN x N t F m W Q):RN x N t F m V Q:=fun K Vf ft=>h K Vf ((Sb.cons sb.app).trans ft)
theorem RN.wk (hp:Aj id_ s s' m m') (hs:∀o,s.ok o→s'.ok o) (h:RN x N t F m' V Q):RN x N t F m V Q:=fun K Vf ft st S hN=>by
 refine h K (full x m' (V++K)) Sb.refl st ((S.fit ft.fit).fit fun _ _ O=>O.imp fun o ho=>?_) hN
 obtain⟨h1,h2,es,ep,h3,h4,h5⟩:=ho
 refine⟨hp.keys▸h1,h2,es,ep,h3,h4,fun q hq=>?_⟩
 have hnd:(m.map (·.1)).Nodup:=h1▸h2
 rcases hp.mem hnd q hq with rfl|⟨hq, -⟩
 ·exact hs _ (h5 _ hp.has.mem)
 ·exact h5 _ hq
theorem Rx.Bq {k:Nat}(h1:Rx x F m V e1 (ItK QV k)) (h2:∀F' W,Ev x F' m W e2 (.int i)) (hi:i=k) (hk:k<1000:=by decide) (hp:autoParam (C9 e2=true) aR):Rx x F m V (.Subscript e1 e2 p) QV:=.ki fun K Vf Q' ft kk=>
 .ED (h1.fu ft fun v1 F1 V1 W le f1 q=>q.casesOn fun{b vs u} e ht hv q=>(h2 F1 W).kI f1 fun V2 t2 f2=>hi▸e▸Run.Bq ht (by lia) hv (kk u F1 V2 W le f2 q) (EE hp))
theorem Tx.HT (ok:Ok x n gs) (h1:Rx x F m V e1 fun v F' W=>Ec F' v i j k∧Rx x F' m W e2 (NmP i' j' k' fun F2 W2=>QB (!(i==i' && j==j' && k==k')) F2 W2)) (hm:autoParam (behindInMarks .NotEq e2=false) aU):Tx x F m V (.Compare e1 [.NotEq] [e2] p) QB:=.ki fun K Vf Q' ft kk=>
 .DF (h1.fu ft fun v1 F1 V1 W le f1 q=>q.1.elim fun a q1=>q1.elim fun t q1=>q1.elim fun u q1=>q1.elim fun r q1=>q.2.fu f1 fun v2 F2 V2 W2 le2 f2 q2=>q2.casesOn fun{b t' u' r'} e2 ht hq=>q1.1▸e2▸Run.HT ok.rm (q1.2.le le2) ht ⟨_,rfl,kk _ F2 V2 W2 (le.trans le2) f2 hq⟩) hm
end
noncomputable def A9 (text wd:List Nat):List Nat:=if Txt.contains (tx text) (tx wd) then wd else wd.dropLast
noncomputable def C6 (alpha wd:List Nat) (its:List Itm):List Itm:=alpha.foldl (fun its c=>By its ((wd.length:Int)+1,tx (wd++[c]))) its
inductive LkB {ρ:Type}(o f h c g:Bool) (a b d:Option ρ) (r:ρ):Prop
 |a:o=true→f=true→h=true→a=some r→LkB o f h c g a b d r
 |b:o=true→f=true→h=false→c=true→g=true→b=some r→LkB o f h c g a b d r
 |d:o=true→f=true→h=false→c=false→d=some r→LkB o f h c g a b d r
noncomputable def GV {ρ:Type}(o f h c g:Bool) (a b d:Option ρ):Option ρ:=bif o then(bif f then(bif h then a else bif c then(bif g then b else none) else d) else none) else none
theorem CY {ρ:Type}{c:Bool}{a:Option ρ}{r:ρ}(h:(bif c then a else none)=some r):c=true∧a=some r:=by
 cases c
 ·cases h
 ·exact⟨rfl,h⟩
theorem NH {ρ:Type}{o f h c g:Bool}{a b d:Option ρ}{r:ρ}(e:GV o f h c g a b d=some r):LkB o f h c g a b d r:=by
 refine And.elim (fun ho e=>?_) (CY e)
 obtain⟨hf,e⟩:=CY e
 cases h with
 |true=>exact .a ho hf rfl e
 |false=>
  cases c with
  |true=>exact .b ho hf rfl rfl (CY e).1 (CY e).2
  |false=>exact .d ho hf rfl rfl e
noncomputable def Dv {α ω:Type}(pop:List α→Option (α×List α)) (wd:α→ω) (sz:ω→Nat) (f1 hd cn f2:ω→Bool) (push:ω→List α→List α):Nat→List α→List ω→List ω→Option (List ω×List ω)
 |0,_,_,_=>none
 |k+1,its,asked,lack=>bif decide (its.length<1000) then(pop its).elim (bif its.isEmpty then some (asked,lack) else none) fun p=>
   GV (decide (sz (wd p.1)<100) && (decide (p.2.length<1000) && (decide (asked.length<1000) && decide (lack.length<1000)))) (f1 (wd p.1)) (hd (wd p.1)) (cn (wd p.1)) (f2 (wd p.1))
    (Dv pop wd sz f1 hd cn f2 push k (push (wd p.1) p.2) (asked++[wd p.1]) lack) (Dv pop wd sz f1 hd cn f2 push k p.2 (asked++[wd p.1]) (lack++[wd p.1])) (Dv pop wd sz f1 hd cn f2 push k p.2 (asked++[wd p.1]) lack)
   else none
noncomputable def Er (text alpha:List Nat):Nat→List Itm→List (List Nat)→List (List Nat)→Option (List (List Nat)×List (List Nat)):=
 Dv Cf (fun t=>cl t.2) List.length (fun wd=>decide (B1 wd text 0 wd.length 0 text.length=some (0,BD text (A9 text wd),((A9 text wd).length:Int)))) (fun wd=>decide (A9 text wd=wd)) (fun wd=>Txt.contains (tx text) (tx (wd.drop 1)))
  (fun wd=>decide (B1 wd text 1 wd.length 1 ((text.length:Int) - 1)=some (((Cd (wd.drop 1) ((text.drop 1).dropLast)).1:Int)+1,(Cd (wd.drop 1) ((text.drop 1).dropLast)).2.1+1,((Cd (wd.drop 1) ((text.drop 1).dropLast)).2.2:Int)))) (C6 alpha)
def Cy (F:FM) (N:Nat) (τ:Tok→Str) (v:Value):Prop:=∃b i t y u,v= .ref b∧Tu F b [.int i t,.str y u]∧u≠0∧u<N∧τ u=y
theorem Tu.inj {ws:List Value}(h1:Tu F a vs) (h2:Tu F a ws):vs=ws:=by
 obtain⟨o,e, -,n,d⟩:=h1
 obtain⟨o',e', -,n',d'⟩:=h2
 replace e':=(e)▸e';cases e'
 rw[d] at d'
 injection d' with q
 simpa using congrArg Array.toList q
theorem Cy.up (h:Cy F N τ v) (le:Le F F') (hN:N≤N') (ht:∀u,u<N→τ' u=τ u):Cy F' N' τ' v:=by
 refine Lu (h) fun b i t y u e h1 h2 h3 h4=>?_
 exact Js b i t y u e (h1.le le) h2 (ea h3 hN) ((ht u h3).trans h4)
theorem AR.G8 {ps:List Itm}(h:AR (Cy F N τ) F' vs ps) (le:Le F F') (hN:N≤N') (ht:∀u,u<N→τ' u=τ u):AR (Cy F' N' τ') F' vs ps:=h.mono fun _ _ x=>⟨x.1,x.2.up le hN ht⟩
theorem Os (its:List Itm) (p:Itm):(By its p).length=its.length+1:=by
 simp only[By,DC,JZ,eO];rfl
structure Lk where
 (text alpha:List Nat)
 (o dx D jb hp A1 A2:Addr)
 (tt:Tok)
noncomputable abbrev Lk.sm (c:Lk) (wd hd sg si sj sz:Sp):Sm:=[("text",.str (tx c.text)),("alphabet",.str (tx c.alpha)),("matcher",.val (.ref c.o)),("heap",.val (.ref c.hp)),("asked",.val (.ref c.A1)),("lacking",.val (.ref c.A2)),("word",wd),("head",hd),("sign",sg),("i",si),("j",sj),("size",sz)]
noncomputable abbrev Lk.own (c:Lk) (va:Value) (V:Aa):Aa:=(c.o,AH c.dx)::(c.dx,atS (AW (.val .none) (.val va) (.val (.str (tx c.text) c.tt)) (.val (.bool true)) (.val (.ref c.D)) (.val (.ref c.jb))))::V
inductive LaI (c:Lk) (w:World) (V:Aa) (RES:List (List Nat)×List (List Nat)) (k N:Nat) (F:FM):Sm→Aa→Prop
 |mk {its vs av lv asked lack z ua τ wd hd sg si sj sz:_}:AR (Cy F N τ) F vs its→Er c.text c.alpha k its asked lack=some RES→ua≠0→ua<N→τ ua=z→Bs w F c.D c.text→BB F c.jb→Af Ah av asked→Af Ah lv lack→
   LaI c w V RES k N F (c.sm wd hd sg si sj sz) (c.own (.str z ua) ((c.hp,Ab vs)::(c.A1,Ab av)::(c.A2,Ab lv)::V))
inductive LkE (text alpha wd:List Nat) (k:Nat) (r:List Itm) (asked lack:List (List Nat)) (R:List (List Nat)×List (List Nat)):Prop
 |same:A9 text wd=wd→Er text alpha k (C6 alpha wd r) (asked++[wd]) lack=some R→LkE text alpha wd k r asked lack R
 |two {g:_}:A9 text wd≠wd→Txt.contains (tx text) (tx (wd.drop 1))=true→g=Cd (wd.drop 1) ((text.drop 1).dropLast)→B1 wd text 1 wd.length 1 ((text.length:Int) - 1)=some ((g.1:Int)+1,g.2.1+1,(g.2.2:Int))→Er text alpha k r (asked++[wd]) (lack++[wd])=some R→LkE text alpha wd k r asked lack R
 |no:A9 text wd≠wd→Txt.contains (tx text) (tx (wd.drop 1))=false→Er text alpha k r (asked++[wd]) lack=some R→LkE text alpha wd k r asked lack R
inductive LkS (text alpha:List Nat) (k:Nat) (its:List Itm) (asked lack:List (List Nat)) (R:List (List Nat)×List (List Nat)):Prop
 |fin:its.isEmpty=true→R=(asked,lack)→LkS text alpha k its asked lack R
 |mk {k' wd x0 r:_}:k'<k→its.isEmpty=false→Cf its=some ((x0,tx wd),r)→its.length<1000→wd.length<100→r.length<1000→asked.length<1000→lack.length<1000→B1 wd text 0 wd.length 0 text.length=some (0,BD text (A9 text wd),((A9 text wd).length:Int))→LkE text alpha wd k' r asked lack R→LkS text alpha k its asked lack R
theorem JG {R:List (List Nat)×List (List Nat)}{p:Itm×List Itm}(hp:Cf its=some p) (hlen:its.length<1000)
  (ho:(decide ((cl p.1.2).length<100) && (decide (p.2.length<1000) && (decide (asked.length<1000) && decide (lack.length<1000))))=true) (hf:decide (B1 (cl p.1.2) text 0 (cl p.1.2).length 0 text.length=some (0,BD text (A9 text (cl p.1.2)),((A9 text (cl p.1.2)).length:Int)))=true) (hE:LkE text alpha (cl p.1.2) k p.2 asked lack R):LkS text alpha (k+1) its asked lack R:=
 have h1:=fi ho
 have h2:=fi h1.2
 have h3:=fi h2.2
 .mk (x0:=p.1.1) (ey k) (by cases its with|nil=>cases hp|cons=>rfl) (by rw[EF];exact hp) hlen (ee h1.1) (ee h2.1) (ee h3.1) (ee h3.2) (ee hf) hE
theorem Xs {R:List (List Nat)×List (List Nat)}(h:Er text alpha k its asked lack=some R):its.length<1000∧LkS text alpha k its asked lack R:=by
 cases k with
 |zero=>cases h
 |succ k=>
  obtain⟨hlen,h⟩:=CY h
  have hlen:=ee hlen
  refine⟨hlen,?_⟩
  cases hp:Cf its with
  |none=>
   rw[hp] at h
   obtain⟨he,h⟩:=CY h
   exact .fin he (ed h).symm
  |some p=>
   replace h:=(hp)▸h
   cases NH h with
   |a ho hf hh e=>exact JG hp hlen ho hf (.same (ee hh) e)
   |b ho hf hh hc hg e=>exact JG hp hlen ho hf (.two (of_decide_eq_false hh) hc rfl (ee hg) e)
   |d ho hf hh hc e=>exact JG hp hlen ho hf (.no (of_decide_eq_false hh) hc e)
theorem Ny (wd:List Nat):∀(alpha:List Nat) (its:List Itm),(C6 alpha wd its).length=its.length+alpha.length
 |[],its=>rfl
 |c::r,its=>by
  refine(?_:(C6 r wd (By its _)).length=_)
  simp only[Ny wd r,Os,List.length_cons];exact Nat.add_right_comm _ _ _
theorem Xq (wd alpha:List Nat) (d:Nat) (its:List Itm):C6 (alpha++[d]) wd its=By (C6 alpha wd its) ((wd.length:Int)+1,tx (wd++[d])):=List.foldl_append ..
inductive LaJ (c:Lk) (V:Aa) (N:Nat) (τ:Tok→Str) (wd:List Nat) (t':Tok) (r:List Itm) (av lv:List Value) (si sj sz:Sp) (i N':Nat) (F:FM):Sm→Aa→Prop
 |mk {vs τ2 sg:_}:N≤N'→(∀u,u<N→τ2 u=τ u)→AR (Cy F N' τ2) F vs (C6 (c.alpha.take i) wd r)→LaJ c V N τ wd t' r av lv si sj sz i N' F (c.sm (.str (tx wd)) (.str (tx wd)) sg si sj sz) (c.own (.str (tx wd) t') ((c.hp,Ab vs)::(c.A1,Ab av)::(c.A2,Ab lv)::V))
theorem WF (h:IP (Cy F N τ) F' v (x0,y)) (le:Le F F'):∃b t u,v= .ref b∧Tu F' b [.int x0 t,.str y u]∧u≠0∧u<N∧τ u=y:=by
 obtain⟨⟨b,t1,u1,rfl,tu⟩,b',i',t',y',u',e',tu',g1,g2,g3⟩:=h
 cases e'
 have q:=tu.inj (tu'.le le)
 injection q with q1 q2
 injection q2 with q2 q3
 injection q2 with q4 q5
 subst q4;subst q5
 exact GM b t1 u1 rfl tu g1 g2 g3
theorem Xp (text wd:List Nat):(A9 text wd).length≤wd.length:=by
 simp only[A9]
 split
 ·exact eh _
 ·rw[List.length_dropLast];exact Nat.sub_le _ _
theorem Pu {a b:List Nat}(h:(tx a==tx b)=true):a=b:=by have:=eq_of_beq h;rw[←DL a,this,DL]
theorem NL {i k:Int}{P:Prop}(h:(!(i==i && j==j && k==k))=true):P:=by simp at h
theorem Pw {u v:Nat}(h:v<N) (hu:N≤u):(fun q:Tok=>if q=u then y else τ q) v=τ v:=if_neg (by rintro rfl;exact absurd h (Nat.not_lt.mpr hu))
section
variable {c:Lk}{RES:List (List Nat)×List (List Nat)}{r:List Itm}{av lv:List Value}{hd:Sp}
theorem Xw {Q:Nat→Flow→FM→Sm→Aa→Prop}(ok:Ok x (n+5) ["SequenceMatcher","heappop","heappush","len","_law_longest"]) (haa:c.alpha.all (·<128)=true) (hal:c.alpha.length<100) (hi:AR (Cy F N τ) F vs r) (hwl:wd.length<100) (hrl:r.length<1000) (ht:t'<N) (hu:τ t'=tx wd)
  (h:∀N' F' vs' τ' sg',N≤N'→Le F F'→τ' t'=tx wd→AR (Cy F' N' τ') F' vs' (C6 c.alpha wd r)→Q N' .next F' (c.sm (.str (tx wd)) (.str (tx wd)) sg' si sj sz) (c.own (.str (tx wd) t') ((c.hp,Ab vs')::(c.A1,Ab av)::(c.A2,Ab lv)::V))):
  RN x N (Du true (Du true ((bodyOf (GD x.w.params))[4]?))[5]?) F (c.sm (.str (tx wd)) (.str (tx wd)) sg si sj sz) (c.own (.str (tx wd) t') ((c.hp,Ab vs)::(c.A1,Ab av)::(c.A2,Ab lv)::V)) Q:=by
 refine(?_:RN _ _ (_::_) _ _ _ _)
 refine RN.UD ok (LaJ c V N τ wd t' r av lv si sj sz) (y:=tx c.alpha) (.nm ok Ai) (by simpa [tx] using haa) (fun N' hN'=>.mk hN' (fun _ _=>rfl) (hi.G8 (Le.refl _) hN' fun _ _=>rfl)) ?_ ?_
 ·intro i d us N' F' m' W' hc le hN' hJ
  revert hN' le
  induction hJ with|mk j1 j2 j3=>
  rename_i vs2 τ2 sg2
  intro le hN'
  have hc:c.alpha[i]? =some d:=by simpa [tx] using hc
  have hi:i<c.alpha.length:=(List.getElem?_eq_some_iff.mp hc).1
  refine Ae _ _ (put8:Aj (Str.ofString "sign") sg2 (.val (.str (ch d) us)) (c.sm (.str (tx wd)) (.str (tx wd)) sg2 si sj sz) (c.sm (.str (tx wd)) (.str (tx wd)) (.val (.str (ch d) us)) si sj sz)) ?_
  refine RN.sb (W:=(c.hp,Ab vs2)::c.own (.str (tx wd) t') ((c.A1,Ab av)::(c.A2,Ab lv)::V)) (Part.sb (.cons (.tail (.tail .head)) .refl)) ?_
  refine RN.push (M:=N') (n:=n+3) (i:=(wd.length:Int)+1) ok Ce Ay AG BN (Ev.bin (Ev.to (Ev.Bv ok D0 (.nm ok AG) (by rw[Av];exact ec (ea ‹_› (d7 rfl)))) (by rw[Av])) .int Aq.Aw) j3 (by simp only[Ny,eZ];lia) (ea ‹_› (d7 rfl)) hN' (ey _) fun F4 b t4 u4 N4 le4 h1 h2 h3 tu=>?_
  have h1:@LE.le Nat _ N' u4:=h1
  refine⟨Cy F4 N4 (fun q=>if q=u4 then tx (wd++[d]) else τ2 q),(j3.le le4).G8 le4 (ec (ef h1 h2)) (fun q hq=>Pw hq h1),(Js b _ t4 _ u4 rfl tu (eF (ea (ef (eB _) (ea ht j1)) h1)) h2 (if_pos rfl)),fun F5 vs5 le5 hi5=>?_⟩
  refine RN.sb (Part.sb (.cons (.tail .head) (.cons (.tail .head) .refl))) (RN.nil ⟨rfl,LaJ.mk (τ2:=fun q=>if q=u4 then tx (wd++[d]) else τ2 q) (eb j1 (ec (ef h1 h2))) (fun q hq=>(Pw hq (eb j1 h1)).trans (j2 q hq)) ?_⟩)
  rw[take_snoc hc,Xq]
  exact hi5.G8 le5 (eh _) fun _ _=>rfl
 ·intro N' F' m' W' le hJ
  rw[show(tx c.alpha).cps.size=c.alpha.length by simp[tx]] at hJ
  revert le
  induction hJ with|mk j1 j2 j3=>
  rename_i vs2 τ2 sg2
  intro le
  rw[List.take_length] at j3
  exact RN.nil (h _ _ _ _ _ j1 le ((j2 _ ht).trans hu) j3)
theorem Xx {g:Nat×Int×Nat}{Q:Flow→FM→Sm→Aa→Prop}(ok:Ok x (n+5) ["SequenceMatcher","heappop","heappush","len","_law_longest"]) (ht:c.text.length<100) (hB:Bs x.w F c.D c.text) (hS:BB F c.jb) (hwl:wd.length<100) (hlv:lv.length<1000)
  (hct:Txt.contains (tx c.text) (tx (wd.drop 1))=true) (hg:g=Cd (wd.drop 1) ((c.text.drop 1).dropLast)) (hf:B1 wd c.text 1 wd.length 1 ((c.text.length:Int) - 1)=some ((g.1:Int)+1,g.2.1+1,(g.2.2:Int)))
  (h:∀F' t si' sj' sz',Le F F'→Q .next F' (c.sm (.str (tx wd)) hd sg si' sj' sz') (c.own (.str (tx wd) t') ((c.hp,Ab vs)::(c.A1,Ab av)::(c.A2,Ab (lv++[.str (tx wd) t]))::V))):
  R x (Du false (Du true ((bodyOf (GD x.w.params))[4]?))[5]?) F (c.sm (.str (tx wd)) hd sg si sj sz) (c.own (.str (tx wd) t') ((c.hp,Ab vs)::(c.A1,Ab av)::(c.A2,Ab lv)::V)) Q:=by
 refine(?_:R _ (_::_) _ _ _ _)
 have hwx:(tx wd).length=wd.length:=Av wd
 have htx:(tx c.text).length=c.text.length:=Av _
 refine R.B2 (b:=Txt.contains (tx c.text) (tx (wd.drop 1))) (Tb.cmp (Ev.to (Ev.sl (i:=some 1) (j:=Option.none) (.nm ok AG) (.int:Ev x F _ _ _ (.int 1)) trivial (ec (ea ‹_› (d7 rfl)))) (by rw[J2])) (.nm ok has0) Ac.FR) hct ?_
 refine R.CW (s:=.str (tx wd)) (vs:=lv) ok (.nm ok Ax) (.nm ok AG) (fun v=>.tail (.tail (.tail (.tail .head)))) (ec (ea ‹_› (d7 rfl))) fun tl=>?_
 refine R.Q2 ok (Rx.BI ok JL Va (Ml _ _) (.cons (s:=.str (tx (wd.drop 1))) (Ev.to (Ev.sl (i:=some 1) (j:=Option.none) (.nm ok AG) (.int:Ev x F _ _ _ (.int 1)) trivial (ec (ea ‹_› (d7 rfl)))) (by rw[J2])) (.cons (s:=.str (tx ((c.text.drop 1).dropLast))) (Ev.to (Ev.sl (i:=some 1) (j:=some (-1)) (.nm ok has0) (.int:Ev x F _ _ _ (.int 1)) (Ev.neg .int) (ec (ea ‹_› (d7 rfl)))) (by rw[aQ])) .nil)) fun q1 q2=>XY (n:=n+4) ok.rm (by rw[List.length_drop];exact ef (Nat.sub_le _ _) ‹_›) (by rw[List.length_dropLast,List.length_drop];exact Qm ‹_›) fun F1 o k1 k2 k3 le1 tu1=>.mk rfl tu1 (.fq ok CH) (.fq ok FY) (.fq ok Da) ?_)
 refine(hg)▸?_
 refine R.E6 (Tx.HT (i:=(g.1:Int)+1) (j:=g.2.1+1) (k:=g.2.2) (i':=(g.1:Int)+1) (j':=g.2.1+1) (k':=g.2.2) ok
  (Rx.NR ok NN (Jd _ _) (L2 _ _) Al has0 (.tail .head) (Fo (by decide+kernel)) (.cons (s:=.int 1) .int (.cons (s:=.int wd.length) (Ev.to (Ev.Bv ok D0 (.nm ok AG) (ec (ea ‹_› (d7 rfl)))) (by rw[hwx])) (.cons (s:=.int 1) .int (.cons (s:=.int ((c.text.length:Int) - 1)) (Ev.bin (Ev.to (Ev.Bv ok D0 (.nm ok has0) (ec (ea ‹_› (d7 rfl)))) (by rw[htx])) .int Aq.Bh) .nil))))
   fun q1 q2 q3 q4=>L7 (n:=n+2) (t1:=q1) (t3:=q3) (vb:=.int wd.length q2) (vd:=.int ((c.text.length:Int) - 1) q4) (alo:=1) (blo:=1) (ahi:=wd.length) (bhi:=(c.text.length:Int) - 1) ok.rm (fun s k=>BindsTo.of_defaults (T:=206) rfl (k 206 JQ (by kernel_rfl)) rfl rfl rfl) (.inr ⟨_,rfl⟩) (.inr ⟨_,rfl⟩) (hB.le le1) (hS.le le1) (ea ‹_› (d7 rfl)) (ea ‹_› (d7 rfl)) (by decide) (by decide) (er _) (by lia) hf fun F2 v le2 hm=>
    ⟨hm,Rx.BR (.cons (s:=.int ((g.1:Int)+1)) (Ev.bin (.nm ok AT) .int Aq.Aw) (.cons (s:=.int (g.2.1+1)) (Ev.bin (.nm ok AQ) .int Aq.Aw) (.cons (s:=.int g.2.2) (.nm ok AN) .nil))) fun t1 t2 t3 F3 b le3 tu=>.mk rfl tu ⟨fun hb=>NL hb,fun _=>R.nil (R.next (R.nil (R.next (R.nil (h F3 tl _ _ _ (Le.trans le1 (Le.trans le2 le3)))))))⟩⟩))
theorem Xt {ua:Tok}{wd0:Sp}{Q:Nat→Flow→FM→Sm→Aa→Prop}(ok:Ok x (n+5) ["SequenceMatcher","heappop","heappush","len","_law_longest"]) (ht:c.text.length<100) (haa:c.alpha.all (·<128)=true) (hal:c.alpha.length<100) (hi:AR (Cy F N τ) F vs its) (hu1:ua≠0) (hu2:ua<N) (hu3:τ ua=z) (hB:Bs x.w F c.D c.text) (hS:BB F c.jb) (hav:Af Ah av asked) (hlv:Af Ah lv lack)
  (hpop:Cf its=some ((x0,tx wd),r)) (hlen:its.length<1000) (hwd:wd.length<100) (hr:r.length<1000) (hasl:asked.length<1000) (hlal:lack.length<1000) (hflm:B1 wd c.text 0 wd.length 0 c.text.length=some (0,BD c.text (A9 c.text wd),((A9 c.text wd).length:Int))) (hE:LkE c.text c.alpha wd k r asked lack RES)
  (hne:∀N' F' m' W',LaI c x.w V RES k N' F' m' W'→Q N' .next F' m' W'):
  RN x N (Du true ((bodyOf (GD x.w.params))[4]?)) F (c.sm wd0 hd sg si sj sz) (c.own (.str z ua) ((c.hp,Ab vs)::(c.A1,Ab av)::(c.A2,Ab lv)::V)) Q:=by
 refine(?_:RN _ _ (_::_) _ _ _ _)
 have hwx:(tx wd).length=wd.length:=Av wd
 have hal1:=hav.len
 have hhl:=Xp c.text wd
 refine RN.fw (R.sb (W:=(c.hp,Ab vs)::c.own (.str z ua) ((c.A1,Ab av)::(c.A2,Ab lv)::V)) (Part.sb (.cons (.tail (.tail .head)) .refl)) ?_)
 refine R.Bi ok (Rx.Bq (k:=1) (i:=1) (Rx.BI ok Bx MD (Je _ _) (.cons (s:=.val (.ref c.hp)) (.nm ok Ay) .nil) (On (n:=n+2) ok.rm hi hpop (ea ‹_› (d7 rfl)) fun F1 v' vs' le1 h1 hi1=>?_)) (fun _ _=>.int) rfl)
 refine IQ (WF h1 le1) fun b t1 u e tu g1 g2 g3=>.mk e tu rfl (As.fC Db (R.sb (W:=c.own (.str z ua) ((c.hp,Ab vs')::(c.A1,Ab av)::(c.A2,Ab lv)::V)) (Part.sb (.cons (.tail .head) (.cons (.tail .head) .refl))) (R.nil ⟨rfl,?_⟩)))
 refine RN.fw (R.CW (s:=.val (.str (tx wd) u)) (vs:=av) ok (.nm ok Az) (.nm ok AG) (fun v=>.tail (.tail (.tail .head))) (by lia) (R.nil ⟨rfl,?_⟩))
 refine RN.fw (R.Dq ok (Rx.NR ok NO (Jh _ _) (L4 _ _) Al has0 (.tail .head) (Fo (by decide+kernel)) (.cons (s:=.val (.str (tx wd) u)) (.nm ok AG) .nil) (show RV x.fo x.A (.call (.ref 191) ⟨[.ref c.o,.str (tx wd) u],[]⟩) _ _ _ from OP (n:=n+4) ok.rm g1 (.inr (Bg z ua rfl hu1 (fun e=>by rw[←g3,←hu3,e]))) fun t' ht1 ht2=>R.nil ⟨rfl,?_⟩)))
 have htt:t'<N∧τ t'=tx wd:=by
  rcases ht2 with rfl|q
  ·exact⟨g2,g3⟩
  ·cases q
   exact⟨hu2,hu3⟩
 have hB1:=hB.le le1
 have hS1:=hS.le le1
 refine RN.wk (m':=c.sm (.str (tx wd)) hd sg si sj sz) (s:=.val (.str (tx wd) u)) (s':=.str (tx wd)) Db (fun o ho=>⟨u,ho⟩) ?_
 refine RN.fw (R.AC ok (s:=.str (tx (A9 c.text wd))) (Ev.ite (Tb.cmp (.nm ok AG) (.nm ok has0) Ac.FR) (fun hb=>Ev.to (.nm ok AG) (by rw[A9,if_pos hb])) fun hb=>Ev.to (Ev.sl (i:=Option.none) (j:=some (-1)) (.nm ok AG) trivial (Ev.neg .int) (ec (ea ‹_› (d7 rfl)))) (by rw[A9,if_neg (by rw[hb];decide),aT])) D5 (R.nil ⟨rfl,?_⟩))
 refine RN.fw (R.E6 (Tx.HT (i:=0) (j:=BD c.text (A9 c.text wd)) (k:=(A9 c.text wd).length) (i':=0) (j':=BD c.text (A9 c.text wd)) (k':=(A9 c.text wd).length) ok
  (Rx.NQ ok NN (Jd _ _) (L2 _ _) Al has0 (.tail .head) (Fo (by decide+kernel)) (L7 (n:=n+2) (args:=[]) (alo:=0) (blo:=0) (ahi:=wd.length) (bhi:=c.text.length) ok.rm (fun s k=>BindsTo.of_defaults (T:=206) rfl (k 206 JQ (by kernel_rfl)) rfl rfl rfl) (.inl ⟨rfl,rfl⟩) (.inl ⟨rfl,rfl⟩) hB1 hS1 (ea ‹_› (d7 rfl)) (ea ‹_› (d7 rfl)) (by decide) (by decide) (er _) (by lia) hflm fun F2 v le2 hm=>
   ⟨hm,Rx.BR (.cons (s:=.int 0) .int (.cons (s:=.int (BD c.text (A9 c.text wd))) (Ev.find (.nm ok has0) (.nm ok BM)) (.cons (s:=.int (A9 c.text wd).length) (Ev.to (Ev.Bv ok D0 (.nm ok BM) (by rw[Av];exact ec (ef ‹_› (ea ‹_› (d7 rfl))))) (by rw[Av])) .nil))) fun t1 t2 t3 F3 b le3 tu=>.mk rfl tu ⟨fun hb=>NL hb,fun _=>R.nil (R.next (R.nil ⟨rfl,?_⟩))⟩⟩))))
 have le23:=Le.trans le2 le3
 have le13:=Le.trans le1 le23
 have hB3:=hB1.le le23
 have hS3:=hS1.le le23
 have hi3:AR (Cy F3 N τ) F3 vs' r:=(hi1.le le23).G8 le13 (eh _) fun _ _=>rfl
 have hav3:Af Ah (av++[.str (tx wd) u]) (asked++[wd]):=hav.snoc ⟨u,rfl⟩
 cases hE with
 |same h1 hT=>
  rw[h1]
  exact RN.BE (Tb.cmp (.nm ok BM) (.nm ok AG) Ac.AO) (fun _=>Xw ok haa hal hi3 hwd hr htt.1 htt.2 fun N' F' vs2 τ2 sg2 hN le hτ hi=>⟨rfl,RN.nil (hne _ _ _ _ (.mk hi hT ht1 (ea htt.1 hN) hτ (hB3.le le) (hS3.le le) hav3 hlv))⟩) fun hb=>nomatch (eX (tx wd)).symm.trans hb
 |two h1 hct hg hf hT=>
  exact RN.BE (Tb.cmp (.nm ok BM) (.nm ok AG) Ac.AO) (fun hb=>absurd (Pu hb) h1) fun _=>RN.of (Xx ok ht hB3 hS3 hwd (by rw[hlv.len];exact hlal) hct hg hf fun F' t si' sj' sz' le=>⟨rfl,RN.nil (hne _ _ _ _ (.mk ((hi3.le le).G8 le (eh _) fun _ _=>rfl) hT ht1 htt.1 htt.2 (hB3.le le) (hS3.le le) hav3 (hlv.snoc ⟨t,rfl⟩)))⟩)
 |no h1 hct hT=>
  exact RN.BE (Tb.cmp (.nm ok BM) (.nm ok AG) Ac.AO) (fun hb=>absurd (Pu hb) h1) fun _=>RN.of (R.A3 (b:=Txt.contains (tx c.text) (tx (wd.drop 1))) (Tb.cmp (Ev.to (Ev.sl (i:=some 1) (j:=Option.none) (.nm ok AG) (.int:Ev x F3 _ _ _ (.int 1)) trivial (ec (ea ‹_› (d7 rfl)))) (by rw[J2])) (.nm ok has0) Ac.FR) hct (R.nil (R.next (R.nil ⟨rfl,RN.nil (hne _ _ _ _ (.mk hi3 hT ht1 htt.1 htt.2 hB3 hS3 hav3 hlv))⟩))))
end
theorem RN.dt {t:List Stmt}{Q:Flow→FM→Sm→Aa→Prop}(h:RN x 0 t F m V (fun _=>Q)):R x t F m V Q:=fun K Vf ft s S=>
 ej (h K Vf ft s S (eB _)) (fun _ _ q=>by cases q with|mk S' _ le sb q=>exact⟨_,_,S',le,_,_,sb,q⟩) fun _ _ e=>e
theorem Xu {c:Lk}(ok:Ok x (n+5) ["SequenceMatcher","heappop","heappush","len","_law_longest"]) (ht:c.text.length<100) (haa:c.alpha.all (·<128)=true) (hal:c.alpha.length<100) (hI:LaI c x.w V (asked,lack) k N F m W)
  (h:∀F' o a1 a2 v1 v2,Le F F'→Tu F' o [.ref a1,.ref a2]→Ls F' a1 v1→Af Ah v1 asked→Ls F' a2 v2→Af Ah v2 lack→Q (.ref o) F' V):
  RN x N ((bodyOf (GD x.w.params)).drop 4) F m W (fun _ f F' _ W=>En Q (BK f) F' W):=by
 refine(?_:RN _ _ (_::_) _ _ _ _)
 refine RN.G9 (fun k N F m W=>LaI c x.w V (asked,lack) k N F m W) id (fun i N' F' m' V' le hI=>?_) k hI
 revert le
 induction hI with|mk hi hT hu1 hu2 hu3 hB hS hav hlv=>
 rename_i its vs av lv as la z ua τ wd0 hd sg si sj sz
 intro le
 have hs:=Xs hT
 have hlen:vs.length≤100000:=by rw[hi.len];exact ec (ez hs.1 (by decide))
 have hem:(!vs.isEmpty)= !its.isEmpty:=congrArg (!·) hi.emp
 cases hs.2 with
 |fin he e=>
  cases e
  refine⟨_,Tb.fx (.nm ok Ay) (.tail (.tail .head)) hlen,fun hb=>(by rw[hem,he] at hb;cases hb),fun _=>.of (R.DE (Rx.BR (.cons (s:=.val (.ref c.A1)) (.nm ok Az) (.cons (s:=.val (.ref c.A2)) (.nm ok Ax) .nil)) fun F2 o le2 tu=>?_))⟩
  refine En.sb (W:=(c.A1,Ab av)::(c.A2,Ab lv)::V) (Part.sb (.cons (.tail (.tail (.tail .head))) (.cons (.tail (.tail (.tail .head))) (.skip (.skip (.skip .refl)))))) (En.fx fun F3 le3 l1=>En.fx fun F4 le4 l2=>En.one ?_)
  exact h F4 o _ _ _ _ (Le.trans le (Le.trans le2 (Le.trans le3 le4))) (tu.le (Le.trans le3 le4)) (l1.le le4) hav l2 hlv
 |mk hk he hpop h1 h2 h3 h4 h5 h6 hE=>
  exact⟨_,Tb.fx (.nm ok Ay) (.tail (.tail .head)) hlen,fun _=>Xt ok ht haa hal hi hu1 hu2 hu3 hB hS hav hlv hpop h1 h2 h3 h4 h5 h6 hE fun N' F' m' W' hI=>⟨rfl,_,hk,hI⟩,fun hb=>(by rw[hem,he] at hb;cases hb)⟩
theorem Xv {K:Nat}(rm:Rm (n+6) A) (ht:text.length<100) (hta:text.all (·<128)=true) (haa:alpha.all (·<128)=true) (hal:alpha.length<100)
  (hL:Er text alpha K [(0,tx [])] [] []=some (asked,lack))
  (h:∀F' o a1 a2 v1 v2,Le F F'→Tu F' o [.ref a1,.ref a2]→Ls F' a1 v1→Af Ah v1 asked→Ls F' a2 v2→Af Ah v2 lack→Q (.ref o) F' V):RV (cx w os) A (.call (.ref 388) ⟨[.str (tx text) t,.str (tx alpha) u],[]⟩) F V Q:=by
 refine RV.fn ["text","alphabet","matcher","heap","asked","lacking","word","head","sign","i","j","size"] ["SequenceMatcher","heappop","heappush","len","_law_longest"] [("text",.str (tx text)),("alphabet",.str (tx alpha)),("matcher",.any),("heap",.any),("asked",.any),("lacking",.any),("word",.any),("head",.any),("sign",.any),("i",.any),("j",.any),("size",.any)] rm (Mk w os) (binds:=[("text",.str (tx text) t),("alphabet",.str (tx alpha) u)]) rfl (by kernel_rfl) (by kernel_rfl) (by rfl) ⟨⟨_,rfl⟩,⟨_,rfl⟩,trivial,trivial,trivial,trivial,trivial,trivial,trivial,trivial,trivial,trivial,trivial⟩ ?_
 rintro x ok - -
 refine(?_:R _ (_::_) _ _ _ _)
 refine RN.dt ?_
 refine RN.Bi ok (Ef.JP (n:=n) ok AK (.nm ok has0) ht hta rfl fun F1 o dx D j tt u0 N1 hu1 hu2 _ le1 hB hS=>.mk (s:=.val (.ref o)) rfl put2 ?_)
 refine RN.Bi ok (Ef.Wc fun F2 hp b i t0 N2 ht1 ht2 hN le2 tu=>.mk (s:=.val (.ref hp)) rfl put3 ?_)
 refine RN.fw (R.new ok (fun a=>BF) fun A1=>R.nil ⟨rfl,?_⟩)
 refine RN.fw (R.new ok (fun a=>Br) fun A2=>R.nil ⟨rfl,?_⟩)
 refine RN.sb (W:=Lk.own ⟨text,alpha,o,dx,D,j,hp,A1,A2,tt⟩ (.str (Str.ofString "") u0) ((hp,Ab [.ref b])::(A1,Ab [])::(A2,Ab [])::V)) (Part.sb (.cons (.tail (.tail (.tail .head))) (.cons (.tail (.tail (.tail .head))) (.cons (.tail (.tail .head)) (.cons (.tail .head) .refl))))) ?_
 exact Xu (n:=n) (c:=⟨text,alpha,o,dx,D,j,hp,A1,A2,tt⟩) ok ht haa hal (.mk (τ:=fun _=>Str.ofString "") (.cons ⟨(CP b i t0 rfl tu),b,_,i,_,t0,rfl,tu,ht1,ht2,rfl⟩ .nil) hL hu1 (ea hu2 hN) rfl (hB.le le2) (hS.le le2) .nil .nil) fun F' o a1 a2 v1 v2 le=>h F' o a1 a2 v1 v2 (Le.trans le1 (Le.trans le2 le))
theorem dN {b:Addr}{n m:Int}{x:Str}{P:PySem.Fin→Shared→Prop}(ha:s.heap.IsTuple a #[.int n t,.str x u]) (hb:s.heap.IsTuple b #[.int m t',.str y u'])
  (h:P (.done (.ret (.bool (!(n==m && decide (x=y)))))) s):wpAny (model P0 w) A (Builtin.«tuple.__ne__» ⟨[.ref a,.ref b],[]⟩) P E s:=by
 have hTb:s.TypeIs (.ref b) "tuple":=hb.typeIs
 obtain⟨oa,h1, -,na,h2⟩:=ha
 obtain⟨ob,g1, -,nb,g2⟩:=hb
 unfold Builtin.«tuple.__ne__»
 refine(?_:wpAny _ _ (isInstance (.ref b) (.type "tuple")>>=_) _ _ _)
 refine d8 (wpAny_isInstance hTb isSubtype_tuple_tuple ?_)
 simp only[Bool.not_true,Bool.false_eq_true,if_false]
 refine d8 (wpAny_tupleItemsOf h1 h2 (d8 (wpAny_tupleItemsOf g1 g2 ?_)))
 refine d8 ?_
 refine(?_:wpAny _ _ (forIn [(Value.int n t,Value.int m t'),(Value.str x u,Value.str y u')] _ _) _ _ _)
 rw[e7]
 refine d8 (d8 (Hv ?_))
 cases e1:n==m<;>rw[e1] at h
 ·exact d8 (d9 (d9 (d9 (d9 h))))
 ·refine d9 ?_
  dsimp only
  rw[e7]
  refine d8 (d8 (wpAny_eqBool_str ?_))
  cases e2:decide (x=y)<;>rw[e2] at h
  ·exact d8 (d9 (d9 (d9 (d9 h))))
  ·refine d9 ?_
   dsimp only
   rw[List.forIn_nil]
   exact d9 (d9 h)
theorem Run.neT {p q:Itm}(rm:Rm n A) (hv:It F v p) (hw:It F v2 q) (h:Q (.bool (!(p.1==q.1 && decide (p.2=q.2)))) F V):Run (cx w os) A (compareOp .NotEq v v2) F V Q:=fun s S=>by
 obtain⟨a,t,u,rfl,ha⟩:=hv
 obtain⟨b,t',u',rfl,hb⟩:=hw
 have ha':=GO ha S
 have hb':=GO hb S
 refine(?_:wpAny _ _ (richCompare .NotEq (.ref a) (.ref b)) _ _ s)
 refine wpAny_richCompare_same_room (op:=.NotEq) (T:="tuple") ha'.typeIs hb'.typeIs PySem.F.slot_tuple_ne ?_ (by have:=rm.2.1;refine(?_:A.units<9900);exact CX ‹_› rfl)
 refine eC PySem.F.slot_tuple_ne ha'.typeIs PySem.F.entry_tuple_ne ?_ (PySem.F.args_tuple_ne_2 _ _)
 exact dN ha' hb' ⟨_,rfl,by simp,F,V,S,h⟩
inductive NtK (QB:Bool→FM→Aa→Prop) (a:Itm) (v:Value) (F:FM) (W:Aa):Prop
 |mk {c:_}:It F v c→QB (!(a.1==c.1 && decide (a.2=c.2))) F W→NtK QB a v F W
inductive EnK (QB:Bool→FM→Aa→Prop) (v:Value) (F:FM) (W:Aa):Prop
 |mk {l vs W0:_}:v= .ref l→W=(l,Ab vs)::W0→QB vs.isEmpty F W0→EnK QB v F W
section
variable {b:Bool}
theorem Tx.neT {a:Itm}(ok:Ok x n gs) (h1:Ev x F m V e1 (.val v)) (hv:It F v a) (h2:Rx x F m V e2 (NtK QB a)) (hm:autoParam (behindInMarks .NotEq e2=false) aU):Tx x F m V (.Compare e1 [.NotEq] [e2] p) QB:=.ki fun K Vf Q' ft kk=>
 .DF (h1.kV ft fun V1 f1=>h2.fu f1 fun v2 F2 V2 W2 le2 f2 q=>q.casesOn fun{c} hc qq=>Run.neT ok.rm (hv.le le2) hc ⟨_,rfl,kk _ F2 V2 W2 le2 f2 qq⟩) hm
theorem Tx.E2 (ok:Ok x n gs) (h:Rx x F m V e (EnK QB)) (hm:autoParam (behindInMarks .Eq (.List [] p)=false) aU):Tx x F m V (.Compare e [.Eq] [.List [] p] q) QB:=.ki fun K Vf Q' ft kk=>
 .DF (h.fu ft fun v F1 V1 W le f1 qv=>qv.casesOn fun{l vs W0} e1 e2 hq=>e1▸Run.lst (Run.A0 ⟨by decide,fun b=>Run.fit (W:=(b,Ab [])::(l,Ab vs)::full x m (W0++K)) (Sb.cons (Sb.trans (.perm (.swap ..)) (show Sb (full x m (((l,Ab vs)::W0)++K)) V1 from e2▸f1))).fit (Run.E2 ok.rm (.tail .head) .head ⟨_,rfl,kk _ F1 _ W0 le (Sb.skip (Sb.skip Sb.refl)) hq⟩)⟩)) hm
theorem Tb.Ff (ok:Ok x n gs) (h:Ev x F m V e (.val (.ref l))) (hl:Ad l (Ab vs) V) (hm:autoParam (behindInMarks .NotEq (.List [] p)=false) aU):Tb x F m V (.Compare e [.NotEq] [.List [] p] q) (!vs.isEmpty):=.ki fun K Vf Q ft kk=>
 .DF (h.kV ft fun V1 f1=>Run.lst (Run.A0 ⟨by decide,fun b=>Run.fit (W:=(b,Ab [])::full x m (V++K)) (Sb.cons f1).fit (Run.Ff ok.rm (.tail (.tail hl.app)) .head ⟨_,rfl,kk _ (Sb.skip Sb.refl)⟩)⟩)) hm
theorem Rx.ite (h:Tb x F m V e b) (h1:b=true→Rx x F m V e1 Q) (h2:b=false→Rx x F m V e2 Q):Rx x F m V (.IfExp e e1 e2 p) Q:=.ki fun K Vf Q' ft kk=>
 .M5 (h.fu ft fun V1 f=>⟨fun q=>(h1 q).fu f kk,fun q=>(h2 q).fu f kk⟩)
end
theorem Zp (vs:List Value):slicePick vs.toArray (some 1) Option.none Option.none=(vs.drop 1).toArray:=by
 induction vs with
 |nil=>rfl
 |cons a r=>exact slicePick_from (a::r).toArray 1 (by simp)
theorem Rx.aY (h1:Ev x F m V (.Name id_ q) (.val (.ref l))) (h2:Ev x F m V e1 (.int 1)) (hl:Ad l (Ab vs) V) (hv2:vs.length≤10000) (k:∀F' b,Le F F'→Ls F' b (vs.drop 1)→Q (.ref b) F' V):Rx x F m V (.Subscript (.Name id_ q) (.Slice (some e1) Option.none Option.none p) pos) Q:=.ki fun K Vf Q' ft kk=>
 .up (Run.OX (h1.kV ft fun V1 f1=>Run.G4 (h2.kI f1 fun V2 t f2=>Run.fit f2.fit (Run.H0 ⟨l,vs,some 1,_,_,rfl,fun _=>CD (.tail hl.app),.int _ _,.none,.none,nofun,eb ‹_› (d7 rfl),fun b=>up.AY fun F3 o le h3 h4=>up.one (kk _ F3 _ V le Sb.refl (k F3 b le ⟨o,h3,by rw[Zp] at h4;exact h4⟩))⟩))))
noncomputable def CN (bars:List (List Item)) (wd:List Nat):Bool:=bars.all fun items=> !CI items (tx wd)
noncomputable def grLong (bars:List (List Item)) (alpha wd:List Nat) (sz:Int):List Itm:=(alpha.filter fun c=>CN bars (wd++[c])).map fun c=>(sz+1,tx (wd++[c]))
noncomputable def DR {α ω:Type}(pop:List α→Option (α×List α)) (wd:α→ω) (ok:ω→Bool) (lg:α→List α) (eq:α→α→Bool) (rep:List α→α→List α) (push:List α→List α→List α):Nat→List α→List ω→Option (List ω)
 |0,_,_=>none
 |k+1,its,grown=>bif decide (its.length<1000) && decide (grown.length<1000) then
   (bif its.isEmpty||decide (grown.length≥40) then some grown else(its[0]?).elim none fun t=>bif ok (wd t) then(match lg t with
    |[]=>(pop its).elim none fun p=>bif eq p.1 t then DR pop wd ok lg eq rep push k p.2 (grown++[wd t]) else none
    |l0::ls=>DR pop wd ok lg eq rep push k (push ls (rep its l0)) (grown++[wd t])) else none) else none
noncomputable def E5 (bars:List (List Item)) (alpha:List Nat):Nat→List Itm→List (List Nat)→Option (List (List Nat)):=
 DR Cf (fun t=>cl t.2) (fun w=>decide (w.length<100)) (fun t=>grLong bars alpha (cl t.2) t.1) (fun a b=>decide (a=b)) (fun its l0=>Ew (its.set 0 l0) l0) fun ls r=>ls.foldl By r
inductive GrC (L its:List Itm) (x0:Int) (wd:List Nat) (its2:List Itm):Prop
 |pop:L=[]→Cf its=some ((x0,tx wd),its2)→GrC L its x0 wd its2
 |rep {l0 lr}:L=l0::lr→its2=Ew (its.set 0 l0) l0→GrC L its x0 wd its2
inductive GtS (bars:List (List Item)) (alpha:List Nat) (k:Nat) (its:List Itm) (grown R:List (List Nat)):Prop
 |fin:(its.isEmpty||decide (grown.length≥40))=true→R=grown→GtS bars alpha k its grown R
 |mk {k' x0 wd its2:_}:k'<k→(its.isEmpty||decide (grown.length≥40))=false→its[0]? =some (x0,tx wd)→wd.length<100→GrC (grLong bars alpha wd x0) its x0 wd its2→E5 bars alpha k' (((grLong bars alpha wd x0).drop 1).foldl By its2) (grown++[wd])=some R→GtS bars alpha k its grown R
inductive GxS {α ω:Type}(pop:List α→Option (α×List α)) (wd:α→ω) (ok:ω→Bool) (lg:α→List α) (eq:α→α→Bool) (rep:List α→α→List α) (push:List α→List α→List α) (k:Nat) (its:List α) (grown R:List ω):Prop
 |fin:(its.isEmpty||decide (grown.length≥40))=true→R=grown→GxS pop wd ok lg eq rep push k its grown R
 |pop {t g r:_}:(its.isEmpty||decide (grown.length≥40))=false→its[0]? =some t→ok (wd t)=true→lg t=[]→pop its=some (g,r)→eq g t=true→DR pop wd ok lg eq rep push k r (grown++[wd t])=some R→GxS pop wd ok lg eq rep push k its grown R
 |rep {t l0 ls:_}:(its.isEmpty||decide (grown.length≥40))=false→its[0]? =some t→ok (wd t)=true→lg t=l0::ls→DR pop wd ok lg eq rep push k (push ls (rep its l0)) (grown++[wd t])=some R→GxS pop wd ok lg eq rep push k its grown R
theorem MU {α ω:Type}{pop:List α→Option (α×List α)}{wd:α→ω}{ok:ω→Bool}{lg:α→List α}{eq:α→α→Bool}{rep:List α→α→List α}{push:List α→List α→List α}{its:List α}{grown R:List ω}(h:DR pop wd ok lg eq rep push (k+1) its grown=some R):(decide (its.length<1000) && decide (grown.length<1000))=true∧GxS pop wd ok lg eq rep push k its grown R:=by
 refine And.elim (fun hl h=>?_) (CY h)
 refine⟨hl,?_⟩
 cases he:its.isEmpty||decide (grown.length≥40) with
 |true=>replace h:=(he)▸h;exact .fin he (ed h).symm
 |false=>
  rw[he] at h
  cases ht:its[0]? with
  |none=>replace h:=(ht)▸h;cases h
  |some t=>
   rw[ht] at h
   obtain⟨ho,h⟩:=CY h
   cases hg:lg t with
   |cons l0 ls=>rw[hg] at h;exact .rep he ht ho hg h
   |nil=>
    rw[hg] at h
    cases hp:pop its with
    |none=>replace h:=(hp)▸h;cases h
    |some p=>rw[hp] at h;obtain⟨hq,h⟩:=CY h;exact .pop he ht ho hg hp hq h
theorem VP {R:List (List Nat)}(h:E5 bars alpha k its grown=some R):(its.length<1000∧grown.length<1000)∧GtS bars alpha k its grown R:=by
 cases k with
 |zero=>cases h
 |succ k=>
  refine And.elim (fun hl h=>?_) (MU h)
  have hl:=fi hl
  refine⟨⟨ee hl.1,ee hl.2⟩,?_⟩
  have ht:∀{t:Itm},its[0]? =some t→its[0]? =some (t.1,tx (cl t.2)):=fun{t} e=>by rw[EF];exact e
  cases h with
  |fin he e=>exact .fin he e
  |pop he h0 ho hg hp hq h=>
   rename_i t g r
   exact .mk (ey k) he (ht h0) (ee ho) (.pop hg (by rw[EF,←ee hq];exact hp)) (by refine(hg)▸?_;exact h)
  |rep he h0 ho hg h=>exact .mk (ey k) he (ht h0) (ee ho) (.rep hg rfl) (by refine(hg)▸?_;exact h)
structure Gk where
 (bar h g cw cs:Addr)
 (alpha:List Nat)
 (bars:List (List Item))
noncomputable abbrev Gk.sm (c:Gk) (sz lo gi it:Sp):Sm:=[("barred",.val (.ref c.bar)),("alphabet",.str (tx c.alpha)),("heap",.val (.ref c.h)),("grown",.val (.ref c.g)),("size",sz),("longer",lo),("given",gi),("item",it)]
def Gk.Fs (c:Gk) (F:FM):Prop:=∃bvs,Ls F c.bar bvs∧Af (fun v items=>Cw Rw F v [(Str.ofString "",[]),(Str.ofString "tail",items)]∧items.length<1000∧∀p ∈ items,p.2.length<1000) bvs c.bars
theorem Gk.Fs.le {c:Gk}(h:c.Fs F) (l:Le F F'):c.Fs F':=Ag (h) fun bvs a b=>(Ak bvs (a.le l) (b.mono fun _ _ x=>⟨x.1.le l fun _ _ q=>q.le l,x.2⟩))
abbrev IT (F:FM) (vs:List Value) (its:List Itm):Prop:=AR (fun _=>True) F vs its
inductive GrI (c:Gk) (V:Aa) (RES:List (List Nat)) (k:Nat) (F:FM):Sm→Aa→Prop
 |mk {its vs gv grown sz lo gi it sw ss:_}:IT F vs its→E5 c.bars c.alpha k its grown=some RES→Af Ah gv grown→GrI c V RES k F (c.sm sz lo gi it) ((c.cw,Ar sw)::(c.cs,Ar ss)::(c.h,Ab vs)::(c.g,Ab gv)::V)
inductive GrJ (c:Gk) (W:Aa) (wd:List Nat) (x0:Int) (l:Addr) (gi it:Sp) (i:Nat) (F:FM):Sm→Aa→Prop
 |mk {ls ss:_}:IT F ls (grLong c.bars (c.alpha.take i) wd x0)→GrJ c W wd x0 l gi it i F (c.sm (.int x0) (.val (.ref l)) gi it) ((l,Ab ls)::(c.cw,Ar (.str (tx wd)))::(c.cs,Ar ss)::W)
theorem MR (bars:List (List Item)) (alpha wd:List Nat) (x0:Int) (d:Nat):grLong bars (alpha++[d]) wd x0=grLong bars alpha wd x0++if CN bars (wd++[d]) then[(x0+1,tx (wd++[d]))] else[]:=by
 unfold grLong
 simp only[List.filter_append,eQ]
 congr 1
 by_cases h:CN bars (wd++[d])=true<;>simp[h]
theorem MS (bars:List (List Item)) (items:List Item) (wd:List Nat):CN (bars++[items]) wd=(CN bars wd && !CI items (tx wd)):=by
 unfold CN
 simp only[List.all_append]
 simp
theorem VR (hc:alpha[i]? =some d) (hq:CN bars (wd++[d])=true):grLong bars (alpha.take (i+1)) wd x0=grLong bars (alpha.take i) wd x0++[(x0+1,tx (wd++[d]))]:=by
 rw[take_snoc hc,MR,hq];rfl
theorem VS (hc:alpha[i]? =some d) (hq:CN bars (wd++[d])=false):grLong bars (alpha.take (i+1)) wd x0=grLong bars (alpha.take i) wd x0:=by
 rw[take_snoc hc,MR,hq];exact eJ _
inductive GrL (bars:List (List Item)) (wd:List Nat) (W:Aa) (i:Nat) (us:List Value) (F:FM):Sm→Aa→Prop
 |mk {sr}:us.length≤i→us.isEmpty=CN (bars.take i) wd→GrL bars wd W i us F [("rows",sr)] W
theorem VU {sr:Sp}(hi:bars[i]? =some items) (hq:CI items (tx wd)=true) (hl:us.length≤i):GrL bars wd W (i+1) (us++[v]) F [("rows",sr)] W:=
 .mk (by rw[eO];exact eL hl) (by simp only[take_snoc hi,MS,hq];cases us<;>simp)
theorem VV {sr:Sp}(hi:bars[i]? =some items) (hq:CI items (tx wd)=false) (hl:us.length≤i) (he:us.isEmpty=CN (bars.take i) wd):GrL bars wd W (i+1) us F [("rows",sr)] W:=
 .mk (Nat.le_succ_of_le hl) (by simp only[take_snoc hi,MS,hq,he];simp)
abbrev Kd (F:FM) (v:Value) (items:List Item):Prop:=Cw Rw F v [(Str.ofString "",[]),(Str.ofString "tail",items)]∧items.length<1000∧∀p ∈ items,p.2.length<1000
theorem Rl (h:Af (Kd F) bvs bars) {j:Nat}(hv:bvs[j]? =some v):∃items,bars[j]? =some items∧Kd F v items:=by
 have hj:j<bars.length:=h.len▸(List.getElem?_eq_some_iff.mp hv).1
 obtain⟨items,hp⟩:∃p,bars[j]? =some p:=⟨_,eN hj⟩
 refine Ag (h.get hp) fun v' hv' q=>?_
 replace hv:=(hv')▸hv
 cases hv
 exact Ak items hp q
theorem MQ (bars:List (List Item)) (alpha wd:List Nat) (x0:Int):(grLong bars alpha wd x0).length≤alpha.length:=by
 simp only[grLong,eM]
 exact List.length_filter_le ..
theorem VX {c:Gk}{it:Sp}{Q:Flow→FM→Sm→Aa→Prop}(ok:Ok x (n+3) ["len","heapreplace","heappop","heappush"]) (l1:Cl x.env "word" c.cw) (l2:Cl x.env "sign" c.cs) (haa:c.alpha.all (·<128)=true) (hal:c.alpha.length<100) (hwd:wd.length<100) (hb:c.Fs F) (hbn:c.bars.length<1000)
  (k:∀F' m' W',Le F F'→GrJ c W wd x0 l gi it c.alpha.length F' m' W'→R x ((Du true ((bodyOf (FG x.w.params))[2]?)).drop 4) F' m' W' Q):
  R x ((Du true ((bodyOf (FG x.w.params))[2]?)).drop 3) F (c.sm (.int x0) (.val (.ref l)) gi it) ((l,Ab [])::(c.cw,Ar (.str (tx wd)))::(c.cs,Ar sg)::W) Q:=by
 refine(?_:R _ (_::_) _ _ _ _)
 refine R.DP ok c.alpha.length (fun i v=>∃k,c.alpha[i]? =some k∧(Sp.str (ch k)).ok (some v)) (GrJ c W wd x0 l gi it) (Rx.Bm (s:=.str (tx c.alpha)) (.nm ok Ai) fun t=>⟨JC haa,.mk .nil⟩) ?_ fun F1 m1 W1 hJ le=>k F1 m1 W1 le hJ
 intro i F1 m1 W1 v hi hJ
 induction hJ with|mk hl=>
 rename_i ls ss
 intro hv le
 refine Ag hv fun d hc hv=>Ag (hb.le le) fun bvs hb1 hb2=>?_
 have hlen:ls.length≤100000:=by
  rw[hl.len]
  exact eb (MQ ..) (by rw[eZ];exact KJ ‹_› rfl)
 refine .mk (Au.Hm (s:=.str (ch d)) ok l2 hv put2) ?_
 refine R.E6 (Tx.E2 ok (Rx.lc ["rows"] ["sign","word"] ["_law_takes"] [c.cs,c.cw] ok ⟨l2,l1,trivial⟩ (by kernel_rfl) bvs.length (fun i v=>bvs[i]? =some v) (GrL c.bars (wd++[d]) ((l,Ab ls)::(c.cw,Ar (.str (tx wd)))::(c.cs,Ar (.str (ch d)))::W)) (Rx.Bm (s:=.val (.ref c.bar)) (.nm ok has0) ⟨.fx hb1,.mk (eh _) rfl⟩) ?_ ?_ (.inl ⟨_,_,rfl⟩)))
 ·rintro y oky cy - - - j us F3 m3 W3 v hj hI
  induction hI with|mk hul he=>
  intro hv le3
  refine Bk (K4 cy) fun _ _ e n2 n1=>?_
  cases e
  refine Ag (Rl hb2 hv) fun items hp hq=>?_
  refine .mk (.nm (Au.loc (s:=.val v) oky rfl CG)) ?_
  refine Tx.Py (Rx.BI oky AK Vd (Mv _ _) (.cons (s:=.val v) (.nm oky has0) (.cons (s:=.str (tx (wd++[d]))) (Ev.bin (Ev.ce (s:=.str (tx wd)) oky n1 (.tail .head)) (Ev.ce (s:=.str (tx [d])) oky n2 (.tail (.tail .head))) (Aq.B7 (ec (ea ‹_› (d7 rfl))) (d7 rfl))) .nil)) fun t=>?_)
  exact di (n:=n+1) oky.rm (hq.1.le le3 fun _ _ q=>q.le le3) hq.2.1 hq.2.2 (by rw[Av,eO];exact ea (Nat.add_lt_add_right hwd 1) (by decide)) fun F4 _=>AE _ rfl (fun hq=>Rx.Bm (s:=.val v) (.nm oky has0) ⟨eb hul (ec (ez hj (hb2.len▸ez hbn (by decide)))),VU hp hq hul⟩) (fun hq=>VV hp hq hul he)
 ·intro us F3 m3 W3 D hI le3
  induction hI with|mk hul he=>
  rw[hb2.len,List.take_length] at he
  refine .mk rfl rfl ⟨fun hq=>?_,fun hq=>R.nil (R.next (R.nil (.mk ?_)))⟩
  ·refine R.EP ok (.nm ok Ax) (Rx.BR (.cons (s:=.int (x0+1)) (Ev.bin (.nm ok Az) .int Aq.Aw) (.cons (s:=.str (tx (wd++[d]))) (Ev.bin (Ev.ce (s:=.str (tx wd)) ok l1 (.tail .head)) (Ev.ce (s:=.str (tx [d])) ok l2 (.tail (.tail .head))) (Aq.B7 (ec (ea ‹_› (d7 rfl))) (d7 rfl))) .nil)) fun t1 t2 F4 a le4 tu=>.mk (vs:=ls) .head hlen (R.nil (R.next (R.nil (.mk ?_))))) ⟨ls,.head⟩
   rw[VR hc (he▸hq)]
   exact Af.snoc (hl.le (Le.trans le3 le4)) ⟨(CP a t1 t2 rfl tu),trivial⟩
  ·rw[VS hc (he▸hq)]
   exact hl.le le3
inductive GrP (c:Gk) (W:Aa) (its2 ll:List Itm) (sz lo gi:Sp) (i:Nat) (F:FM):Sm→Aa→Prop
 |mk {vs it:_}:IT F vs ((ll.take i).foldl By its2)→GrP c W its2 ll sz lo gi i F (c.sm sz lo gi it) ((c.h,Ab vs)::W)
theorem Uy (ll its:List Itm):(ll.foldl By its).length=its.length+ll.length:=by
 induction ll generalizing its with
 |nil=>rfl
 |cons a r ih=>simp only[List.foldl_cons,ih,Os,List.length_cons];exact Nat.add_right_comm _ _ _
theorem Om (its:List Itm) (p:Itm):(Ew its p).length=its.length:=cN ..
theorem Zw {r:List Itm}{t:Itm}(h:Cf its=some (t,r)):r.length≤its.length:=by
 rcases List.eq_nil_or_concat its with e|⟨is,z,e⟩
 ·subst e;cases h
 ·have e:its=is++[z]:=by simpa using e
  subst e
  cases is with
  |nil=>
   have:Cf ([]++[z])=some (z,[]):=rfl
   replace h:=(this)▸h;cases h;simp
  |cons p0 ps=>
   rw[Ol] at h
   cases h
   rw[Om];simp
theorem VT {L:List Itm}(h:GrC L its x0 wd its2):its2.length≤its.length:=by
 cases h with
 |pop _ hp=>exact Zw hp
 |rep _ e=>simp only[e,Om,e9];exact eh _
theorem WL {ls:List Value}{L:List Itm}(h:IT F ls L) (hv:(ls.drop 1)[i]? =some v):∃p,(L.drop 1)[i]? =some p∧IP (fun _=>True) F v p:=by
 replace hv:=(List.getElem?_drop)▸hv
 have hj:1+i<L.length:=h.len▸(List.getElem?_eq_some_iff.mp hv).1
 obtain⟨p,hp⟩:∃p,L[1+i]? =some p:=⟨_,eN hj⟩
 refine Ag (h.get hp) fun v' hv' q=>?_
 replace hv:=(hv')▸hv
 cases hv
 exact Ak p (by rw[List.getElem?_drop];exact hp) q
theorem YA {P:Prop}(h:(!(x0==x0 && decide (y=y)))=true):P:=by simp at h
theorem V0 {c:Gk}{it:Sp}{Q:Flow→FM→Sm→Aa→Prop}(ok:Ok x (n+4) ["len","heapreplace","heappop","heappush"]) (l1:Cl x.env "word" c.cw) (hal:c.alpha.length<100) (hwd:wd.length<100) (hlen:its.length<1000) (hi:IT F vs its) (ht:its[0]? =some (x0,tx wd))
  (hJ:GrJ c ((c.h,Ab vs)::(c.g,Ab gv)::V) wd x0 l gi it c.alpha.length F m W0) {its2:List Itm}(hcase:GrC (grLong c.bars c.alpha wd x0) its x0 wd its2)
  (k:∀F' vs' sz lo gi it sw ss,Le F F'→IT F' vs' (((grLong c.bars c.alpha wd x0).drop 1).foldl By its2)→Q .next F' (c.sm sz lo gi it) ((c.cw,Ar sw)::(c.cs,Ar ss)::(c.h,Ab vs')::(c.g,Ab gv)::V)):
  R x ((Du true ((bodyOf (FG x.w.params))[2]?)).drop 4) F m W0 Q:=by
 refine(?_:R _ (_::_) _ _ _ _)
 induction hJ with|mk hl=>
 rename_i ls ss
 replace hl:=(List.take_length)▸hl
 have hLl:(grLong c.bars c.alpha wd x0).length≤100:=eb (MQ ..) (ec ‹_›)
 generalize grLong c.bars c.alpha wd x0=L at hl hLl hcase k
 have hvl:=hi.len
 have hs2:its2.length<1000:=ef (VT hcase) hlen
 have hlv:ls.length≤100:=by rw[hl.len];exact hLl
 refine R.sb (W:=(c.h,Ab vs)::(l,Ab ls)::(c.cw,Ar (.str (tx wd)))::(c.cs,Ar ss)::(c.g,Ab gv)::V) (Part.sb (.cons (.tail (.tail (.tail .head))) .refl)) ?_
 refine R.Q6 (fun Z=>∀F1 v vs',Le F F1→It F1 v (x0,tx wd)→IT F1 vs' its2→Z F1 (c.sm (.int x0) (.val (.ref l)) (.val v) it) ((c.h,Ab vs')::(l,Ab ls)::(c.cw,Ar (.str (tx wd)))::(c.cs,Ar ss)::(c.g,Ab gv)::V)) ok (fun F1 v vs' le1 hit hi2=>?_) fun rest=>?_
 ·refine R.E6 (Tx.neT ok (.nm ok AG) hit (Rx.BR (.cons (s:=.int x0) (.nm ok Az) (.cons (s:=.str (tx wd)) (Ev.ce ok l1 (.tail (.tail .head))) .nil)) fun t1 t2 F2 a le2 tu=>.mk (CP a t1 t2 rfl tu) ⟨fun hb=>YA hb,fun _=>R.nil (R.next ?_)⟩))
  have hl2:=hl.le (Le.trans le1 le2)
  refine R.DP ok (ls.drop 1).length (fun i v=>(ls.drop 1)[i]? =some v) (GrP c ((l,Ab ls)::(c.cw,Ar (.str (tx wd)))::(c.cs,Ar ss)::(c.g,Ab gv)::V) its2 (L.drop 1) (.int x0) (.val (.ref l)) (.val v))
   (Rx.aY (.nm ok Ax) .int (.tail .head) (eb ‹_› (d7 rfl)) fun F3 b le3 h=>⟨.fx h,.mk (hi2.le (Le.trans le2 le3))⟩) ?_ ?_
  ·intro i F3 m3 W3 v3 hi3 hJ
   induction hJ with|mk h3=>
   rename_i vs3 it3
   intro hv3 le3
   refine Ag (WL (hl2.le le3) hv3) fun p3 hp3 hit3=>?_
   refine .mk (Au.fC ok D5) ?_
   refine R.Dq ok (Rx.BI ok D0 ME (Jf _ _) (.cons (s:=.val (.ref c.h)) (.nm ok Al) (.cons (s:=.val v3) (.nm ok BM) .nil)) (Ot (n:=n+2) ok.rm h3 hit3 (by simp only[Uy,eZ,List.length_drop];lia) fun F4 vs4 le4 h4=>R.nil (.mk ?_)))
   rw[take_snoc hp3,List.foldl_append]
   exact h4
  ·intro F3 m3 W3 hJ
   induction hJ with|mk h3=>
   rename_i vs3 it3
   intro le3
   rw[show(ls.drop 1).length=(L.drop 1).length by rw[List.length_drop,List.length_drop,hl.len],List.take_length] at h3
   exact R.sb (Part.sb (.cons (.tail (.tail .head)) (.cons (.tail (.tail .head)) (.cons .head (.cons (.tail .head) (.skip .refl)))))) (R.nil (k F3 vs3 _ _ _ _ (.str (tx wd)) ss (Le.trans le1 (Le.trans le2 le3)) h3))
 ·cases hcase with
  |pop e hp=>
   have hz:ls=[]:=List.eq_nil_of_length_eq_zero (by rw[hl.len,e];rfl)
   refine Rx.ite (b:=false) (Tb.conv (Tb.Ff ok (.nm ok Ax) (.tail .head)) (by refine(hz)▸?_;rfl)) (fun hb=>nomatch hb) fun _=>?_
   exact Rx.BI ok Ce MD (Je _ _) (.cons (s:=.val (.ref c.h)) (.nm ok Al) .nil) (On (n:=n+1) ok.rm hi hp (ea ‹_› (d7 rfl)) fun F1 v' vs' le h1 h2=>As.fC Db (rest F1 v' vs' le h1.1 h2))
  |rep e e2=>
   simp only[e] at hl
   cases hl with
   |cons h0 hr=>
   rename_i l0 lr v0 us
   refine Rx.ite (b:=true) (Tb.conv (Tb.Ff ok (.nm ok Ax) (.tail .head)) rfl) (fun _=>?_) fun hb=>nomatch hb
   exact Rx.BI ok Bx Vl (Mm _ _) (.cons (s:=.val (.ref c.h)) (.nm ok Al) (.cons (s:=.val v0) (Ev.B9 (k:=0) (i:=0) (.nm ok Ax) .int (.tail .head) (by rfl) (by rfl) (ea ‹_› (d7 rfl)) rfl) .nil)) (ZX (n:=n+1) ok.rm hi h0 ht (ea ‹_› (d7 rfl)) fun F1 v' vs' le h1 h2=>As.fC Db (rest F1 v' vs' le h1.1 (e2▸h2)))
theorem VW {c:Gk}{lo it sw ss:Sp}{Q:Flow→FM→Sm→Aa→Prop}(ok:Ok x (n+4) ["len","heapreplace","heappop","heappush"]) (l1:Cl x.env "word" c.cw) (l2:Cl x.env "sign" c.cs) (haa:c.alpha.all (·<128)=true) (hal:c.alpha.length<100) (hb:c.Fs F) (hbn:c.bars.length<1000)
  (hi:IT F vs its) (hg:Af Ah gv grown) (hlen:its.length<1000) (hgl:grown.length<1000) (ht:its[0]? =some (x0,tx wd)) (hwd:wd.length<100) (hc:GrC (grLong c.bars c.alpha wd x0) its x0 wd its2) (hT:E5 c.bars c.alpha k (((grLong c.bars c.alpha wd x0).drop 1).foldl By its2) (grown++[wd])=some RES)
  (hne:∀F' m' W',Le F F'→GrI c V RES k F' m' W'→Q .next F' m' W'):
  R x (Du true ((bodyOf (FG x.w.params))[2]?)) F (c.sm sz lo gi it) ((c.cw,Ar sw)::(c.cs,Ar ss)::(c.h,Ab vs)::(c.g,Ab gv)::V) Q:=by
 refine(?_:R _ (_::_) _ _ _ _)
 have hgl':gv.length≤100000:=by rw[hg.len];exact ec (ez hgl (by decide))
 have hvl:vs.length≤10000:=by rw[hi.len];exact ec (ez hlen (by decide))
 refine Ag (hi.get ht) fun v0 hv0 q=>q.1.elim fun a q=>q.elim fun t q=>q.elim fun u q=>?_
 refine R.ER ok (Rx.Bm (s:=.val v0) (Ev.B9 (k:=0) (i:=0) (.nm ok Al) .int (.tail (.tail .head)) hv0 (by rfl) (eb ‹_› (d7 rfl)) rfl) (.mk q.1 q.2 (Au.fq ok BF) (Au.Hm (s:=.str (tx wd)) ok l1 ⟨u,rfl⟩ .head) ?_))
 refine R.CW ok (s:=.str (tx wd)) (vs:=gv) (.nm ok Ay) (Ev.ce (s:=.str (tx wd)) ok l1 .head) (fun v=>.tail (.tail (.tail .head))) hgl' fun t=>?_
 refine R.new ok (fun a=>Br) fun l=>?_
 exact VX (n:=n+1) (W:=(c.h,Ab vs)::(c.g,Ab (gv++[.str (tx wd) t]))::V) ok l1 l2 haa hal hwd hb hbn fun F1 m1 W1 le1 hJ=>V0 ok l1 hal hwd hlen (hi.le le1) ht hJ hc fun F' vs' sz lo gi it sw ss le h=>hne F' _ _ (Le.trans le1 le) (.mk h hT (hg.snoc ⟨t,rfl⟩))
theorem MW {a n m:Nat}{g:Bool}(h1:vs.isEmpty=its.isEmpty) (h2:a=b) (h:(its.isEmpty||decide (b≥40))=g):(!vs.isEmpty && decide ((a:Int)<40))= !g:=by
 rw[h1,h2,←h,Bool.not_or]
 congr 1
 by_cases q:b<40
 ·rw[eU (by exact Int.ofNat_lt.mpr ‹_›),eV (by exact Nat.not_le.mpr ‹_›)];rfl
 ·rw[eV (by lia),eU (by exact Nat.ge_of_not_lt ‹_›)];rfl
theorem VY {c:Gk}(ok:Ok x (n+4) ["len","heapreplace","heappop","heappush"]) (l1:Cl x.env "word" c.cw) (l2:Cl x.env "sign" c.cs) (haa:c.alpha.all (·<128)=true) (hal:c.alpha.length<100) (hb:c.Fs F) (hbn:c.bars.length<1000)
  (hI:GrI c V RES k F m W) (h:∀F' a vs,Le F F'→Ls F' a vs→Af Ah vs RES→Q (.ref a) F' V):
  R x ((bodyOf (FG x.w.params)).drop 2) F m W (fun f F' _ W=>En Q (BK f) F' W):=by
 refine(?_:R _ (_::_) _ _ _ _)
 refine R.Cu (GrI c V RES) ?_ k hI
 intro i F' m' V' hI
 induction hI with|mk hi hT hg=>
 rename_i its vs gv grown sz lo gi it sw ss
 intro le
 have hs:=VP hT
 have hvl:vs.length≤100000:=by rw[hi.len];exact ec (ez hs.1.1 (by decide))
 have hgl:gv.length≤100000:=by rw[hg.len];exact ec (ez hs.1.2 (by decide))
 cases hs.2 with
 |mk hk he ht hwd hc hT2=>
  exact .t (Tb.and (Tb.fx (.nm ok Al) (.tail (.tail .head)) hvl) (fun _=>Tb.cmp (Ev.A5 ok AK (.nm ok Ay) (.tail (.tail (.tail .head))) hgl) .int Ac.ltI)) (MW (n:=0) (m:=0) hi.emp hg.len he) (VW ok l1 l2 haa hal (hb.le le) hbn hi hg hs.1.1 hs.1.2 ht hwd hc hT2 fun _ _ _ _ hI=>.mk _ hk hI)
 |fin he e=>
  refine .f (Tb.and (Tb.fx (.nm ok Al) (.tail (.tail .head)) hvl) (fun _=>Tb.cmp (Ev.A5 ok AK (.nm ok Ay) (.tail (.tail (.tail .head))) hgl) .int Ac.ltI)) (MW (n:=0) (m:=0) hi.emp hg.len he) ?_
  exact R.D6 (v:=.ref c.g) (.nm ok Ay) (En.sb (W:=(c.g,Ab gv)::V) (Part.sb (.cons (.tail (.tail (.tail .head))) (.skip (.skip (.skip .refl))))) (En.fx fun F3 le3 l3=>En.one (h F3 _ _ (Le.trans le le3) l3 (e▸hg))))
theorem VZ {bar:Addr}{K:Nat}(rm:Rm (n+5) A) (haa:alpha.all (·<128)=true) (hal:alpha.length<100) (hbn:bars.length<1000)
  (hb1:Ls F bar bvs) (hb2:Af (fun v items=>Cw Rw F v [(Str.ofString "",[]),(Str.ofString "tail",items)]∧items.length<1000∧∀p ∈ items,p.2.length<1000) bvs bars)
  (hT:E5 bars alpha K [(0,tx [])] []=some RES) (h:∀F' a vs,Le F F'→Ls F' a vs→Af Ah vs RES→Q (.ref a) F' V):
  RV (cx w os) A (.call (.ref 393) ⟨[.ref bar,.str (tx alpha) u],[]⟩) F V Q:=by
 refine RV.Uv (k1:="word") (k2:="sign") (s1:=.any) (s2:=.any) ["barred","alphabet","heap","grown","size","longer","given","item"] ["len","heapreplace","heappop","heappush"] [("barred",.val (.ref bar)),("alphabet",.str (tx alpha)),("heap",.any),("grown",.any),("size",.any),("longer",.any),("given",.any),("item",.any)] [Option.none,Option.none]
  rm (Mi w os) (binds:=[("barred",.ref bar),("alphabet",.str (tx alpha) u)]) rfl (by kernel_rfl) (by kernel_rfl) (by rfl) (M7 rfl ⟨_,rfl⟩ trivial trivial trivial trivial trivial trivial trivial) (by rfl) ⟨trivial,trivial,trivial⟩ ?_
 intro x c1 c2 ok l1 l2
 refine(?_:R _ (_::_) _ _ _ _)
 refine R.Bi ok (Rx.JH (Rx.BR (.cons (s:=.int 0) .int (.cons (s:=.str (Str.ofString "")) .str .nil)) fun t1 t2 F1 a le1 tu hp=>As.fC put2 ?_))
 refine R.new ok (fun a=>put3) fun g=>?_
 refine R.sb (W:=(c1,Ar .any)::(c2,Ar .any)::(hp,Ab [.ref a])::(g,Ab [])::V) (Part.sb (.cons (.tail (.tail .head)) (.cons (.tail (.tail .head)) (.cons (.tail .head) .refl)))) ?_
 exact VY (n:=n) (c:=⟨bar,hp,g,c1,c2,alpha,bars⟩) (k:=K) ok l1 l2 haa hal (Ak bvs (hb1.le le1) (hb2.mono fun _ _ y=>⟨y.1.le le1 fun _ _ q=>q.le le1,y.2⟩)) hbn (.mk (.cons ⟨(CP a t1 t2 rfl tu),trivial⟩ .nil) hT .nil) fun F' a vs le=>h F' a vs (Le.trans le1 le)
theorem XL:LeftO P0 q0 HR (fun _=>true) (fun s=>(s.heap,s.toks)) (fun w=>(hF w.params,1062)) 10000:=
 LeftO.of_pieces (H₀:=hZ) (H₁:=hF) (gs₀:=#[]) (gs₁:=#[]) (d₀:={}) (d₁:={}) (k₀:=276) (k₁:=1062) (m₀:=28) (ann:=some (.ref 6)) (M:=12+(1+(1438+(649+(132+(1253+(604+2))))))) Zf (fun w=>by kernel_rfl) V6 (by decide) (fun w=>funext fun os=>by
  rw[XZ,X0])
abbrev Ke:Prop:=WalkX q0 HR (fun _ _=>True) (fun s=>(s.heap,s.toks)) (fun w=>(hF w.params,1062)) R0.toRowW EU [] fun f vs=>PySem.call f vs
theorem du (call:Ke):PySem.Challenge.rw_in0301_01.Holds:=by
 refine holds_law ah fun said=>?_
 exact holds_openX XL (fun _ _=>trivial) (fun _ _ _ _ _=>trivial) V9 hp0 hk0 (fun _ _=>recFacts_nil rfl) rfl said Y7 Rp ZE call
noncomputable def pw {α:Type}(n:Nat) (lt:Nat→Nat→Bool):KasT α→(α→Prop)→Prop
 | .ret a,Q=>Q a
 | .ask i j k,Q=>i<n∧j<n∧i≠j∧pw n lt (k (lt i j)) Q
section
variable {lt:Nat→Nat→Bool}{α β:Type}
theorem FZ {f:α→KasT β}{Q:β→Prop}:∀(t:KasT α),pw n lt t (fun a=>pw n lt (f a) Q)→pw n lt (t.bind f) Q
 | .ret _,h=>h
 | .ask _ _ k,h=>⟨h.1,h.2.1,h.2.2.1,FZ (k _) h.2.2.2⟩
theorem Ex {Q Q':α→Prop}(hq:∀a,Q a→Q' a):∀(t:KasT α),pw n lt t Q→pw n lt t Q'
 | .ret a,h=>hq a h
 | .ask _ _ k,h=>⟨h.1,h.2.1,h.2.2.1,Ex hq (k _) h.2.2.2⟩
theorem ZM {c:Prop} [Decidable c] {a b:KasT α}{Q:α→Prop}(h1:c→pw n lt a Q) (h2:¬c→pw n lt b Q):pw n lt (if c then a else b) Q:=iteInduction (motive:=fun t=>pw n lt t Q) h1 h2
theorem OA {cmp:Nat→Nat→(Bool→Shared→Prop)→Shared→Prop}(I:Shared→Prop) (hc:∀i j C s,i<n→j<n→i≠j→I s→(∀s',I s'→C (lt i j) s')→cmp i j C s) {Q:α→Prop}{R:α→Shared→Prop}(hq:∀a s,Q a→I s→R a s):
  ∀(t:KasT α) (s:Shared),pw n lt t Q→I s→t.kasWp cmp R s
 | .ret a,s,h,hI=>hq a s h hI
 | .ask i j k,s,h,hI=>hc i j _ s h.1 h.2.1 h.2.2.1 hI fun s' hI'=>OA I hc hq (k _) s' h.2.2.2 hI'
noncomputable abbrev pA (p:Array Nat) (i:Nat):Nat:=p.getD i 0
def Bo (n:Nat) (p:Array Nat):Prop:=p.Perm (List.toArray (List.range n))
theorem Bo.size {p:Array Nat}(h:Bo n p):p.size=n:=by have:=h.size_eq;simpa using this
theorem C8 {p:Array Nat}(h:i<p.size):pA p i=p[i]:=by simp[pA,Array.getD,h]
theorem Bo.le {p:Array Nat}(h:Bo n p) (hi:i<n):pA p i<n:=by
 have hs:=h.size
 refine(C8 (hs▸hi))▸?_
 have:p[i]'(hs▸hi) ∈ List.toArray (List.range n):=h.mem_iff.mp (Array.getElem_mem _)
 simpa using this
theorem Bo.ne {p:Array Nat}(h:Bo n p) {j:Nat}(hi:i<n) (hj:j<n) (hij:i≠j):pA p i≠pA p j:=by
 have hs:=h.size
 simp only[C8 (hs▸hi),C8 (hs▸hj)]
 have nd:p.toList.Nodup:=(Array.perm_iff_toList_perm.mp h).nodup_iff.mpr (by simpa using List.nodup_range)
 intro e
 have e2:p.toList[i]'(by simpa using hs▸hi)=p.toList[j]'(by simpa using hs▸hj):=by simpa using e
 rcases Nat.lt_or_gt_of_ne hij with q|q
 ·exact List.pairwise_iff_getElem.mp nd i j _ _ q e2
 ·exact List.pairwise_iff_getElem.mp nd j i _ _ q e2.symm
def CK (lt:Nat→Nat→Bool) (p:Array Nat) (m:Nat):Prop:=∀i j,i<j→j<m→lt (pA p i) (pA p j)=true
def Fv (lt:Nat→Nat→Bool) (p:Array Nat) (m:Nat):Prop:=∀i j,i<j→j<m→lt (pA p j) (pA p i)=true
structure Ord (n:Nat) (lt:Nat→Nat→Bool):Prop where
 tot:∀i j,i<n→j<n→i≠j→lt i j=false→lt j i=true
 tr:∀i j k,lt i j=true→lt j k=true→lt i k=true
variable (O:Ord n lt)
include O
theorem CK.up {p:Array Nat}(hp:Bo n p) {m:Nat}(hm:m<n) (h1:1≤m) (h:CK lt p m) (hc:lt (pA p m) (pA p (m - 1))=false):CK lt p (m+1):=fun i j hi hj=>by
 by_cases e:j<m
 ·exact h i j hi e
 ·obtain rfl:j=m:=Nat.le_antisymm (ex hj) (Nat.le_of_not_lt e)
  have hp1:=Nat.pred_lt (eF h1)
  have hp2:=ez hp1 hm
  have a:=O.tot _ _ (hp.le hm) (hp.le hp2) (hp.ne hm hp2 (eF hp1)) hc
  exact(Nat.eq_or_lt_of_le (Nat.le_pred_of_lt hi)).elim (fun g=>g▸a) fun g=>O.tr _ _ _ (h i (j - 1) g hp1) a
omit O in
theorem Fv.up (tr:∀i j k,lt i j=true→lt j k=true→lt i k=true) {p:Array Nat}{m:Nat}(h1:1≤m) (h:Fv lt p m) (hc:lt (pA p m) (pA p (m - 1))=true):Fv lt p (m+1):=fun i j hi hj=>by
 by_cases e:j<m
 ·exact h i j hi e
 ·obtain rfl:j=m:=Nat.le_antisymm (ex hj) (Nat.le_of_not_lt e)
  exact(Nat.eq_or_lt_of_le (Nat.le_pred_of_lt hi)).elim (fun g=>g▸hc) fun g=>tr _ _ _ hc (h i (j - 1) g (Nat.pred_lt (eF h1)))
theorem Oz {p:Array Nat}(hp:Bo n p):∀f m,1≤m→m+f≤n→CK lt p m→pw n lt (kas_asc p f m) (fun m'=>m≤m'∧m'≤m+f∧CK lt p m'∧(m'<m+f→lt (pA p m') (pA p (m' - 1))=true))
:=fun f=>by
 induction f with
 |zero=>exact fun m _ _ h=>⟨eh _,eh _,h,fun e=>absurd e (Nat.lt_irrefl _)⟩
 |succ f ih=>
  intro m h1 hf h
  have hm:=ea (Nat.lt_add_of_pos_right (eA f)) hf
  have hp1:m - 1<m:=Nat.pred_lt (eF h1)
  have hp2:=ez hp1 hm
  refine⟨hp.le hm,hp.le hp2,hp.ne hm hp2 (eF hp1),?_⟩
  cases hc:lt (pA p m) (pA p (m - 1)) with
  |true=>exact⟨eh _,Nat.le_add_right _ _,h,fun _=>hc⟩
  |false=>
   refine Ex (fun m' ⟨a,b,c,d⟩=>⟨ec a,KC b,c,fun e=>d (Qs e)⟩) _ (ih (m+1) (eA _) (Iu hf) (h.up O hp hm h1 hc))
theorem ZL {p:Array Nat}(hp:Bo n p):∀f m,1≤m→m+f≤n→Fv lt p m→pw n lt (kas_desc f p m 0) (fun r=>r.1=p∧r.2.2=0∧m≤r.2.1∧r.2.1≤m+f∧Fv lt p r.2.1)
:=fun f=>by
 induction f with
 |zero=>exact fun m _ _ h=>⟨rfl,rfl,eh _,eh _,h⟩
 |succ f ih=>
  intro m h1 hf h
  have hm:=ea (Nat.lt_add_of_pos_right (eA f)) hf
  have hp1:m - 1<m:=Nat.pred_lt (eF h1)
  have hp2:=ez hp1 hm
  refine⟨hp.le hm,hp.le hp2,hp.ne hm hp2 (eF hp1),?_⟩
  cases hc:lt (pA p m) (pA p (m - 1)) with
  |true=>
   exact Ex (fun r ⟨a,b,c,d,e⟩=>⟨a,b,ec c,KC d,e⟩) _ (ih (m+1) (eA _) (Iu hf) (h.up O.tr h1 hc))
  |false=>
   refine⟨hp.le hp2,hp.le hm,hp.ne hp2 hm (eG hp1),?_⟩
   rw[O.tot _ _ (hp.le hm) (hp.le hp2) (hp.ne hm hp2 (eF hp1)) hc]
   exact⟨rfl,rfl,eh _,Nat.le_add_right ..,h⟩
omit O in
theorem Bo.rev {p:Array Nat}(hp:Bo n p) (i j:Nat):Bo n (kas_rev p i j):=(mirror_perm ..).trans hp
omit O in
theorem OF {p:Array Nat}{m:Nat}(hm:m≤p.size) (hk:k<m):pA (kas_rev p 0 m) k=pA p (m - 1 - k):=by
 have e:=getElem?_mirror_all (xs:=p) (i:=0) hm k
 rw[if_pos ⟨eB _,hk⟩,Nat.zero_add] at e
 have h1:k<(kas_rev p 0 m).size:=by unfold kas_rev;rw[mirror_size];exact ea ‹_› ‹_›
 have h2:m - 1 - k<p.size:=Qp hm hk
 simp only[C8 h1,C8 h2]
 have e':(kas_rev p 0 m)[k]? =p[m - 1 - k]? :=e
 simp only[fh h1,fh h2] at e'
 exact ed e'
theorem ZP {p:Array Nat}(hp:Bo n p) {m:Nat}(h1:1≤m) (hm:m≤n) (h:Fv lt p m):pw n lt (kas_tail3 m n p) (fun r=>Bo n r.2∧1≤r.1∧r.1≤n∧CK lt r.2 r.1):=by
 have hs:=hp.size
 refine FZ _ (Ex (fun m' ⟨a,b,c,_⟩=>⟨Bo.rev hp 0 m,ea h1 a,eb b (eH (Nat.add_sub_of_le hm)),c⟩) _ (Oz O (Bo.rev hp 0 m) _ m h1 (eH (Nat.add_sub_of_le hm)) fun i j hi hj=>?_))
 rw[OF (hs▸hm) (ez hi hj),OF (hs▸hm) hj]
 exact h _ _ (PU hi hj) (KA h1)
theorem ZK {p:Array Nat}(hp:Bo n p) (h2:2≤n):pw n lt (kas_count n p) (fun r=>Bo n r.2∧1≤r.1∧r.1≤n∧CK lt r.2 r.1):=by
 unfold kas_count
 refine FZ _ (Ex ?_ _ (Oz O hp (n - 1) 1 (eh _) (eH (Nat.add_sub_of_le (Nat.le_of_succ_le h2))) fun i j hi hj=>QN hi hj))
 rintro m ⟨h1,hm,hs,hd⟩
 by_cases e:m=n
 ·rw[if_pos (by rw[e];exact eX _)]
  exact⟨hp,h1,by exact eH ‹_›,hs⟩
 ·rw[if_neg (by simpa using e)]
  have hd:=hd (Qu h2 hm e)
  by_cases g:m>1
  ·rw[if_pos g]
   refine⟨hp.le (ec h2),hp.le (KD h2 h1 hm),hp.ne (ec h2) (KD h2 h1 hm) (eG (Nat.sub_pos_of_lt g)),?_⟩
   rw[hs 0 (m - 1) (Nat.sub_pos_of_lt g) (Nat.pred_lt (eF h1))]
   exact⟨hp,h1,Qw h2 hm,hs⟩
  ·obtain rfl:m=1:=Nat.le_antisymm (Nat.le_of_not_lt g) h1
   rw[if_neg g]
   unfold kas_descPart
   refine FZ _ (Ex ?_ _ (ZL O hp (n - 2) 2 (Nat.le_succ _) (eH (Nat.add_sub_of_le h2)) fun i j hi hj=>?_))
   ·rintro⟨q,m,z⟩ ⟨rfl,rfl,h1,hm,hs⟩
    dsimp only at h1 hm hs⊢
    rw[if_neg (by exact Nat.not_le.mpr ‹_›)]
    exact ZP O hp (by exact ec ‹_›) (QJ h2 hm) hs
   ·obtain rfl:j=1:=Nat.le_antisymm (ex hj) (ef (eB i) hi)
    obtain rfl:i=0:=Nat.le_zero.mp (ex hi)
    exact hd
theorem ZN {p:Array Nat}(hp:Bo n p) (hk:k<n) (hs:CK lt p k):∀f l r,l≤r→r≤k→r - l≤f→(∀i,i<l→lt (pA p i) (pA p k)=true)→(∀i,r≤i→i<k→lt (pA p k) (pA p i)=true)→
  pw n lt (kas_place p k f l r) (fun l=>l≤k∧(∀i,i<l→lt (pA p i) (pA p k)=true)∧(∀i,l≤i→i<k→lt (pA p k) (pA p i)=true))
:=fun f=>by
 induction f with
 |zero=>exact fun l r h1 h2 h3 h4 h5=>⟨eb h1 h2,h4,fun i a b=>h5 i (eb (Nat.le_of_sub_eq_zero (Nat.le_zero.mp h3)) a) b⟩
 |succ f ih=>
  intro l r h1 h2 h3 h4 h5
  refine ZM (fun e=>?_) fun e=>?_
  ·exact⟨eb h1 h2,h4,fun i a b=>h5 i (eb e a) b⟩
  ·have hlr:=PT e
   have hmk:=ea hlr h2
   have hmn:=ez hmk hk
   refine⟨hp.le hk,hp.le hmn,hp.ne hk hmn (eF hmk),?_⟩
   cases hc:lt (pA p k) (pA p ((l+r) / 2)) with
   |true=>
    refine ih l _ (Ks e) (ec hmk) (QK h3 hlr) h4 fun i a b=>?_
    exact(Nat.eq_or_lt_of_le a).elim (fun g=>g▸hc) fun g=>O.tr _ _ _ hc (hs _ _ g b)
   |false=>
    have a:=O.tot _ _ (hp.le hk) (hp.le hmn) (hp.ne hk hmn (eF hmk)) hc
    refine ih _ r hlr h2 (P9 h3 e) (fun i hi=>?_) h5
    exact(Nat.eq_or_lt_of_le (ex hi)).elim (fun g=>g▸a) fun g=>O.tr _ _ _ (hs i ((l+r) / 2) g hmk) a
omit O in
theorem KX {p:Array Nat}{l j:Nat}(hk:k<p.size) (hl:l≤k) (hj:j<p.size):pA (bubble p k (k - l)) j=if j=l then pA p k else if l<j∧j≤k then pA p (j - 1) else pA p j:=by
 have e:=getElem?_bubble hk (k - l) (Nat.sub_le _ _) j
 have h1:j<(bubble p k (k - l)).size:=by rw[bubble_size];exact hj
 refine(C8 h1)▸?_
 simp only[fh h1,Nat.sub_sub_self hl] at e
 split at e
 ·rename_i q;rw[if_pos q,C8 hk];rw[fh hk] at e;exact ed e
 ·rename_i q
  rw[if_neg q]
  split at e
  ·rename_i q2;rw[if_pos q2,C8 (ef (Nat.sub_le _ _) ‹_›)];rw[fh (ef (Nat.sub_le _ _) ‹_›)] at e;exact ed e
  ·rename_i q2;rw[if_neg q2,C8 hj];rw[fh hj] at e;exact ed e
theorem ZJ:∀f {p:Array Nat}(k:Nat),Bo n p→k+f=n→CK lt p k→pw n lt (kas_bin f p k) (fun p=>Bo n p∧CK lt p n)
:=fun f=>by
 induction f with
 |zero=>exact fun k hp hk h=>⟨hp,hk▸h⟩
 |succ f ih=>
  intro p k hp hk h
  have hs:=hp.size
  have hkn:=Ku hk
  refine FZ _ (Ex ?_ _ (ZN O hp hkn h k 0 k (eB _) (eh _) (eh _) (fun i hi=>absurd ‹_› (Nat.not_lt_zero _)) fun i a b=>absurd ‹_› (Nat.not_lt.mpr ‹_›)))
  rintro l ⟨h1,h2,h3⟩
  refine ih (k+1) ((bubble_perm ..).trans hp) (Gm hk) fun i j hi hj=>?_
  have hjn:=ef (ex hj) hkn
  rw[KX (hs▸hkn) h1 (hs▸ez hi hjn),KX (hs▸hkn) h1 (hs▸hjn)]
  by_cases a:i=l
  ·rw[if_pos a,if_neg (eF (QX hi a)),if_pos (Qg hi hj a)];exact h3 _ (Qr hi a) (Ir hi hj)
  ·rw[if_neg a]
   by_cases b:l<i∧i≤k
   ·rw[if_pos b,if_neg (eF (ez b.1 hi)),if_pos (Qh hi hj b)];exact h _ _ (Qj hi b) (Ir hi hj)
   ·rw[if_neg b]
    by_cases d:j=l
    ·rw[if_pos d];exact h2 _ (d▸hi)
    ·rw[if_neg d]
     by_cases g:l<j∧j≤k
     ·rw[if_pos g]
      exact h _ _ (Qd hi a b g) (Ir hi hj)
     ·rw[if_neg g]
      exact h _ _ hi (QE h1 hj d g)
theorem ZO (h2:2≤n):pw n lt (kas_sort n) (fun p=>Bo n p∧CK lt p n):=by
 unfold kas_sort
 refine FZ _ (Ex ?_ _ (ZK O (p:=List.toArray (List.range n)) (Array.Perm.refl _) h2))
 rintro⟨m,p⟩ ⟨hp,h1,hm,hs⟩
 dsimp only
 by_cases e:m<n
 ·rw[if_pos e,Nat.max_eq_left h1]
  exact ZJ O _ m hp (Nat.add_sub_of_le hm) hs
 ·rw[if_neg e]
  exact⟨hp,(Nat.le_antisymm (Nat.le_of_not_lt e) hm:n=m)▸hs⟩
end
noncomputable def BP:Int×Value→Str
 |(_,.str y _)=>y
 |_=>default
inductive B6 (w:World) (σ:List Str) (o:Obj):Prop
 |mk {es ep t:_}:o.ExactSet→o.data= .set es ep t→ElemsOf (strKind P0 w) es.toList→t.fits es.size=true→(t.plain=false∨es.size=0)→(es.toList.map BP).Nodup→(∀y,y ∈ es.toList.map BP↔y ∈ σ)→es.size≤σ.length→B6 w σ o
theorem B6.new (h:Ct o):B6 w [] o:=by
 obtain⟨led,rfl⟩:=h
 exact .mk (es:=#[]) (BO rfl rfl rfl) rfl (fun e he=>by simp at he) rfl (.inr rfl) .nil (fun y=>by trivial) (eh _)
theorem Nr {es:List (Int×Value)}(h:ElemsOf (strKind P0 w) es) {e:Int×Value}(he:e ∈ es):∃t,e.2= .str (BP e) t:=by
 obtain⟨⟨k,hk, -⟩, -⟩:=h e he
 obtain⟨t,ht⟩:=Value.isStrOf_shape hk
 obtain⟨i,v⟩:=e
 subst ht
 exact⟨t,rfl⟩
theorem Nj {es:List (Int×Value)}(h:ElemsOf (strKind P0 w) es) {e:Int×Value}(he:e ∈ es) (y:Str):(strKind P0 w).is y e.2=true↔BP e=y:=by
 refine Exists.elim (Nr h he) fun t ht=>?_
 constructor
 ·intro q
  obtain⟨u,hu⟩:=Value.isStrOf_shape q
  replace hu:=(ht)▸hu
  rcases hu with _|_
  rfl
 ·rintro rfl
  rw[ht]
  exact eX _
theorem My {g:Bool}{f:Bool→Sem Unit}(h1:f true=rule "set.scan.the-table-gave-way") (h2:f false=Pure.pure ()) {Q:Unit→Shared→Prop}(h:Q () s):wpAny (model P0 w) A (f g) Q E s:=by
 induction g with
 |true=>rw[h1];exact wpAny_rule h
 |false=>rw[h2];exact d9 h
theorem ZU {t:SetTable}{es:Array (Int×Value)}(h:t.plain=false):(relayAll t es n).2.1.plain=false:=by
 unfold relayAll
 split
 ·rename_i t' order e
  have:t'.plain=false:=by
   delta SetTable.relaid SetTable.laid at e;dsimp only at e
   replace e:=(h)▸e
   cases hl:SetTable.layClean (SetTable.sizeAbove n - 1) (es.map (·.1)) with
   |none=>replace e:=(hl)▸e;contradiction
   |some ow=>replace e:=(hl)▸e;cases e;rfl
  dsimp only
  split
  ·exact this
  ·rfl
 ·rfl
def Kn (w:World) (σ:List Str) (y:Str) (a:Addr) (s:Shared) (r:Option Bool) (s':Shared):Prop:=r=some true∧∃h' o',s'={s with heap:=h',toks:=s.toks+1}∧Heap.SameBut a s.heap h'∧h'.get? a=some o'∧B6 w (σ++[y]) o'
theorem RK {Q:Value→Shared→Prop}(ho:s.heap.get? a=some o) (h:B6 w σ o) (hs:σ.length<4000)
  (k:∀h' o',Heap.SameBut a s.heap h'→h'.get? a=some o'→B6 w (σ++[y]) o'→Q .none {s with heap:=h',toks:=s.toks+1}):
  wpAny (model P0 w) A (PySem.call (.builtin "set.add") [.ref a,.str y u]) Q E s:=by
 obtain⟨hex,hd,hel,hf,hpl,hnd,hmem,hz⟩:=h
 rename_i es ep t
 have hkey:(strKind P0 w).is y (.str y u)=true:=eX y
 have hsc:(Value.str y u).scannable=true:=rfl
 have hb:es.size<scanBound:=by refine(?_:_<4096);exact ef ‹_› (ea ‹_› (d7 rfl))
 refine eC PySem.F.slot_set_add (Ak o ho hex.1) PySem.F.entry_set_add ?_ (PySem.F.args_set_add_2 _ _)
 dsimp only[Builtin.«set.add»,Builtin.Frozenset.oneOther]
 simp only[List.isEmpty_nil,bind_assoc]
 refine d8 (d9 ?_)
 try dsimp only
 refine d8 (d9 ?_)
 try dsimp only
 refine d8 (en (d8 ((strKind P0 w).pyHash hkey ?_)))
 refine en (d8 (wpAny_setState_of ho hd hf ?_))
 dsimp only
 rw[byScan_of hsc hb hel]
 refine d8 ?_
 refine d8 (wpAny_rule ?_)
 refine d8 (wpAny_setScan_of hkey ho hd hf hel ?_)
 cases hr:List.findIdx? (fun e=>(strKind P0 w).is y e.2) es.toList with
 |some j=>
  dsimp only
  refine Ag (List.findIdx?_eq_some_iff_getElem.mp hr) fun hj hpj _=>?_
  have hy:y ∈ σ:=(hmem y).mp (List.mem_map.mpr ⟨_,List.getElem_mem hj,(Nj hel (List.getElem_mem hj) y).mp hpj⟩)
  refine d9 (d9 ?_)
  refine d9 ⟨_,rfl,k s.heap o (Heap.SameBut.refl a s.heap) ho (.mk hex hd hel hf hpl hnd (fun z=>(hmem z).trans ?_) (by rw[eO];exact Nat.le_succ_of_le ‹_›))⟩
  rw[List.mem_append,List.mem_singleton]
  exact⟨.inl,fun q=>q.elim id fun e=>e▸hy⟩
 |none=>
  have hperm:=layNew_perm t es ((strKind P0 w).hash y) (.str y u)
  have hfits:=layNew_fits t es ((strKind P0 w).hash y) (.str y u)
  generalize layNew t es ((strKind P0 w).hash y) (.str y u)=L at hperm hfits⊢
  obtain⟨es1,t1,wasDummy,gave⟩:=L
  dsimp only at hperm hfits⊢
  replace hperm:=(Array.toList_push)▸hperm
  have hel1:ElemsOf (strKind P0 w) es1.toList:=(hel.push hkey hsc).perm hperm
  have hmap:(es1.toList.map BP).Perm (es.toList.map BP++[y]):=by have:=hperm.map BP;rwa [eQ] at this
  have hnd1:(es1.toList.map BP).Nodup:=hmap.nodup_iff.mpr (List.nodup_append.mpr ⟨hnd,by simp,fun p hp q hq=>by
   obtain rfl:=List.mem_singleton.mp hq
   rintro rfl
   refine Ag (List.mem_map.mp hp) fun e he q=>?_
   have:=List.findIdx?_eq_none_iff.mp hr e he
   replace this:=((Nj hel he _).mpr q)▸this
   contradiction⟩)
  have hmem1:∀z,z ∈ es1.toList.map BP↔z ∈ σ++[y]:=fun z=>by rw[hmap.mem_iff,List.mem_append,List.mem_append,hmem z]
  have hsz1:es1.size=es.size+1:=by rw[←Array.length_toList,hperm.length_eq,eO,Array.length_toList];rfl
  have hz1:es1.size≤(σ++[y]).length:=by simp only[hsz1,eO];exact eL (hz)
  have hz2:es1.size≤sizeLine:=by rw[eT];lia
  refine d8 (My rfl rfl ?_)
  obtain⟨t2,et,hf2,hp2⟩:∃t2,(if (!t1.plain)=true then t1 else{t1 with plain:=false})=t2∧t2.fits es1.size=true∧t2.plain=false:=by
   cases hq:t1.plain with
   |true=>exact AE _ rfl (SetTable.fits_plain_off hfits) rfl
   |false=>exact AE _ rfl hfits hq
  have main:∀(f:Bool→Sem Unit),f true=rule "set.scan.the-table-gave-way"→f false=Pure.pure ()→wpAny (model P0 w) A.in1 (storeSet a es1 t2>>=fun _=>if (!wasDummy && t2.tooFull)=true then(f (relayAll t2 es1 (SetTable.grown es1.size)).2.2>>=fun _=>storeSet a (relayAll t2 es1 (SetTable.grown es1.size)).1 (relayAll t2 es1 (SetTable.grown es1.size)).2.1>>=fun _=>Pure.pure (some true)) else Pure.pure (some true))
    (Kn w σ y a s) E {s with toks:=s.toks+1}:=fun f g1 g2=>by
   refine d8 (wpAny_storeSet_of ho hd ?_ hz2)
   have hg1:(s.heap.update a (Obj.putSet es1 t2)).get? a=some {o with data:=.set es1 (ep+1) t2}:=by
    have:=Heap.get?_update_self (Obj.putSet es1 t2) ho (by exact congrArg _ (putSet_of es1 t2 hd))
    rwa [putSet_of es1 t2 hd] at this
   have hsb:=Heap.SameBut.update s.heap a (Obj.putSet es1 t2)
   split
   ·have hp3:=relayAll_perm t2 es1 (SetTable.grown es1.size)
    have hf3:=relayAll_fits t2 es1 (SetTable.grown es1.size)
    have hq3:=ZU (es:=es1) (n:=SetTable.grown es1.size) hp2
    generalize relayAll t2 es1 (SetTable.grown es1.size)=L3 at hp3 hf3 hq3⊢
    obtain⟨es3,t3,gave3⟩:=L3
    dsimp only at hp3 hf3 hq3⊢
    have hsz3:es3.size=es1.size:=by rw[←Array.length_toList,hp3.length_eq,Array.length_toList]
    have hm3:=hp3.map BP
    refine d8 (My g1 g2 ?_)
    refine d8 (wpAny_storeSet_of hg1 rfl ?_ (hsz3▸hz2))
    refine d9 ⟨rfl,_,{o with data:=.set es3 (ep+1+1) t3},rfl,hsb.trans (Heap.SameBut.update _ a _),?_,.mk hex rfl (hel1.perm hp3) hf3 (.inl hq3) (hm3.nodup_iff.mpr hnd1) (fun z=>hm3.mem_iff.trans (hmem1 z)) (hsz3▸hz1)⟩
    have:=Heap.get?_update_self (Obj.putSet es3 t3) hg1 (by exact congrArg _ (putSet_of es3 t3 rfl))
    rwa [putSet_of es3 t3 rfl] at this
   ·exact d9 ⟨rfl,_,_,rfl,hsb,hg1,.mk hex rfl hel1 hf2 (.inl hp2) hnd1 hmem1 hz1⟩
  have fin:∀{m:Sem (Option Bool)},wpAny (model P0 w) A.in1 m (Kn w σ y a s) E {s with toks:=s.toks+1}→wpAny (model P0 w) A.in1 m (fun r s'=>wpAny (model P0 w) A.in1 (match r with|some added=>Pure.pure added|none=>setAddHashedIn a (.str y u) ((strKind P0 w).hash y) 99999) (fun _ s'=>wpAny (model P0 w) A.in1 (ret .none) (fun fin s'=>∃v,fin= .done (.ret v)∧Q v s') E s') E s') E {s with toks:=s.toks+1}:=fun{m} h=>ej h (fun r s' ⟨e1,h',o',e2,a1,a2,a3⟩=>by refine e1▸?_;rw[e2];exact d9 (d9 ⟨_,rfl,k h' o' a1 a2 a3⟩)) fun _ _ e=>e
  cases hq:t1.plain with
  |true=>
   rw[hq] at et
   rw[if_pos rfl]
   refine d8 ?_
   simp only[hashByValue_scannable 8 hsc]
   refine d9 ?_
   simp only[Bool.not_true,Bool.false_eq_true,if_false,plainKind] at et⊢
   rw[et]
   exact fin (main _ rfl rfl)
  |false=>
   rw[hq] at et
   rw[if_neg Bool.false_ne_true]
   refine d8 (d9 ?_)
   simp only[Bool.not_false,if_true] at et⊢
   rw[et]
   exact fin (main _ rfl rfl)
theorem EG.fy {D:Addr}(h:σ.length<4000):EG (cx w os) A true D (B6 w σ) (B6 w (σ++[y])) (.str y u):=fun F V Q q=>.ki fun s P S kk=>by
 refine Ag (S.own.get .head) fun o ho hP=>?_
 refine RK ho hP h fun h' o' hs ho' hP'=>kk _ _ F _ ⟨⟨S.own.put .head hs (Ak o' ho' hP'),S.base,S.gens,S.os⟩,Nat.lt_succ_of_lt S.tk⟩ q
theorem H8:Slot "set_iterator" "__next__" "set_iterator.__next__":=
 .of (owner:="set_iterator") (n:="__next__") (by rw[eS,eR];kernel_rfl) (by decide+kernel) (by decide+kernel) (by decide+kernel)
  (by first|exact .inl (by decide+kernel)|exact .inr (by decide+kernel)) (by rw[e6];kernel_rfl)
theorem Tm:entryFor table "set_iterator.__next__"=some Builtin.«set_iterator.__next__»:=entryFor_of_tree (by kernel_rfl)
theorem PS (a:Value):argsOk "set_iterator.__next__" ⟨[a],[]⟩:=by skip;kernel_rfl
theorem Tk:entryFor table "set.__iter__"=some Builtin.«frozenset.__iter__»:=entryFor_alias (id':="frozenset.__iter__") (by kernel_rfl) rfl (by decide+kernel) (by kernel_rfl)
theorem aH:typeLookup (.type "set") "__len__"=Pure.pure (some (.builtin "set.__len__")):=PySem.F.slot_set_len.lookup
noncomputable def Ge (first:Value) (i:Nat) (sa:Addr) (n ep:Nat):Obj:={cls:=.type "set_iterator",dict:=Option.none,data:=.fields #[first,rawInt i,.ref sa,rawInt n,rawInt ep],slots:=#[]}
section
variable {α:Type}
theorem d4 {src:Source}{Q:Nat→Shared→Prop}(hn:n≠0) (h:∀i d,i<n→Q i {s with drawn:=d}):wpAny (model P0 w) A (choose src n) Q E s:=fun _ _ _=>
 ⟨hn,h _ _ (Nat.mod_lt _ (Nat.pos_of_ne_zero hn))⟩
theorem LC {l:List α}(hi:i<l.length):(l[i]::l.eraseIdx i).Perm l:=by
 rw[List.eraseIdx_eq_take_drop_succ]
 refine List.perm_middle.symm.trans ?_
 rw[←List.drop_eq_getElem_cons hi,List.take_append_drop]
theorem SL:∀ (n:Nat) (xs:List α) (s:Shared) {Q:List α→Shared→Prop},xs.length=n→(∀ys d,ys.Perm xs→Q ys {s with drawn:=d})→wpAny (model P0 w) A (drawOrder n xs) Q E s:=by
 intro n
 induction n with
 |zero=>
  intro xs s Q hl h
  rw[List.length_eq_zero_iff.mp hl] at h⊢
  exact d9 (h [] s.drawn .nil)
 |succ n ih=>
  intro xs s Q hl h
  induction xs with
  |nil=>contradiction
  |cons x xs=>
   refine d8 (d4 (by simp) fun i d hi=>?_)
   refine(eN hi)▸?_
   refine d8 (ih _ _ (by rw[List.length_eraseIdx_of_lt hi];simp at hl⊢;exact hl) fun ys d' hp=>d9 (h _ d' ?_))
   exact(hp.cons _).trans (LC hi)
theorem Pb {P:PySem.Fin→Shared→Prop}(hh:A.handled=none) (h:∀h' e,(∀b o,s.heap.get? b=some o→h'.get? b=some o)→(∃o,h'.get? e=some o∧o.cls= .type "StopIteration")→E (.ref e) {s with heap:=h'}):
  wpAny (model P0 w) A (do raiseNew (←newExc (.type "StopIteration") [])) P E s:=by
 refine d8 ?_
 refine d8 (eD ?_ (by size_fits))
 refine d8 (m:=firstArgMember _ _) (wpAny_of_eq (a:=Value.none) (by first|rfl|(simp only[firstArgMember];rfl)) ?_)
 refine eD ?_ (by size_fits)
 dsimp only[raiseNew]
 refine d8 (wpAny_handled ?_)
 refine(hh)▸?_
 refine d8 (d9 (wpAny_throw ?_))
 exact h _ _ (fun b o e=>eg _ (eg _ e)) (Ak _ (em _ rfl) rfl)
def EM (w:World) (σ:List Str) (vs:List Value):Prop:=∃ys,Af Ii vs ys∧ys.Nodup∧∀y,y ∈ ys↔y ∈ σ
theorem W9 {es:List (Int×Value)}(h:ElemsOf (strKind P0 w) es):Af Ii (es.map (·.2)) (es.map BP):=by
 induction es with
 |nil=>exact .nil
 |cons e es ih=>exact .cons (Nr h (.head _)) (ih h.tail)
theorem EM.of {es:List (Int×Value)}{es0:List (Int×Value)}(h:ElemsOf (strKind P0 w) es0) (hp:es.Perm es0) (hn:(es0.map BP).Nodup) (hm:∀y,y ∈ es0.map BP↔y ∈ σ):EM w σ (es.map (·.2)):=
 (AE (es.map BP) (W9 (h.perm hp)) ((hp.map BP).nodup_iff.mpr hn) (fun y=>(hp.map BP).mem_iff.trans (hm y)))
structure NxOk (w:World) (A:Around) (ks:List (Addr×Obj)) (it:Addr) (first:Value) (sa:Addr) (n ep:Nat) (vs:List Value):Prop where
 len:vs.length=n
 item:∀i v (s:Shared) (Q:Option Value→Shared→Prop),vs[i]? =some v→s.heap.get? it=some (Ge first i sa n ep)→(∀p ∈ ks,s.heap.get? p.1=some p.2)→
  (∀h',h'.get? it=some (Ge first (i+1) sa n ep)→Heap.SameBut it s.heap h'→Q (some v) {s with heap:=h'})→wpAny (model P0 w) A (pyNext (.ref it)) Q (fun _ _=>False) s
 stop:∀(s:Shared) (Q:Option Value→Shared→Prop),s.heap.get? it=some (Ge first n sa n ep)→(∀p ∈ ks,s.heap.get? p.1=some p.2)→
  (∀h',Heap.ExtBut it s.heap h'→Q none {s with heap:=h'})→wpAny (model P0 w) A (pyNext (.ref it)) Q (fun _ _=>False) s
theorem HY (f:Nat→Nat):∀(n k:Nat) (left:List α) (out:Array α),left.length=n→(pickOrder.go f n k left out).toList.Perm (out.toList++left)
 |0,k,left,out,h=>by rw[List.length_eq_zero_iff.mp h,eJ];exact .refl _
 |n+1,k,left,out,h=>by
  dsimp only[pickOrder.go]
  have hi:f k % left.length<left.length:=Nat.mod_lt _ (Nat.lt_of_sub_eq_succ ‹_›)
  rw[eN hi]
  refine(HY f n (k+1) _ _ (by rw[List.length_eraseIdx_of_lt hi];exact Hf ‹_›)).trans ?_
  rw[Array.toList_push,fa]
  exact List.Perm.append_left _ (LC hi)
theorem Gd {vs:Array Value}{x:Value}{Q:Unit→Shared→Prop}(ho:s.heap.get? it=some {cls:=.type "set_iterator",dict:=Option.none,data:=.fields vs,slots:=#[]}) (hk:k<vs.size)
  (h:∀h',h'.get? it=some {cls:=.type "set_iterator",dict:=Option.none,data:=.fields (vs.setIfInBounds k x),slots:=#[]}→Heap.SameBut it s.heap h'→Q () {s with heap:=h'}):wpAny (model P0 w) A (setField (.ref it) k x) Q E s:=wpAny_setField_rec ho hk h
theorem Hl {Q:Bool→Shared→Prop}(h:Q (w.params.followText "set-order") s):wpAny (model P0 w) A setsByText Q E s:=d8 (wpAny_askSetting (d9 h))
section
variable {sa:Addr}{es:Array (Int×Value)}{t:SetTable}{ks:List (Addr×Obj)}
theorem HU {Q:Option Value→Shared→Prop}{first:Value}(hit:s.heap.get? it=some (Ge first i sa n ep))
  (h:wpAny (model P0 w) A.in1 (Builtin.«set_iterator.__next__» ⟨[.ref it],[]⟩) (fun fin s'=>∃v,fin= .done (.ret v)∧Q (some v) s') (fun e s'=>∃a,e= .ref a∧(∃o,s'.heap.get? a=some o∧o.cls= .type "StopIteration")∧Q none s') s):
  wpAny (model P0 w) A (pyNext (.ref it)) Q (fun _ _=>False) s:=by
 have hT:s.TypeIs (.ref it) "set_iterator":=⟨_,hit,rfl⟩
 refine d8 (wpAny_attempt (wpAny_callSpecial?_slot (name:=Str.ofString "__next__") hT H8 (eC H8 hT Tm (ej h (fun fin s' h'=>?_) fun e s' h'=>?_) (PS _))))
 ·obtain⟨v,rfl,q⟩:=h'
  exact Ak v rfl (d9 q)
 ·obtain⟨a,rfl,⟨o,ho,hc⟩,q⟩:=h'
  refine d8 (wpAny_isInstance (T:="StopIteration") (b:=true) (Ak o ho hc) isSubtype_stop ?_)
  exact d9 q
theorem Pz {Q:Array (Int×Value)→Shared→Prop}(ho:s.heap.get? sa=some o) (hd:o.data= .set es ep t) (hf:t.fits es.size=true) (hb:w.params.followText "set-order"=true) (h:Q (pickOrder (w.params.setOrder sa ep) es) s):wpAny (model P0 w) A (setWalk sa) Q E s:=by
 unfold setWalk
 refine d8 (wpAny_setState_of ho hd hf (d8 (Hl ?_)))
 rw[hb]
 exact d8 (wpAny_askSetting (d9 h))
theorem YQ (hh:A.handled=none) (ho:(sa,o) ∈ ks) (hd:o.data= .set es ep t) (hf:t.fits es.size=true) (hb:w.params.followText "set-order"=true):
  NxOk w A ks it (rawInt 0) sa es.size ep ((pickOrder (w.params.setOrder sa ep) es).toList.map (·.2)) where
 len:=by
  have:=(HY (w.params.setOrder sa ep) es.size 0 es.toList #[] rfl).length_eq
  rw[eM]
  exact this
 item i v s Q hv hit hk hQ:=HU hit (by
  have hs:=hk _ ho
  replace hv:=(List.getElem?_map)▸hv
  cases he:(pickOrder (w.params.setOrder sa ep) es).toList[i]? with
  |none=>replace hv:=(he)▸hv;contradiction
  |some e=>
   replace hv:=(he)▸hv;injection hv with hv;subst hv
   refine(?_:wpAny _ _ (fieldsOf (.ref it)>>=_) _ _ s)
   refine d8 (wpAny_fieldsOf hit rfl ?_)
   refine(?_:wpAny _ _ (setEntries sa>>=_) _ _ s)
   refine d8 (wpAny_setEntries_of hs hd hf ?_)
   refine(show(((es.size:Nat):Int) !=((es.size:Nat):Int))=false by simp)▸?_
   dsimp only[Bool.false_eq_true,if_false]
   refine d8 ?_
   refine d8 (wpAny_setState_of hs hd hf (d8 (Hl ?_)))
   rw[hb]
   dsimp only[if_true]
   rw[show(ep !=Int.toNat ((ep:Nat):Int))=false by simp]
   refine d8 (Pz hs hd hf hb (d9 ?_))
   rw[show(pickOrder (w.params.setOrder sa ep) es)[Int.toNat ((i:Nat):Int)]? =some e by simpa using he]
   dsimp only[Option.map]
   refine d8 (Gd hit (by simp) fun h1 g1 s1=>d8 (Gd g1 (by simp) fun h2 g2 s2=>d9 (Ak _ rfl (hQ h2 ?_ (s1.trans s2)))))
   exact g2)
 stop s Q hit hk hQ:=HU hit (by
  have hs:=hk _ ho
  have hsz:(pickOrder (w.params.setOrder sa ep) es).size=es.size:=by
   have:=(HY (w.params.setOrder sa ep) es.size 0 es.toList #[] rfl).length_eq
   exact this
  refine(?_:wpAny _ _ (fieldsOf (.ref it)>>=_) _ _ s)
  refine d8 (wpAny_fieldsOf hit rfl ?_)
  refine(?_:wpAny _ _ (setEntries sa>>=_) _ _ s)
  refine d8 (wpAny_setEntries_of hs hd hf ?_)
  refine(show(((es.size:Nat):Int) !=((es.size:Nat):Int))=false by simp)▸?_
  dsimp only[Bool.false_eq_true,if_false]
  refine d8 ?_
  refine d8 (wpAny_setState_of hs hd hf (d8 (Hl ?_)))
  rw[hb]
  dsimp only[if_true]
  rw[show(ep !=Int.toNat ((ep:Nat):Int))=false by simp]
  refine d8 (Pz hs hd hf hb (d9 ?_))
  rw[show(pickOrder (w.params.setOrder sa ep) es)[Int.toNat ((es.size:Nat):Int)]? =none by simp[hsz]]
  dsimp only[Option.map]
  refine d8 (Gd hit (by simp) fun h1 g1 s1=>Pb hh fun h' e k1 k2=>AE e rfl k2 (hQ h' fun b o hb' e'=>k1 b o ((s1.2 b hb').trans e'))))
theorem YP {tup:Addr}{ot:Obj}{ps:List Nat}{nn:Nat}(hh:A.handled=none) (ho:(sa,o) ∈ ks) (hd:o.data= .set es ep t) (hf:t.fits es.size=true) (hot:(tup,ot) ∈ ks) (hdt:ot.data= .seq (ps.map fun i:Nat=>rawInt i).toArray nn) (hps:ps.Perm (List.range es.size)):
  NxOk w A ks it (.ref tup) sa es.size ep (ps.map fun i=>(es.getD i default).2) where
 len:=by simp only[eM,hps.length_eq,List.length_range]
 item i v s Q hv hit hk hQ:=HU hit (by
  have hs:=hk _ ho
  have ht:=hk _ hot
  replace hv:=(List.getElem?_map)▸hv
  cases he:ps[i]? with
  |none=>replace hv:=(he)▸hv;contradiction
  |some p=>
   replace hv:=(he)▸hv;injection hv with hv;subst hv
   have hp:p<es.size:=List.mem_range.mp (hps.mem_iff.mp (List.mem_of_getElem? he))
   refine(?_:wpAny _ _ (fieldsOf (.ref it)>>=_) _ _ s)
   refine d8 (wpAny_fieldsOf hit rfl ?_)
   refine(?_:wpAny _ _ (setEntries sa>>=_) _ _ s)
   refine d8 (wpAny_setEntries_of hs hd hf ?_)
   refine(show(((es.size:Nat):Int) !=((es.size:Nat):Int))=false by simp)▸?_
   dsimp only[Bool.false_eq_true,if_false]
   refine d8 (wpAny_seqItems ht hdt ?_)
   dsimp only
   rw[show((ps.map fun i:Nat=>rawInt i).toArray)[Int.toNat ((i:Nat):Int)]? =some (rawInt p) by simp[he]]
   refine d8 ?_
   dsimp only[setNextDrawn]
   refine d8 (wpAny_setState_of hs hd hf ?_)
   dsimp only
   refine(show(ep !=Int.toNat ((ep:Nat):Int))=false by simp)▸?_
   simp only[show es[Int.toNat ((p:Nat):Int)]? =some (es.getD p default) by simp[Array.getD,hp]]
   refine d9 (d8 (Gd hit (by simp) fun h1 g1 s1=>d9 (Ak _ rfl (hQ h1 ?_ s1))))
   exact g1)
 stop s Q hit hk hQ:=HU hit (by
  have hs:=hk _ ho
  have ht:=hk _ hot
  refine(?_:wpAny _ _ (fieldsOf (.ref it)>>=_) _ _ s)
  refine d8 (wpAny_fieldsOf hit rfl ?_)
  refine(?_:wpAny _ _ (setEntries sa>>=_) _ _ s)
  refine d8 (wpAny_setEntries_of hs hd hf ?_)
  refine(show(((es.size:Nat):Int) !=((es.size:Nat):Int))=false by simp)▸?_
  dsimp only[Bool.false_eq_true,if_false]
  refine d8 (wpAny_seqItems ht hdt ?_)
  dsimp only
  rw[show((ps.map fun i:Nat=>rawInt i).toArray)[Int.toNat ((es.size:Nat):Int)]? =none by simp[hps.length_eq]]
  refine d8 (Gd hit (by simp) fun h1 g1 s1=>d8 (Gd g1 (by simp) fun h2 g2 s2=>Pb hh fun h' e k1 k2=>AE e rfl k2 (hQ h' fun b o hb' e'=>k1 b o (((s1.trans s2).2 b hb').trans e')))))
theorem SM {Q:Bool→Shared→Prop}(ho:s.heap.get? sa=some o) (hd:o.data= .set es ep t) (hf:t.fits es.size=true) (hp:t.plain=false) (h2:2≤es.size) (h:Q (!w.params.followText "set-order") s):wpAny (model P0 w) A (setDrawn sa) Q E s:=by
 unfold setDrawn
 refine d8 (wpAny_setState_of ho hd hf (d8 (Hl (d9 ?_))))
 refine(?_:Q (!w.params.followText "set-order" && (!t.plain && decide (es.size>1))) s)
 simp only[hp,show decide (es.size>1)=true from eU h2,Bool.not_false,Bool.and_true,Bool.and_true]
 exact h
theorem ZT: (List.range es.size).map (fun i=>es.getD i default)=es.toList:=by
 refine List.ext_getElem (by simp) fun i h1 h2=>?_
 simp at h1
 simp[Array.getD,h1]
theorem WQ {B:Around}{Q:Value→Shared→Prop}(hh:B.handled=none) (ho:s.heap.get? sa=some o) (hex:o.ExactSet) (hd:o.data= .set es ep t) (hel:ElemsOf (strKind P0 w) es.toList) (hf:t.fits es.size=true) (hp:t.plain=false) (h2:2≤es.size) (hz:es.size≤4000) (hn:(es.toList.map BP).Nodup) (hm:∀y,y ∈ es.toList.map BP↔y ∈ σ)
  (h:∀h' d it first ks vs,(∀b o,s.heap.get? b=some o→h'.get? b=some o∧b≠it)→h'.get? it=some (Ge first 0 sa es.size ep)→(∀p ∈ ks,h'.get? p.1=some p.2∧p.1≠it∧(p.1=sa∨s.heap.get? p.1=none))→NxOk w B ks it first sa es.size ep vs→EM w σ vs→Q (.ref it) {s with heap:=h',drawn:=d}):
  wpAny (model P0 w) A (pyIter (.ref sa)) Q E s:=by
 have hT:s.TypeIs (.ref sa) "set":=Ak o ho hex.1
 refine wpAny_pyIter_slot hT PySem.F.slot_set_iter (eC PySem.F.slot_set_iter hT Tk ?_ (PySem.F.args_set_iter_1 _))
 refine(?_:wpAny _ _ (Builtin.Frozenset.sizeOf sa>>=_) _ _ s)
 refine d8 (d8 (wpAny_setEntries_of ho hd hf (d9 ?_)))
 have lt:∀{b:Addr}{x:Obj}{h:Heap},h.get? b=some x→b≠h.objs.size:=fun e=>eG (eE e)
 refine d8 (SM ho hd hf hp h2 ?_)
 cases hb:w.params.followText "set-order" with
 |true=>
  refine d8 (d9 (d8 ?_))
  refine wpAny_setEpoch_of ho hd hf (d8 (eD (d9 ⟨_,rfl,"set_iterator",_,(Ak _ (em _ rfl) rfl),H8.lookup,?_⟩)))
  refine h _ s.drawn _ (rawInt 0) [(sa,o)] _ (fun b x e=>⟨eg _ e,lt e⟩) (em _ rfl) (fun p hp=>?_) (YQ hh (.head _) hd hf hb) ?_
  ·obtain rfl:=List.mem_singleton.mp hp
   exact⟨eg _ ho,lt ho,.inl rfl⟩
  ·have pp:=HY (w.params.setOrder sa ep) es.size 0 es.toList #[] rfl
   exact EM.of hel pp hn hm
 |false=>
  dsimp only[Bool.not_false,if_true]
  refine d8 (SL es.size (List.range es.size) s (by simp) fun ps d hps=>d8 (wpAny_newTuple (d8 ?_) (by simp only[eM,hps.length_eq,List.length_range,eT];exact eb ‹_› (d7 rfl))))
  have ho':=eg {cls:=.type "tuple",dict:=Option.none,data:=.seq (ps.map fun i:Nat=>rawInt i).toArray} ho
  refine wpAny_setEpoch_of ho' hd hf (d8 (eD (d9 ⟨_,rfl,"set_iterator",_,(Ak _ (em _ rfl) rfl),H8.lookup,?_⟩)))
  refine h _ d _ (.ref s.heap.objs.size) [(sa,o),(s.heap.objs.size,{cls:=.type "tuple",dict:=Option.none,data:=.seq (ps.map fun i:Nat=>rawInt i).toArray})] _ (fun b x e=>⟨eg _ (eg _ e),lt (eg _ e)⟩) (em _ rfl) (fun p hp=>?_) (YP hh (.head _) hd hf (.tail _ (.head _)) rfl hps) ?_
  ·rcases fj hp with rfl|hp
   ·exact⟨eg _ ho',lt ho',.inl rfl⟩
   ·obtain rfl:=List.mem_singleton.mp hp
    exact⟨eg _ (em _ rfl),lt (em _ rfl),.inr (Heap.get?_none_of_le (eh _))⟩
  ·have pp:(ps.map fun i=>es.getD i default).Perm es.toList:=ZT (es:=es)▸hps.map _
   have:=EM.of hel pp hn hm
   rwa [e8] at this
end
end
section
variable {sa S:Addr}{es:Array (Int×Value)}{t:SetTable}
theorem Tw {ks:List (Addr×Obj)}{first res:Value}{R:Result→Shared→Prop}(N:NxOk w A.in1 ks it first sa n ep vs) (hn:n≤10000) (hks:∀p ∈ ks,p.1≠it∧p.1≠S) (hSI:S≠it):
  ∀(k i:Nat) (s:Shared) (acc:Array Value) (c:Nat),n - i=k→i≤n→s.heap.get? it=some (Ge first i sa n ep)→(∀p ∈ ks,s.heap.get? p.1=some p.2)→s.heap.get? S=some (seqObj "list" acc c)→acc.toList=vs.take i→
   (∀h' c',(∀b o,b≠it→b≠S→s.heap.get? b=some o→h'.get? b=some o)→h'.get? S=some (seqObj "list" vs.toArray c')→R (.ok (.ret res)) {s with heap:=h'})→
   codeAny (model P0 w) A (.builtin "list.extend.loop" ⟨[.ref S,.ref it,res],[]⟩) R s:=by
 intro k
 induction k with
 |zero=>
  intro i s acc c hk hi hit hks' hS hacc hR
  obtain rfl:i=n:=KH ‹_› ‹_›
  refine codeAny_builtin PySem.F.entry_extend_loop ?_
  refine(Around.under_plainId PySem.F.plain_extend_loop _)▸?_
  refine(?_:wpAny _ A.in1 (pyNext (.ref it)>>=_) _ _ s)
  refine d8 (ej (N.stop s _ hit hks' fun h' hx=>?_) (fun _ _ h=>h) fun _ _ e=>e.elim)
  have e:acc=vs.toArray:=Array.toList_inj.mp (by rw[hacc,List.take_of_length_le (eH N.len)])
  exact d9 (hR h' c (fun b o hb _ e=>hx b o hb e) (e▸hx S _ hSI hS))
 |succ k ih=>
  intro i s acc c hk hi hit hks' hS hacc hR
  obtain⟨v,hv⟩:∃v,vs[i]? =some v:=⟨_,eN (by simp only[N.len];exact Nat.lt_of_sub_eq_succ ‹_›)⟩
  refine codeAny_builtin PySem.F.entry_extend_loop ?_
  refine(Around.under_plainId PySem.F.plain_extend_loop _)▸?_
  refine(?_:wpAny _ A.in1 (pyNext (.ref it)>>=_) _ _ s)
  refine d8 (ej (N.item i v s _ hv hit hks' fun h' hit' hs=>?_) (fun _ _ h=>h) fun _ _ e=>e.elim)
  have hS':=(hs.2 S hSI).trans hS
  have hsz:acc.size≤10000:=by rw[←Array.length_toList,hacc,eZ];exact PW ‹_› ‹_›
  refine d8 (wpAny_updateSeq hS' rfl (d9 ⟨plainId_quiet PySem.F.plain_extend_loop _,ih (i+1) _ (acc.push v) _ (Hf ‹_›) (Nat.lt_of_sub_eq_succ ‹_›) ((Heap.get?_update_other _ _ hSI).trans hit') (fun p hp=>?_) (Heap.get?_update_self _ hS' rfl) ?_ fun h2 c2 k2 hS2=>hR h2 c2 (fun b o h1 h3 e=>k2 b o h1 h3 ?_) hS2⟩) (by rw[eT];exact eb ‹_› (d7 rfl)) (by refine(?_:(acc.push v).size≤_);rw[Array.size_push,eT];exact ef ‹_› (d7 rfl)))
  ·exact(Heap.get?_update_other _ _ (Ne.symm (hks p hp).2)).trans ((hs.2 _ (hks p hp).1).trans (hks' p hp))
  ·simp only[Array.toList_push,hacc,List.take_add_one,hv];rfl
  ·exact(Heap.get?_update_other _ _ (Ne.symm h3)).trans ((hs.2 b h1).trans e)
theorem Sx {Q:List Value→Shared→Prop}(hh:A.handled=none) (ho:s.heap.get? sa=some o) (hT:B6 w σ o) (hl:σ.length≤4000) (hy:y ∈ σ) (hz:z ∈ σ) (hyz:y≠z)
  (h:∀h' d vs,(∀b o,s.heap.get? b=some o→h'.get? b=some o)→EM w σ vs→Q vs {s with heap:=h',drawn:=d}):wpAny (model P0 w) A (collect (.ref sa)) Q E s:=by
 obtain⟨hex,hd,hel,hf,hp,hnd,hm,hsz⟩:=hT
 rename_i es ep t
 have h2:2≤es.size:=by
  have a:=(hm y).mpr hy
  have b:=(hm z).mpr hz
  rw[←Array.length_toList]
  rcases e:es.toList with _|⟨e1,_|⟨e2,l⟩⟩
  ·exact nomatch (e▸a)
  ·rw[e] at a b
   exact absurd ((List.mem_singleton.mp a).trans (List.mem_singleton.mp b).symm) hyz
  ·simp
 have hp:t.plain=false:=hp.resolve_right (by lia)
 delta collect
 refine d8 (wpAny_runValue (codeAny_builtin PySem.F.entry_proto_collect ?_))
 rw[Around.under_plainId PySem.F.plain_proto_collect _]
 refine(?_:wpAny _ A.in1 (newList []>>=fun l=>again (.builtin "list.__iadd__" ⟨[l,.ref sa],[]⟩)) _ _ s)
 refine d8 (eD ?_)
 refine d9 ⟨plainId_quiet PySem.F.plain_list_iadd _,codeAny_builtin PySem.F.entry_list_iadd ?_⟩
 rw[Around.under_plainId PySem.F.plain_list_iadd _]
 have hlt:sa≠s.heap.objs.size:=eG (eE ho)
 have ho1:=eg {cls:=.type "list",dict:=Option.none,data:=.seq ([]:List Value).toArray} ho
 have hS1:(s.heap.push {cls:=.type "list",dict:=Option.none,data:=.seq ([]:List Value).toArray}).get? s.heap.objs.size=some (seqObj "list" #[] 0):=em _ rfl
 have hT1:Shared.TypeIs {s with heap:=s.heap.push {cls:=.type "list",dict:=Option.none,data:=.seq ([]:List Value).toArray}} (.ref sa) "set":=⟨o,ho1,hex.1⟩
 refine(?_:wpAny _ A.in1 (Builtin.List.listExtendWith (.ref s.heap.objs.size) (.ref sa) (.ref s.heap.objs.size)) _ _ _)
 delta Builtin.List.listExtendWith
 refine d8 (wpAny_typeOf hT1 ?_)
 have h1:Builtin.List.listSameRef (.ref s.heap.objs.size) (.ref sa)=false:=by simp[Builtin.List.listSameRef,Ne.symm hlt]
 refine wpAny_ite_false (by rw[h1];rfl) ?_
 refine d8 (WQ (A:=A.in1) (B:=A.in1) hh ho1 hex hd hel hf hp h2 (eb ‹_› ‹_›) hnd hm fun h' d it first ks vs keep hit hks N sv=>?_)
 have hT2:Shared.TypeIs {s with heap:=h',drawn:=d} (.ref sa) "set":=⟨o,(keep _ _ ho1).1,hex.1⟩
 have hS2:=(keep _ _ hS1).1
 have hSI:s.heap.objs.size≠it:=(keep _ _ hS1).2
 refine d8 (en ?_)
 delta Builtin.List.listLengthHint
 refine d8 (wpAny_specialOf hT2 aH ?_)
 have hsp:splitId "set.__len__"=some ("set","__len__"):=by decide+kernel
 dsimp only
 rw[hsp]
 refine d8 (wpAny_isInstance (T:="set") (b:=true) hT2 (by rw[e6];kernel_rfl) ?_)
 refine wpAny_ite_false rfl (wpAny_ite_true (by decide+kernel) ?_)
 refine d8 (wpAny_typeOf hT2 ?_)
 refine d9 ?_
 refine wpAny_ite_true (by decide+kernel) ?_
 refine d8 (wpAny_rule ?_)
 refine d8 ?_
 refine(?_:wpAny _ A.in1 (updateSeq s.heap.objs.size (·.push .none)>>=fun _=>updateSeq s.heap.objs.size (·.pop)) _ _ _)
 refine d8 (wpAny_updateSeq hS2 rfl ?_)
 have hS3:=Heap.get?_update_self (Obj.mapSeq (·.push Value.none)) hS2 rfl
 refine wpAny_updateSeq hS3 rfl ?_
 have hS4:=Heap.get?_update_self (Obj.mapSeq (·.pop)) hS3 rfl
 have oth:∀b o,b≠s.heap.objs.size→h'.get? b=some o→((h'.update s.heap.objs.size (Obj.mapSeq (·.push Value.none))).update s.heap.objs.size (Obj.mapSeq (·.pop))).get? b=some o:=
  fun b o hb e=>(Heap.get?_update_other _ _ (Ne.symm hb)).trans ((Heap.get?_update_other _ _ (Ne.symm hb)).trans e)
 have hks2:∀p ∈ ks,p.1≠it∧p.1≠s.heap.objs.size:=fun p hp=>⟨(hks p hp).2.1,by
  rcases(hks p hp).2.2 with e|e
  ·rw[e];exact hlt
  ·intro q;rw[q,hS1] at e;cases e⟩
 refine d9 ⟨plainId_quiet PySem.F.plain_extend_loop _,Tw N (eb ‹_› (eb ‹_› (d7 rfl))) hks2 hSI es.size 0 _ _ _ rfl (eB _) (oth _ _ (Ne.symm hSI) hit) (fun p hp=>oth _ _ (hks2 p hp).2 (hks p hp).1) hS4 rfl fun h2 c' k2 hS5=>?_⟩
 refine(?_:wpAny _ A (load s.heap.objs.size>>=_) _ _ _)
 refine d8 (wpAny_load hS5 ?_)
 refine d9 ?_
 have:=h h2 d vs (fun b o e=>?_) sv
 ·exact this
 ·have a:=keep b o (eg _ e)
  exact k2 b o a.2 (eG (eE e)) (oth b o (eG (eE e)) a.1)
end
noncomputable def AF (a b:List Nat):Bool:=decide (a.length<b.length)||(a.length==b.length && decide (a<b))
theorem PB {a b d:List Nat}(h1:AF a b=true) (h2:AF b d=true):AF a d=true:=by
 simp only[AF,Bool.or_eq_true,decide_eq_true_eq,Bool.and_eq_true,beq_iff_eq] at*
 rcases h1 with h1|⟨h1,h3⟩<;>rcases h2 with h2|⟨h2,h4⟩
 ·left;exact ez ‹_› ‹_›
 ·left;exact KL ‹_› ‹_›
 ·left;lia
 ·right;exact⟨h1.trans h2,List.lt_trans h3 h4⟩
theorem Ig {a:List Nat}:AF a a=false:=by
 simp[AF,List.lt_irrefl]
theorem d3 {a b:List Nat}(hne:a≠b) (h:AF a b=false):AF b a=true:=by
 simp only[AF,Bool.or_eq_false_iff,decide_eq_false_iff_not,Bool.and_eq_false_iff,beq_eq_false_iff_ne,Bool.or_eq_true,decide_eq_true_eq,Bool.and_eq_true,beq_iff_eq] at*
 rcases Nat.lt_trichotomy a.length b.length with q|q|q
 ·exact absurd q h.1
 ·right
  refine⟨q.symm,?_⟩
  have h2:¬a<b:=h.2.resolve_left (fun e=>e q)
  exact Classical.byContradiction fun h3=>hne (List.le_antisymm (List.not_lt.mp h3) (List.not_lt.mp h2))
 ·exact .inl q
theorem bk {l l':List (List Nat)}(hp:l.Perm l') (h1:l.Pairwise fun a b=>AF a b=true) (h2:l'.Pairwise fun a b=>AF a b=true):l=l':=
 hp.eq_of_pairwise (fun a b _ _ h3 h4=>absurd (PB h3 h4) (by rw[Ig];exact Bool.false_ne_true)) h1 h2
def Cv (F:FM) (v:Value) (w:List Nat):Prop:=∃b t u,v= .ref b∧Tu F b [.int (w.length:Int) t,.str (tx w) u]
theorem Cv.le {w:List Nat}(h:Cv F v w) (l:Le F F'):Cv F' v w:=FE (h) fun b t u e x=>⟨b,t,u,e,x.le l⟩
def EJ (h:Heap) (v:Value) (wd:List Nat):Prop:=∃a o t u n,v= .ref a∧h.get? a=some o∧o.cls= .type "tuple"∧o.data= .seq #[.int (wd.length:Int) t,.str (tx wd) u] n
theorem WY {x y:Value}{a b:List Nat}{Q:Bool→Shared→Prop}(hx:EJ s.heap x a) (hy:EJ s.heap y b) (h:Q (AF a b) s):wpAny (model P0 w) A (keyLt' (tuples' true) x y) Q E s:=by
 obtain⟨ax,ox,t,u,n,rfl,hox, -,dx⟩:=hx
 obtain⟨ay,oy,t',u',n',rfl,hoy, -,dy⟩:=hy
 refine kat_lt hox dx hoy dy ?_
 refine(?_:KatLex _ _ _ _ _ _ [(_,_),(_,_)] 0 s)
 refine kat_cons (wpAny_eqBool_int ?_)
 by_cases e:a.length=b.length
 ·rw[show(((a.length:Nat):Int)==((b.length:Nat):Int))=true from beq_iff_eq.mpr (congrArg _ ‹_›)]
  refine kat_yes (kat_cons (wpAny_eqBool_str ?_))
  by_cases e2:a=b
  ·subst e2
   rw[eU rfl]
   refine kat_yes (kat_nil ?_)
   rw[Ig] at h
   exact h
  ·simp only[eV (fun q=>e2 (tx_inj q))]
   refine kat_no ?_
   refine(?_:wpAny _ _ (oneLt' false _ _) _ _ s)
   refine kat_one _ _ (lt_str ?_)
   have:AF a b=decide (a<b):=by simp[AF,e]
   rw[this] at h
   exact h
 ·rw[show(((a.length:Nat):Int)==((b.length:Nat):Int))=false by rw[beq_eq_false_iff_ne];lia]
  refine kat_no ?_
  refine(?_:wpAny _ _ (oneLt' true _ _) _ _ s)
  refine oneLt_int ?_
  have:AF a b=decide (((a.length:Nat):Int)<((b.length:Nat):Int)):=by
   simp only[AF,beq_eq_false_iff_ne.mpr e,Bool.false_and,Bool.or_false]
   exact decide_eq_decide.mpr Int.ofNat_lt.symm
  rw[this] at h
  exact h
theorem WX {ks:List Value}{Q:SortKind→Shared→Prop}(hk:Af (EJ s.heap) ks ws) (hne:0<ks.length) (h:Q (tuples' true) s):wpAny (model P0 w) A (keyKind' ks.toArray) Q E s:=by
 obtain⟨fs,hf,hl,ht⟩:∃fs,KatTups s.heap ks fs∧fs.length=ks.length∧∀v ∈ fs,∃i t,v=Value.int i t:=by
  clear hne
  induction hk with
  |nil=>exact AE ([]) .nil rfl (fun v hv=>nomatch hv)
  |cons a _ ih=>
   refine AX (ih) fun fs h1 h2 h3=>?_
   obtain⟨b,o,t,u,n,rfl,ho,hc,hd⟩:=a
   refine⟨_::fs,.cons ho hc hd rfl h1,by simp only[List.length_cons,List.length_cons,h2],fun v hv=>?_⟩
   rcases fj hv with rfl|hv
   ·exact⟨_,_,rfl⟩
   ·exact h3 v hv
 refine kat_kind (T:=.type "int") hf (by lia) (fun v hv=>?_) (by decide) h
 obtain⟨i,t,rfl⟩:=ht v hv
 exact .now
theorem W8 {ks:List Value}{P:SortSt→Shared→Prop}(hk:Af (EJ s.heap) ks ws) (hv:Af Ah vs ws) (hnd:ws.Nodup) (h2:2≤vs.length) (h64:vs.length<64) (hp:ws.Perm ps) (hps:ps.Pairwise fun a b=>AF a b=true)
  (h:∀st' out,Af Ah out ps→(arrOf st').map (·.2)=List.toArray out→failedOf st'=none→P st' s):
  wpAny (model P0 w) A ((sortRuns').run (SortSt.mk' (tuples' true) (ks.toArray.zip vs.toArray) #[] 7 none)) (fun r s'=>P r.2 s') E s:=by
 have hl:ks.length=vs.length:=hk.len.trans hv.len.symm
 have hwl:ws.length=vs.length:=hv.len.symm
 refine kat_run hl h2 h64 (G:=fun p s'=>s'=s∧Bo vs.length p∧CK (fun i j=>AF (ws.getD i []) (ws.getD j [])) p vs.length) (fun p st' s' hps' har hf hG=>?_) ?_
 ·obtain⟨rfl,ho,hs⟩:=hG
  have he:∀i,i<vs.length→Ah (vs.getD i .none) (ws.getD i []):=fun i hi=>by
   obtain⟨wd,hwd⟩:∃wd,ws[i]? =some wd:=⟨_,eN (by lia)⟩
   obtain⟨v,hv1,hv2⟩:=hv.get hwd
   simpa [List.getD_eq_getElem?_getD,hwd,hv1] using hv2
  have hr:((List.range vs.length).map fun i=>ws.getD i [])=ws:=by
   refine List.ext_getElem (by simp[hwl]) fun i a b=>?_
   simp[List.getD_eq_getElem?_getD,b]
  have hlp:=Array.perm_iff_toList_perm.mp ho
  have hpm:(p.toList.map fun i=>ws.getD i []).Perm ps:=((hlp.map _).trans (.of_eq (by dsimp only[List.toList_toArray];exact hr))).trans hp
  have hsd:(p.toList.map fun i=>ws.getD i []).Pairwise fun a b=>AF a b=true:=by
   rw[List.pairwise_map,List.pairwise_iff_getElem]
   intro i j hi hj hij
   have hsz:=ho.size
   simp only[Array.length_toList] at hi hj
   have:=hs i j hij (KL ‹_› ‹_›)
   simp only[C8 hi,C8 hj] at this
   simpa using this
  have e:=bk hpm hsd hps
  refine h st' _ ?_ (kat_snds hl har) hf
  simp only[←e]
  have:∀l:List Nat,(∀i ∈ l,i<vs.length)→Af Ah (l.map fun i=>vs.getD i Value.none) (l.map fun i=>ws.getD i []):=fun l=>by
   induction l with
   |nil=>exact fun _=>.nil
   |cons i l ih=>exact fun hm=>.cons (he i (hm i (.head _))) (ih fun j hj=>hm j (.tail _ hj))
  exact this _ fun i hi=>by simpa using hlp.mem_iff.mp hi
 ·refine OA (n:=vs.length) (lt:=fun i j=>AF (ws.getD i []) (ws.getD j [])) (fun s'=>s'=s) (fun i j C s' hi hj hij e hC=>?_) (fun p s' q e=>⟨e,q⟩) _ _ (ZO ⟨fun i j hi hj hij hf=>?_,fun i j k=>PB⟩ h2) rfl
  ·subst e
   have hk':∀i,i<vs.length→EJ s'.heap (ks.getD i .none) (ws.getD i []):=fun i hi=>by
    obtain⟨wd,hwd⟩:∃wd,ws[i]? =some wd:=⟨_,eN (by lia)⟩
    obtain⟨v,hv1,hv2⟩:=hk.get hwd
    simpa [List.getD_eq_getElem?_getD,hwd,hv1] using hv2
   exact WY (hk' i hi) (hk' j hj) (hC s' rfl)
  ·refine d3 (fun q=>hij ?_) hf
   have h1:i<ws.length:=by lia
   have h3:j<ws.length:=by lia
   simp only[List.getD_eq_getElem?_getD,eN h1,eN h3,Option.getD_some] at q
   rcases Nat.lt_or_gt_of_ne hij with g|g
   ·exact absurd q (List.pairwise_iff_getElem.mp hnd i j h1 h3 g)
   ·exact absurd q.symm (List.pairwise_iff_getElem.mp hnd j i h3 h1 g)
section
variable {kS D:Addr}
theorem Run.X6 {ks:List Value}{k:Value}(hl:ks.length<1000) (h:QU () F ((kS,Ab (ks++[k]))::V)):Run c A (Builtin.List.listUpdate (.ref kS) (·.push k)) F ((kS,Ab ks)::V) QU:=.ki fun s P S kk=>by
 refine BZ (BW .head S) fun m e=>?_
 exact listUpdate_at e rfl (kk _ _ F _ ⟨S.toStP.Fr .head _ (List.push_toArray ..),S.tk⟩ h) (by rw[eY,eT];exact ec (ea ‹_› (d7 rfl))) (by rw[Array.size_push,eY,eT];exact ea ‹_› (d7 rfl))
theorem Xa {f:Value}{body:Value→PUnit→Sem (ForInStep PUnit)}{QU:PUnit→FM→Aa→Prop}(hb:∀x F V (Q:ForInStep PUnit→FM→Aa→Prop),Run c A (PySem.call f [x]) F V (fun k F' V'=>Run c A (Builtin.List.listUpdate (.ref kS) (·.push k)) F' V' (fun _=>Q (.yield ⟨⟩)))→Run c A (body x ⟨⟩) F V Q)
  (hf:∀v wd F1 V1 (Q:Value→FM→Aa→Prop),Ah v wd→wd.length≤1000→Le F F1→(∀k F2,Le F1 F2→Cv F2 k wd→Q k F2 V1)→Run c A (PySem.call f [v]) F1 V1 Q) {vs:List Value}{ws:List (List Nat)}(hv:Af Ah vs ws) (hw:∀w ∈ ws,w.length≤1000):∀(ks:List Value) (kws:List (List Nat)) (F1:FM),Le F F1→Af (Cv F1) ks kws→ks.length+vs.length<64→
  (∀F2 ks',Le F1 F2→Af (Cv F2) ks' (kws++ws)→QU ⟨⟩ F2 ((kS,Ab ks')::V))→Run c A (forIn vs PUnit.unit body) F1 ((kS,Ab ks)::V) QU:=by
 induction hv with
 |nil=>
  intro ks kws F1 le hk _ h
  simp only[List.forIn_nil]
  exact .pure (h F1 ks (Le.refl _) (by rw[eJ];exact hk))
 |@cons v wd vs ws hv _ ih=>
  intro ks kws F1 le hk hl h
  simp only[List.length_cons] at hl
  rw[e7]
  refine .bind (hb v F1 _ _ (hf v wd F1 _ _ hv (hw _ (.head _)) le fun k F2 le2 hkt=>Run.X6 (by lia) ?_))
  refine ih (fun w hm=>hw w (.tail _ hm)) (ks++[k]) (kws++[wd]) F2 (le.trans le2) ((hk.mono fun _ _ q=>q.le le2).snoc hkt) (by simp only[eO,List.length_singleton];exact Qt ‹_›) fun F3 ks' le3 hk'=>h F3 ks' (le2.trans le3) ?_
  rwa [fa] at hk'
theorem Cv.at (S:St c F V s) (h:Cv F v wd):EJ s.heap v wd:=by
 obtain⟨b,t,u,rfl,o,ho,hc,m,hd⟩:=h
 exact M9 b o t u m rfl (S.own.fro _ _ ho) hc hd
def GC (o:Obj) (o':Obj):Prop:=o'=o
theorem dg {P:PySem.Fin→Shared→Prop}{st:SortSt}{e1:Nat}{ks out:List Value}(S:St c F ((kS,Ab ks)::(D,GC (seqObj "list" #[] e1))::V) s) (hk:ks.length<1000) (ho:out.length<1000) (hout:(arrOf st).map (·.2)=List.toArray out) (hf:failedOf st=none)
  (h:∀s',St c F ((D,Ab out)::V) s'→P (.done (.ret .none)) s'):wpAny (Mo c) A (ksk_tail D false e1 (.ref kS) st) P (fun _ _=>False) s:=by
 unfold ksk_tail
 refine(hout)▸?_
 refine Exists.elim (BW .head S) fun m e=>?_
 refine d8 (listUpdate_at e rfl ?_ (by simp only[eY,eT];exact ec (ea ‹_› (d7 rfl))) (eB _))
 have S2:St c F ((kS,Ab [])::(D,GC (seqObj "list" #[] e1))::V) {s with heap:=s.heap.update kS (Obj.mapSeq fun _=>(#[]:Array Value))}:=⟨S.toStP.Fr (k:=s.toks) .head (fun _=>#[]) rfl,S.tk⟩
 refine Ag (S2.own.get (.tail .head)) fun o ho2 ho3=>?_
 have ho3:o=seqObj "list" #[] e1:=ho3
 subst ho3
 refine d8 (wpAny_letGo ?_)
 refine d8 (seqEpoch_at ho2 rfl ?_)
 refine d8 (listUpdate_at ho2 rfl ?_ (eB _) (by refine(?_:(List.toArray out).size≤_);rw[eY,eT];exact ec (ea ‹_› (d7 rfl))))
 rw[hf]
 simp only[bne_self_eq_false,Bool.false_eq_true,if_false]
 refine d9 (h _ ⟨⟨?_,S2.base,S2.gens,S2.os⟩,S2.tk⟩)
 obtain⟨c2,hc2⟩:∃c2,((s.heap.update kS (Obj.mapSeq fun _=>(#[]:Array Value))).update D (Obj.mapSeq fun _=>List.toArray out)).get? D=some (seqObj "list" (List.toArray out) c2):=⟨_,get?_update_seq ho2 fun _=>List.toArray out⟩
 exact(S2.own.put (V':=(kS,Ab [])::(D,Ab out)::V) (.tail .head) (Heap.SameBut.update ..) ⟨_,hc2,c2,rfl⟩).sub (List.sublist_cons_self ..)
theorem bh {P:PySem.Fin→Shared→Prop}{f:Value}(S:St c F ((D,Ab vs)::V) s) (hv:Af Ah vs ws) (hnd:ws.Nodup) (hp:ws.Perm ps) (hps:ps.Pairwise fun a b=>AF a b=true) (h2:2≤ps.length) (h64:ps.length<64) (hw:∀w ∈ ps,w.length≤1000)
  (hf:∀v wd F1 V1 (Q:Value→FM→Aa→Prop),Ah v wd→wd.length≤1000→Le F F1→(∀k F2,Le F1 F2→Cv F2 k wd→Q k F2 V1)→Run c A (PySem.call f [v]) F1 V1 Q)
  (h:∀F1 out s',Le F F1→Af Ah out ps→St c F1 ((D,Ab out)::V) s'→P (.done (.ret .none)) s'):wpAny (Mo c) A (ksk_tree D f false) P (fun _ _=>False) s:=by
 have hvl:vs.length=ps.length:=hv.len.trans hp.length_eq
 obtain⟨m,e⟩:=BW .head S
 refine d8 (listItems_at e rfl ?_)
 refine d8 (listUpdate_at e rfl ?_ (by rw[eY,eT];exact EQ ‹_› ‹_› rfl) (eB _))
 obtain⟨e1,he1⟩:∃e1,(s.heap.update D (Obj.mapSeq fun _=>(#[]:Array Value))).get? D=some (seqObj "list" #[] e1):=⟨_,get?_update_seq e fun _=>#[]⟩
 have S1:St c F ((D,GC (seqObj "list" #[] e1))::V) {s with heap:=s.heap.update D (Obj.mapSeq fun _=>(#[]:Array Value))}:=⟨⟨S.own.put .head (Heap.SameBut.update ..) (Ak _ he1 rfl),S.base,S.gens,S.os⟩,S.tk⟩
 refine d8 (seqEpoch_at he1 rfl ?_)
 refine d8 (wpAny_newTuple ?_ (by refine(?_:vs.length≤_);rw[eT];exact EQ ‹_› ‹_› rfl))
 refine d8 (wpAny_newList ?_ (eB _))
 refine en ?_
 have S2:=(S1.toStP.push' (o:={cls:=.type "tuple",dict:=Option.none,data:=.seq vs.toArray}) (k:=s.toks)).push (o:={cls:=.type "list",dict:=Option.none,data:=.seq (#[]:Array Value)}) (P:=Ab []) (k:=s.toks) ⟨_,rfl⟩
 dsimp only[ksk_rest]
 refine d8 (wpAny_rule ?_)
 rw[List.forIn_toArray]
 refine d8 ((Xa (F:=F) (V:=(D,GC (seqObj "list" #[] e1))::V) (QU:=fun _ F2 V2=>Le F F2∧∃ks,V2=(_,Ab ks)::(D,GC (seqObj "list" #[] e1))::V∧Af (Cv F2) ks ws) (fun x F V Q hx=>.ki fun s P S kk=>?_) hf hv (fun w hm=>hw w (hp.mem_iff.mp hm)) [] [] F (Le.refl _) .nil (by simp only[List.length_nil];lia) fun F2 ks' le hk=>⟨le,ks',rfl,hk⟩).fu ⟨S2,S.tk⟩ fun _ s3 F3 V3 S3 q=>?_)
 ·refine d8 (wpAny_attempt (ej (hx.fu (E:=fun _ _=>False) S fun k s1 F1 V1 S1 h1=>?_) (fun _ _ h=>h) fun _ _ e=>e.elim))
  exact d8 (h1.fu S1 fun _ s2 F2 V2 S2 q=>d9 (kk _ _ _ _ S2 q))
 ·obtain⟨le,ks,rfl,hk⟩:=q
  obtain⟨m3,e3⟩:=BW .head S3
  have hkl:ks.length=ps.length:=hk.len.trans hp.length_eq
  refine d8 (listItems_at e3 rfl ?_)
  unfold ksk_end
  dsimp only
  rw[if_neg Bool.false_ne_true,if_neg (by rw[eY];lia),if_neg (by rw[eY];lia)]
  have hka:Af (EJ s3.heap) ks ws:=hk.mono fun _ _ q=>q.at S3
  refine d8 (WX hka (by lia) (d8 (W8 hka hv hnd (by lia) (Hg ‹_› ‹_› rfl) hp hps (P:=fun st s'=>wpAny (Mo c) A (ksk_tail D false e1 _ st) P (fun _ _=>False) s') fun st' out h1 h2 h3=>?_)))
  exact dg S3 (Hg ‹_› ‹_› rfl) (by rw[h1.len];exact ea ‹_› (d7 rfl)) h2 h3 fun s' S'=>h _ out s' le h1 S'
theorem Run.sortedK {av:Value}{f:Addr}(hcol:∀(Q:List Value→FM→Aa→Prop),(∀vs ws,Af Ah vs ws→ws.Nodup→ws.Perm ps→Q vs F V)→Run c A.in1 (collect av) F V Q) (hps:ps.Pairwise fun a b=>AF a b=true) (h2:2≤ps.length) (h64:ps.length<64) (hw:∀w ∈ ps,w.length≤1000)
  (hf:∀v wd F1 V1 (Q:Value→FM→Aa→Prop),Ah v wd→wd.length≤1000→Le F F1→(∀k F2,Le F1 F2→Cv F2 k wd→Q k F2 V1)→Run c A.in1.in1 (PySem.call (.ref f) [v]) F1 V1 Q)
  (h:∀D out F1,Le F F1→Af Ah out ps→Q (.ref D) F1 ((D,Ab out)::V)):Run c A (PySem.call (.builtin "sorted") [av] [(Str.ofString "key",.ref f)]) F V Q:=.ki fun s P S kk=>by
 refine call_function_entry_kw kind_sorted plain_sorted entry_sorted (ksk_s1 _ _) ?_
 dsimp only[Builtin.«sorted»]
 refine d8 (m:=checkCount "sorted" 1 1 _) (d9 ?_)
 refine d8 ((hcol (fun vs F1 V1=>F1=F∧V1=V∧∃ws,Af Ah vs ws∧ws.Nodup∧ws.Perm ps) fun vs ws a1 a2 a3=>⟨rfl,rfl,ws,a1,a2,a3⟩).fu S fun vs s1 F1 V1 S1 q=>?_)
 obtain⟨rfl,rfl,ws,hv,hnd,hp⟩:=q
 have hvl:vs.length=ps.length:=hv.len.trans hp.length_eq
 refine d8 (wpAny_newList ?_ (by rw[eT];exact EQ ‹_› ‹_› rfl))
 have S2:St c F1 ((s1.heap.objs.size,Ab vs)::V1) {s1 with heap:=s1.heap.push {cls:=.type "list",dict:=Option.none,data:=.seq vs.toArray}}:=⟨S1.toStP.push (k:=s1.toks) ⟨_,rfl⟩,S1.tk⟩
 refine d8 (en (wpAny_call_entry_kw slot_list_sort (Ak _ (em _ rfl) rfl) entry_list_sort ?_ (ksk_l1 _ _)))
 simp only[ksk_t1]
 exact ej (bh (A:=A.in1.in1) S2 hv hnd hp hps h2 h64 hw hf (P:=fun fin s'=>∃v,fin= .done (.ret v)∧wpAny (Mo c) A.in1 (ret _) _ _ s') fun F2 out s' le ho S'=>Ak _ rfl (d9 ⟨_,rfl,kk _ _ _ _ S' (h _ out F2 le ho)⟩)) (fun _ _ h=>h) fun _ _ e=>e.elim
end
theorem Run.SB {id:String}{nm:Str}(h:Run c A (eval e env) F V (fun v F1 V1=>Run c A (eval el env) F1 V1 (fun u F2 V2=>Run c A (PySem.call (.builtin id) [v] [(nm,u)]) F2 V2 Q)))
  (he:autoParam (starEach [e] env=[(false,eval e env)]) aR) (hk:autoParam (keywordEach [⟨some nm,el,kp⟩] env=[(some nm,eval el env)]) aR):Run c A (callWith pos (.builtin id) [] (backTo pos (starEach [e] env)) (backToKw pos (keywordEach [⟨some nm,el,kp⟩] env))) F V Q:=.ki fun s P S kk=>by
 refine callWith_kw (Run.fu (Q:=fun vs F1 V1=>∃v,vs=[v]∧Run c A (eval el env) F1 V1 (fun u F2 V2=>Run c A (PySem.call (.builtin id) [v] [(nm,u)]) F2 V2 Q)) (Run.AL (h.mono fun v F1 V1 q=>Run.A0 (Ak v rfl q)) he) S fun vs s1 F1 V1 S1 q=>?_) (by exact congrArg _ (he)) (by rw[he];rfl) (by rw[hk];rfl) (by rw[hk];rfl)
 obtain⟨v,rfl,q⟩:=q
 refine(hk)▸?_
 refine d8 (m:=eval el env>>=_) (d8 (q.fu S1 fun u s2 F2 V2 S2 h2=>d8 (wpAny_standAt (d9 ?_))))
 exact d8 (en (d9 (d9 (h2.fu S2 kk))))
theorem Run.RG {id:Str}{args:List Expr}{kws:List Keyword}(h:Run c A (eval (.Name id p) env) F V (fun f F1 V1=>Run c A (callWith pos f [] (backTo pos (starEach args env)) (backToKw pos (keywordEach kws env))) F1 V1 Q)):
  Run c A (eval (.Call (.Name id p) args kws pos) env) F V Q:=by
 simp only[arm_eval_Call_Name']
 exact .bind h
theorem Run.wk {α:Type}{t:Sem α}{Q:α→FM→Aa→Prop}(h:Run c A t F V (fun a F' V'=>∃W,B5 W V'∧Q a F' W)):Run c A t F V Q:=.ki fun s P S kk=>h.fu S fun a s' F' V' S' q=>q.elim fun W q=>kk a s' F' W (S'.fit q.1) q.2
theorem Run.Sw {D:Addr}{Q:List Value→FM→Aa→Prop}(rm:Rm n A) (hl:σ.length≤4000) (hy:y ∈ σ) (hz:z ∈ σ) (hyz:y≠z) (hD:Ad D (B6 w σ) V) (h:∀vs,EM w σ vs→Q vs F V):Run (cx w os) A (collect (.ref D)) F V Q:=.ki fun s P S kk=>by
 refine Ag (S.own.get hD) fun o ho hT=>?_
 exact Sx rm.2.2 ho hT hl hy hz hyz fun h' d vs keep sv=>kk _ _ F _ ⟨⟨S.own.keep keep,S.base,S.gens,S.os⟩,S.tk⟩ (h vs sv)
theorem Run.Sv {D:Addr}{Q:List Value→FM→Aa→Prop}(hl:vs.length≤1000) (hD:Ad D (Ab vs) V) (h:Q vs F V):Run c A (collect (.ref D)) F V Q:=.ki fun s P S kk=>by
 refine collect_list (CD hD S) (kk _ _ F _ ⟨⟨S.own.keep fun b o e=>?_,S.base,S.gens,S.os⟩,S.tk⟩ h) (by rw[eT];exact eb ‹_› (d7 rfl))
 exact(Heap.get?_update_other _ _ (Ne.symm (eG (eE e)))).trans (eg _ e)
section
variable {Qe:Value→FM→Aa→Prop}
theorem Rx.bg (ok:Ok x n gs) (hx:Str.ofString "sorted" ∈ gs) (h:Rx x F m V e Qe) (hl:∀v F' W,Le F F'→Qe v F' W→Rx x F' m W el (fun f F2 W2=>RC x.fo x.A (PySem.call (.builtin "sorted") [v] [(Str.ofString "key",f)]) F2 W2 Q))
  (hn:autoParam (notStar e=true) aR):Rx x F m V (.Call (.Name (Str.ofString "sorted") p) [e] [⟨some (Str.ofString "key"),el,kp⟩] pos) Q:=.ki fun K Vf Q' ft kk=>
 .RG (Run.lb ok.gv ok.gb hx Vv (Run.SB (h.fu ft fun v F1 V1 W1 le1 f1 q=>(hl v F1 W1 le1 q).fu f1 fun f F2 V2 W2 le2 f2 q2=>Run.fit (Fc f2).fit (q2.fu fun v F3 V3 W3 le3 f3 q3=>kk v F3 V3 W3 (le1.trans (le2.trans le3)) (Fd f3) q3)) (AD hn)))
end
theorem Run.Ic {ns:List Int}(rm:Rm n A) (hl:Ls F l vs) (hi:IntsAre vs ns) (h:∀t,Q (.int ns.sum t) F V):Run c A (PySem.call (.builtin "sum") [.ref l]) F V Q:=.mk fun s S=>by
 obtain⟨k,e⟩:=DU hl S
 have hall:=hi.allInts
 have hli:s.heap.IsList l vs.toArray:=e.isList
 obtain⟨xs,hx⟩:=hall.items
 rw[hx] at hli
 refine sum_intListG rm.2.2 hli fun h' tk t' hk=>⟨F,V,⟨S.own.keeps hk,S.base,S.gens,S.os⟩,?_⟩
 have e2:preSum (numAt xs) xs.size=ns.sum:=by
  rw[preSum_eq,List.take_of_length_le (by simp),←nums_intItems,←hx,←(hi.numsOf)]
 rw[e2]
 exact h _
theorem Ev.Ic {ns:List Int}(ok:Ok x n gs) (hx:Str.ofString "sum" ∈ gs) (h:Ev x F m V e (.val (.ref l))) (hl:Ls F l vs) (hi:IntsAre vs ns) (hn:autoParam (notStar e=true) aR):Ev x F m V (.Call (.Name (Str.ofString "sum") p) [e] [] pos) (.int ns.sum):=
 .rx fun Q hQ=>.bi ok hx MI (.cons h .nil hn) fun vs o=>by
  obtain⟨_,rfl,⟨⟩⟩:=o.one
  exact .pure (.int _) (fun V Q hQ=>Run.Ic ok.rm hl hi fun t=>hQ _ ⟨t,rfl⟩) hQ
theorem Aq.ZA:Aq .Pow (.int 10) (.int 6) (.int 1000000):=by rintro c A F V _ _ Q ⟨t,⟨⟩⟩ ⟨u,⟨⟩⟩ hq;exact(.mk fun s S=>AutoIntOps.pow_4 (by decide) (by decide) (by decide) (by decide) (by decide+kernel) ⟨F,V,⟨S.own,S.base,S.gens,S.os⟩,hq _ ⟨_,rfl⟩⟩)
theorem Run.aW {st:Expr}{lo hi:Option Expr}
  (h:Run c A (eval value env) F V (fun o F1 V1=>Run c A (evalPart lo env) F1 V1 (fun l F2 V2=>Run c A (evalPart hi env) F2 V2 (fun u F3 V3=>Run c A (evalPart (some st) env) F3 V3 (fun z F4 V4=>SlQ (Ki c F4 V4) (fun b ws=>Q (.ref b) F4 ((b,Ab ws)::V4)) o l u z)))))
  (ht:∀o r,letTemporaryGo value o r=(Pure.pure ():Sem Unit):=by intro _ _;rfl):Run c A (eval (.Subscript value (.Slice lo hi (some st) p) pos) env) F V Q:=.mk fun s S=>
 wpAny_Subscript_Slice_step (T:="list") list_getitem_lookup (Run.fu h S fun o s1 _ _ S1 h1=>wpAny_Slice (Run.fu h1 S1 fun l s2 _ _ S2 h2=>Run.fu h2 S2 fun u s3 _ _ S3 h3=>Run.fu h3 S3 fun z s4 F4 V4 S4 q=>q.casesOn fun a vs i j k e hl pl pu pz hz hx q=>e▸⟨((hl _ S4).push _).typeIs,wpAny_getItem_list_slice ((hl _ S4).push _) (Heap.IsSliceOf.new ..) pl pu pz hz ⟨F4,_,sl2 S4 _ _ _ _ rfl,q _⟩ (by rw[eY,eT];exact eb ‹_› (d7 rfl))⟩)) ht
theorem Rx.OY (h1:Ev x F m V (.Name id_ q) (.val (.ref l))) (hl:Ls F l vs) (hv:vs.length≤100000) (h2:Rx x F m V e2 Qa) (k:∀v F' W,Le F F'→Qa v F' W→∃j t,v= .int j t∧∀F'' b,Le F' F''→Ls F'' b (slicePick vs.toArray Option.none (some j) Option.none).toList→Q (.ref b) F'' W):Rx x F m V (.Subscript (.Name id_ q) (.Slice Option.none (some e2) Option.none p) pos) Q:=.ki fun K Vf Q' ft kk=>.up (Run.OX (h1.kV ft fun V1 f1=>Run.H0 (Run.G4 (h2.fu f1 fun v2 F2 V2 W le f2 qa=>BH (k v2 F2 W le qa) fun j t e hq=>⟨l,vs,_,some j,_,rfl,fun _ S=>(DU (hl.le le) S).elim fun _ e=>e.isList,.none,e▸.int _ _,.none,nofun,hv,fun b=>up.AY fun F4 o le4 h4 h5=>up.one (kk _ F4 V2 W (Le.trans le le4) f2 (hq F4 b le4 ⟨o,h4,h5⟩))⟩))))
theorem Rx.a7 {i k:Int}(h1:Ev x F m V (.Name id_ q) (.val (.ref l))) (hl:Ls F l vs) (hv:vs.length≤100000) (h2:Ev x F m V e1 (.int i)) (h3:Ev x F m V e2 (.int k)) (hk:k≠0) (kk:∀F' b,Le F F'→Ls F' b (slicePick vs.toArray (some i) Option.none (some k)).toList→Q (.ref b) F' V):Rx x F m V (.Subscript (.Name id_ q) (.Slice (some e1) Option.none (some e2) p) pos) Q:=.ki fun K Vf Q' ft kk'=>.up (Run.aW (h1.kV ft fun V1 f1=>Run.G4 (h2.kI f1 fun V2 t f2=>Run.H0 (Run.G4 (h3.kI f2 fun V3 t3 f3=>⟨l,vs,some i,_,some k,rfl,fun _ S=>(DU hl S).elim fun _ e=>e.isList,.int _ _,.none,.int _ _,fun e=>hk (ed e),hv,fun b=>up.AY fun F4 o le h4 h5=>up.one (kk' _ F4 V3 V le f3 (kk F4 b le ⟨o,h4,h5⟩))⟩)))))
inductive AsX (x:Cc) (a:Addr) (rest:List Stmt) (Q:Flow→FM→Sm→Aa→Prop) (m:Sm) (v:Value) (F:FM) (W:Aa):Prop
 |mk {s s0 W1:_}:s.ok (some v)→Aj a (Ar s0) (Ar s) W W1→R x rest F m W1 Q→AsX x a rest Q m v F W
section
variable {Q:Flow→FM→Sm→Aa→Prop}
theorem R.IC (ok:Ok x n gs) (cl:Cl x.env id_ a) (h:Rx x F m V e (AsX x a rest Q m)) (hs:autoParam (swapsWith e (some (.Name id_ p')) p.line x.env=(Pure.pure false:Sem Bool)) aU):R x (.Assign [.Name id_ p'] e p::rest) F m V Q:=.ki fun K Vf Q' ft kk=>
 Run.cons (Run.asg (h.fu ft fun v F1 V1 W le f1 q=>q.casesOn fun hv hp r=>Run.fit f1.fit (Run.J5 ok.gv cl (Aj.tail hp.app) hv (r.go le Sb.refl kk))) hs)
theorem cY {l:Nat}(cl:Cl env id_ a):swapsWith (.ListComp elt gens scope pos) (some (.Name id_ p')) l env=(Pure.pure false:Sem Bool):=by
 have hk:(env.kindOf id_==some NameKind.local)=false:=by
  refine(?_:(env.scope.names.lookup id_==some NameKind.local)=false)
  rw[cl.kind];rfl
 unfold swapsWith
 dsimp only
 rw[hk,Bool.and_false,Bool.false_and,Bool.false_and]
end
theorem Rx.JB {i:Int}(h1:Rx x F m V e1 fun v F' W=>Ev x F' m W e2 (.int i)∧ItK QV k v F' W) (hi:i=k) (hk:k<1000) (hp:autoParam (C9 e2=true) aR):Rx x F m V (.Subscript e1 e2 p) QV:=.ki fun K Vf Q' ft kk=>
 .ED (h1.fu ft fun v1 F1 V1 W le f1 q=>q.2.casesOn fun e ht hv hq=>q.1.kI f1 fun V2 t2 f2=>hi▸e▸Run.Bq ht (by lia) hv (kk _ F1 V2 W le f2 hq) (EE hp))
theorem Rx.Rv (ok:Ok x n gs) (hx:id_ ∈ gs) (hv:Bl x.fo id_ (.builtin fid)) (h:Rx x F m V e fun v F' W=>RC x.fo x.A (PySem.call (.builtin fid) [v]) F' W Q) (hn:autoParam (notStar e=true) aR):Rx x F m V (.Call (.Name id_ p) [e] [] pos) Q:=.ki fun K Vf Q' ft kk=>
 .CA (Run.lb ok.gv ok.gb hx hv (Run.Dp (Run.AL (h.fu ft fun v F1 V1 W le f1 q=>Run.A0 (q.go le f1 kk)) (AD hn)) (AD hn) rfl))
section
open PySem PySem.W PySem.Calls PyProof.Rows PySem.SeqAt PySem.MeetsSeq
theorem Ko (h1:Af Ah vs ws) (h2:Af Ah us ws) :∀j (a:j<vs.toArray.size) (b:j<us.toArray.size),EqAt A s vs.toArray[j] us.toArray[j] true:=by
 induction h1 generalizing us with
 |nil=>intro j a;simp at a
 |@cons v wd vs ws hv _ ih=>
  cases h2 with
  |@cons u _ us _ hu hus=>
   intro j a b
   induction j with
   |zero=>
    obtain⟨t,rfl⟩:=hv
    obtain⟨t',rfl⟩:=hu
    have:=EqAt.str_str (A:=A) (s:=s) (tx wd) t (tx wd) t'
    rwa [eX] at this
   |succ j=>exact ih hus j (Nat.le_of_succ_le_succ (a)) (Nat.le_of_succ_le_succ (b))
section
variable {b:Addr}
def Ci (F:FM) (V:Aa) (l:Addr) (vs:List Value):Prop:=Ls F l vs∨Ad l (Ab vs) V
theorem Ci.at (h:Ci F V l vs) (S:St c F V s):∃k,IsL s.heap l vs.toArray k:=h.elim (fun h=>DU h S) fun h=>BW h S
theorem all_true (k:Nat):(List.range k).all (fun _=>true)=true:=by simp
theorem Run.IU (rm:Rm n A) (hl:Ci F V l vs) (hb:Ci F V b us) (h1:Af Ah vs ws) (h2:Af Ah us ws) (h:Q (.bool true) F V):Run c A (compareOp .Eq (.ref l) (.ref b)) F V Q:=.ki fun s P S kk=>by
 obtain⟨k1,e1⟩:=hl.at S
 obtain⟨k2,e2⟩:=hb.at S
 refine RcAt.lists (e:=fun _=>true) e1.isList e2.isList (by simp[h1.len,h2.len]) (by have:=rm.2.1;refine(?_:A.units<9900);exact CX ‹_› rfl) (Ko h1 h2) _ _ _ _ ?_
 rw[all_true]
 exact kk _ _ _ _ S h
theorem Run.JM (rm:Rm n A) (hl:Ci F V l vs) (hb:Ci F V b us) (h1:Af Ah vs ws) (h2:Af Ah us ws) (h:Q (.bool false) F V):Run c A (compareOp .NotEq (.ref l) (.ref b)) F V Q:=.ki fun s P S kk=>by
 obtain⟨k1,e1⟩:=hl.at S
 obtain⟨k2,e2⟩:=hb.at S
 refine RcNeAt.lists (e:=fun _=>true) e1.isList e2.isList (by simp[h1.len,h2.len]) (by have:=rm.2.1;refine(?_:A.units<9900);exact CX ‹_› rfl) (Ko h1 h2) _ _ _ _ ?_
 rw[all_true]
 exact kk _ _ _ _ S h
theorem Run.Im (hl:Ci F V l vs) (hb:Ci F V b us) (hz:vs.length+us.length≤1000) (h:∀D,Q (.ref D) F ((D,Ab (vs++us))::V)):Run c A (binaryOp .Add (.ref l) (.ref b)) F V Q:=.ki fun s P S kk=>by
 obtain⟨k1,e1⟩:=hl.at S
 obtain⟨k2,e2⟩:=hb.at S
 have e:vs.toArray++us.toArray=(vs++us).toArray:=by simp
 refine concat_meets ⟨_,e1,rfl⟩ ⟨_,e2,rfl⟩ noFill_list_add seq_list_add PySem.F.slot_list_add PySem.F.entry_list_add (PySem.F.args_list_add_2 _ _) (list_addW l b vs.toArray us.toArray k1 k2 _ _ _ _ (by simp;simp only[eT];exact eb ‹_› (d7 rfl))) ⟨e1,e2,?_⟩
 rw[e]
 exact kk _ _ F _ ⟨S.toStP.push (k:=s.toks) ⟨_,rfl⟩,S.tk⟩ (h _)
end
inductive LsK (ws:List (List Nat)) (P:FM→Aa→Prop) (v:Value) (F:FM) (W:Aa):Prop
 |mk {D us:_}:v= .ref D→Ci F W D us→Af Ah us ws→P F W→LsK ws P v F W
inductive AdK (a:Addr) (vs:List Value) (Q:Value→FM→Aa→Prop) (v:Value) (F:FM) (W:Aa):Prop
 |mk {b us:_}:v= .ref b→Ci F W a vs→Ci F W b us→vs.length+us.length≤1000→(∀D,Q (.ref D) F ((D,Ab (vs++us))::W))→AdK a vs Q v F W
inductive BcB (op:Operator) (s1:Sp) (Q:Value→FM→Aa→Prop) (v:Value) (F:FM) (W:Aa):Prop
 |mk {s2 s3:_}:s2.ok (some v)→Aq op s1 s2 s3→(s3.fm fun u=>Q u F W)→BcB op s1 Q v F W
inductive BcA (x:Cc) (m:Sm) (e2:Expr) (op:Operator) (Q:Value→FM→Aa→Prop) (v:Value) (F:FM) (W:Aa):Prop
 |mk {s1:_}:s1.ok (some v)→Rx x F m W e2 (BcB op s1 Q)→BcA x m e2 op Q v F W
theorem Sp.PE {s:Sp}{P P':Value→Prop}(k:∀v,P v→P' v) (h:s.fm P):s.fm P':=by
 induction s with
 |any=>exact fun v=>k v (h v)
 |int i=>exact fun t=>k _ (h t)
 |str y=>exact fun t=>k _ (h t)
 |val w=>exact k _ h
 |sat Q=>exact fun v q=>k v (h v q)
theorem PH {P P':List Value→Prop}(k:∀vs,P vs→P' vs) (h:CL ss P):CL ss P':=by
 induction ss generalizing P P' with
 |nil=>exact k _ h
 |cons s ss ih=>exact Sp.PE (fun v h=>ih (fun vs=>k _) h) h
theorem Ci.up {K:Aa}(h:Ci F V l vs):Ci F (full x m (V++K)) l vs:=h.imp id fun h=>.tail h.app
theorem Rx.Mb (ok:Ok x n gs) (hx:id_ ∈ gs) (hv:Gl x.fo id_ (.ref a)) (fn:Fun x.fo a fd) (h:Rx x F m V e (fun v F' W=>RV x.fo x.A (.call (.ref a) ⟨[v],[]⟩) F' W Q)) (hn:autoParam (notStar e=true) aR):Rx x F m V (.Call (.Name id_ p) [e] [] pos) Q:=.ki fun K Vf Q' ft kk=>
 .CA (Run.lg ok.gv ok.gb hx hv (Run.Gx fn (Run.AL (h.fu ft fun v F1 V1 W1 le1 f1 q=>Run.A0 (AA.fit (Fc f1).fit (AA.mono (q _) fun f F' V' ⟨v,e,le,W,ft,q⟩=>⟨v,e,kk v F' V' W (le1.trans le) (Fd ft) q⟩))) (AD hn)) (AD hn)))
theorem Tx.JM (ok:Ok x n gs) (h1:Ev x F m V e1 (.val (.ref a))) (ha:Ls F a vs) (hv:Af Ah vs ws) (h2:Rx x F m V e2 (LsK ws fun F' W=>QB false F' W)) (hm:autoParam (behindInMarks .NotEq e2=false) aU):Tx x F m V (.Compare e1 [.NotEq] [e2] p) QB:=.ki fun K Vf Q' ft kk=>
 .DF (h1.kV ft fun V1 f1=>h2.fu f1 fun v2 F2 V2 W2 le f2 q=>q.casesOn fun e hl hu q=>e▸Run.fit f2.fit (Run.JM ok.rm (.inl (ha.le le)) hl.up hv hu (Ak false rfl (kk _ _ _ W2 le Sb.refl q)))) hm
theorem Rx.IU (ok:Ok x n gs) (h1:Rx x F m V e1 (LsK ws fun F' W=>Ev x F' m W e2 (.val (.ref a))∧Q (.bool true) F' W)) (ha:Ls F a vs) (hv:Af Ah vs ws) (hm:autoParam (behindInMarks .Eq e2=false) aU):Rx x F m V (.Compare e1 [.Eq] [e2] p) Q:=.ki fun K Vf Q' ft kk=>
 .cmp (h1.fu ft fun v F1 V1 W1 le f1 q=>q.casesOn fun e hl hu q=>q.1.kV f1 fun V2 f2=>e▸Run.fit f2.fit (Run.IU ok.rm hl.up (.inl (ha.le le)) hu hv (kk _ _ _ W1 le Sb.refl q.2))) hm
theorem Rx.Im {pl:Pos}(he:AZ x F m V es ss) (h2:CL ss fun vs=>∀a,Rx x F m ((a,Ab vs)::V) e2 (AdK a vs Q)) (hl:ss.length≤1000:=by exact d7 rfl):Rx x F m V (.BinOp (.List es pl) .Add e2 p) Q:=.ki fun K Vf Q' ft kk=>
 Run.bin ((Rx.DZ (QV:=fun v F' W=>∃a vs,v= .ref a∧F'=F∧W=(a,Ab vs)::V∧Rx x F m ((a,Ab vs)::V) e2 (AdK a vs Q)) he (PH (fun vs h a=>Dt a vs rfl rfl rfl (h a)) h2) hl).fu ft fun v F1 V1 W1 le f1 q=>EX q fun a vs e1 e2 e3 h2=>by
  subst e1 e2 e3
  exact h2.fu f1 fun v2 F2 V2 W2 le2 f2 q2=>q2.casesOn fun e ha hb hz q2=>e▸Run.fit f2.fit (Run.Im ha.up hb.up hz fun D=>kk _ _ _ ((D,Ab _)::W2) (le.trans le2) (Sb.perm (.swap ..)) (q2 D)))
theorem Rx.IE {op:Operator}(h:Rx x F m V e1 (BcA x m e2 op Q)):Rx x F m V (.BinOp e1 op e2 p) Q:=.ki fun K Vf Q' ft kk=>
 Run.bin (h.fu ft fun v F1 V1 W le f1 q=>q.casesOn fun o1 h2=>h2.fu f1 fun v2 F2 V2 W2 le2 f2 q=>q.casesOn fun o2 hb q=>hb _ _ _ _ v v2 _ o1 o2 fun u hu=>kk u F2 V2 W2 (le.trans le2) f2 (Sp.BJ (P:=fun u=>Q u F2 W2) hu q))
end
noncomputable def E4 (P:Params):FuncData:=Bb (Hy ff)
noncomputable abbrev DS:List Str:=["sum","range","sorted","len","_law_lacking","_law_grown"]
noncomputable def DD:Nat→Nat→Str:=fun _ _=>Str.ofString "law.<locals>."++Str.ofString "<lambda>"
noncomputable abbrev CQ (c1 c2 c3 c4 c5:Addr) (s1 s2 s3 s4 s5:Sp) (F1 F2:FM) (V:Aa):Aa:=(289,tb F2 AV)::(c1,Ar s1)::(c2,Ar s2)::(c3,Ar s3)::(c4,Ar s4)::(c5,Ar s5)::(395,tb F1 DD)::V
def DI (W:Aa):Prop:=∃Fx Fy,Sb [(289,tb Fx AV),(395,tb Fy DD)] W
noncomputable abbrev E8 (s1 s2 s3 s4 s5:Sp):Sm:=[("script",s1),("letters",s2),("parts",s3),("asked",s4),("barred",s5)]
structure WordF (al:List Nat) (tot:Int) (k:Nat) (wd:List Nat) (its:List (Bool×List (Nat×Nat))):Prop where
 ok:∀p ∈ BU al (tot+k) wd,Eu p
 len:wd.length<20
 pos:0<wd.length
 rd:B3 20 [] (((BU al (tot+k) wd).map Ao).flatten++[41,92,90])=some its
 fl:(BU al (tot+k) wd).flatten.length<900
 fl2:((BU al (tot+k) wd).map Ao).flatten.length≤900
noncomputable def ES (ps:List (List Nat)) (al:List Nat):List (List Nat):=[]::ps.flatMap fun p=>al.map fun c=>p++[c]
noncomputable def subAt (T:List Nat) (i:Nat):List (List Nat):=(List.range (T.length+1 - i)).map fun d=>(T.drop i).take d
noncomputable def CS (T:List Nat):List (List Nat):=(List.range T.length).flatMap (subAt T)
structure LawF (al T:List Nat) (tot:Int) (lack ps aps:List (List Nat)) (bars:List (List (Bool×List (Nat×Nat)))) (K K2:Nat):Prop where
 al4:al.length≤4
 alA:al.all (·<128)=true
 T1:0<T.length
 T2:T.length<20
 TA:T.all (·<128)=true
 L:Er T al K [(0,tx [])] [] []=some (aps,lack)
 ap:(ES ps al).Perm aps
 an:(ES ps al).Nodup
 aS:aps.Pairwise fun a b=>AF a b=true
 a2:2≤aps.length
 a3:aps.length<64
 aw:∀w ∈ aps,w.length≤1000
 pS:ps.Pairwise fun a b=>AF a b=true
 pm:∀y,y ∈ ps↔y ∈ CS T
 p2:2≤ps.length
 p3:ps.length<64
 pw:∀w ∈ ps,w.length≤100
 ll:lack.length<100
 bl:bars.length=lack.length
 W:∀k wd its,lack[k]? =some wd→bars[k]? =some its→WordF al tot k wd its
 g:E5 (bars.map fun its=>its.map Bq) al K2 [(0,tx [])] []=some ps
def Ft (F:FM) (v:Value) (its:List (Bool×List (Nat×Nat))):Prop:=Cw Rw F v [(Str.ofString "",[]),(Str.ofString "tail",its.map Bq)]∧its.length≤20∧∀p ∈ its,p.2.length≤20
theorem Ft.le {its:List (Bool×List (Nat×Nat))}(h:Ft F v its) (l:Le F F'):Ft F' v its:=⟨h.1.le l fun _ _ q=>q.le l,h.2⟩
theorem WT:D (tx (DV ls)) 0 ([40,63,115,58,46,42]++(ls.flatten++[41,92,90])):=⟨by rw[←fa];rfl,eB _⟩
theorem WU:Txt.slice (tx (DV ls)) (some (-3)) none=Str.ofString ")\\Z":=by
 have e:Str.ofString ")\\Z"=tx [41,92,90]:=by decide+kernel
 have hl:(tx (DV ls)).length=6+ls.flatten.length+3:=by rw[Av];simp[DV];lia
 rw[e,EB,hl]
 have c1:clip (some (-3)) 0 (6+ls.flatten.length+3)=6+ls.flatten.length:=by simp only[clip];rw[if_pos (by exact er _)];exact PX
 rw[c1]
 congr 1
 have:cl (tx (DV ls))=([40,63,115,58,46,42]++ls.flatten)++[41,92,90]:=rfl
 rw[this,List.drop_append_of_le_length (by simp;lia),List.drop_of_length_le (by simp;lia)]
 refine(?_:List.take (clip none _ _ - _) _=_)
 rw[List.nil_append,List.take_of_length_le (by simp only[clip];simp)]
theorem Ro {its:List (Bool×List (Nat×Nat))}(ok:Ok x (n+5) ["_law_rows","translate","_law_glob"]) (l3:Cl x.env "alphabet" c3) (l5:Cl x.env "lacking" c5) (l2:Cl x.env "total" c2)
  (hal:al.length<10) (haa:al.all (·<128)=true) (hW:WordF al tot k wd its) (hlk:Ls F lk lvs) (hll:lvs.length<1000) {v:Value}(hv:lvs[k]? =some v) (hvw:Ah v wd) (hF:Le F2 F) (hq:∀F' u F2',Le F F'→Le F2' F'→Ft F' u its→Q u F' (CQ c1 c2 c3 c4 c5 s1 (.int tot) (.str (tx al)) s4 (.val (.ref lk)) F1 F2' V)):
  Rx x F [("k",.int (k:Int))] (CQ c1 c2 c3 c4 c5 s1 (.int tot) (.str (tx al)) s4 (.val (.ref lk)) F1 F2 V)
   (.Call (.Name "_law_rows" p1) [.Call (.Name "translate" p2) [.BinOp (.Constant (.str "*") 0 p3) .Add (.Call (.Name "_law_glob" p4) [.Subscript (.Name "lacking" p5) (.Name "k" p6) p7,.Name "alphabet" p8,.BinOp (.Name "total" p9) .Add (.Name "k" p10) p11] [] p12) p13] [] p14] [] p15) Q:=by
 have hwl:=hW.len
 have hfl:=hW.fl
 have hfl2:=hW.fl2
 have hwp:=hW.pos
 have hgl:=GK al wd (tot+k)
 refine Rx.Mb ok AK Vb (Mn _ _) (Rx.Mb ok Bx Vx (Mw _ _) (Rx.IE (Rx.Bm (s:=.str (tx [42])) (Ev.Bc (by decide+kernel)) fun t0=>.mk (s1:=.str (tx [42])) ⟨t0,rfl⟩
  (Rx.BI ok Ce U7 (Mh _ _) (.cons (s:=.str (tx wd)) (Ev.GP (k:=k) (Ev.ce (s:=.val (.ref lk)) ok l5 Ax) (.nm ok has0) hlk hv rfl (ec (ea ‹_› (d7 rfl))) (hvw.imp fun _ e=>congrArg some e)) (.cons (s:=.str (tx al)) (Ev.ce (s:=.str (tx al)) ok l3 Ay) (.cons (s:=.int (tot+k)) (Ev.bin (Ev.ce (s:=.int tot) ok l2 Al) (.nm ok has0) Aq.Aw) .nil))) fun t1 t2 t3=>?_))))
 refine Vs (n:=n+4) ok.rm (ea ‹_› (d7 rfl)) hal haa fun F3 g le3 hg=>.mk (s2:=.str (tx (BU al (tot+k) wd).flatten)) (s3:=.str (tx ([42]++(BU al (tot+k) wd).flatten))) (hg.imp fun _ e=>congrArg some e) (Aq.B7 (by decide) (ec (ea ‹_› (d7 rfl)))) fun tu=>?_
 refine dC (n:=n+1) ok.rm hW.ok (by lia) (by lia) (ea ‹_› (d7 rfl)) (eb ‹_› (d7 rfl)) (hF.trans le3) fun F4 v F5 le4 le5 hv4=>hv4.elim fun tv e=>e▸?_
 exact Z2 (n:=n+2) ok.rm WT WU (by simp) hW.rd (by rw[Av];simp only[DV,eO,List.length_cons,List.length_nil];lia) fun F6 a le6 h1 h2 h3=>hq F6 _ F5 (le3.trans (le4.trans le6)) (le5.trans le6) (BO h1 h2 h3)
abbrev FW (Q:Value→FM→Aa→Prop) (f:Flow) (F:FM) (_:Sm) (W:Aa):Prop:=En Q (BK f) F W
noncomputable abbrev HO (c1 c2 c3 c4 c5:Addr) (t1 t4:Sp) (al:List Nat) (tot:Int) (lk:Addr) (F1 F2:FM) (V:Aa):Aa:=CQ c1 c2 c3 c4 c5 t1 (.int tot) (.str (tx al)) t4 (.val (.ref lk)) F1 F2 V
inductive BaJ (c1 c2 c3 c4 c5:Addr) (t1 t4:Sp) (al:List Nat) (tot:Int) (lk:Addr) (F1:FM) (V:Aa) (bars:List (List (Bool×List (Nat×Nat)))) (i:Nat) (us:List Value) (F:FM):Sm→Aa→Prop
 |mk {sk F2:_}:Le F2 F→Af (Ft F) us (bars.take i)→BaJ c1 c2 c3 c4 c5 t1 t4 al tot lk F1 V bars i us F [("k",sk)] (HO c1 c2 c3 c4 c5 t1 t4 al tot lk F1 F2 V)
theorem Rq (le3:Le F F3) {bars:List (List (Bool×List (Nat×Nat)))}(h:Af (Ft F) us bars):Af (fun v items=>Cw Rw F3 v [(Str.ofString "",[]),(Str.ofString "tail",items)]∧items.length<1000∧∀p ∈ items,p.2.length<1000) us (bars.map fun its=>its.map Bq):=by
 induction h with
 |nil=>exact .nil
 |cons a _ ih=>
  refine .cons (BO ((a.le le3).1) (by rw[eM];exact ef a.2.1 (by decide)) (fun p hp=>?_)) ih
  obtain⟨q,hq,rfl⟩:=List.mem_map.mp hp
  exact ef (show(q.2.map FX).length≤20 from eM (as:=q.2) FX▸a.2.2 q hq) (by decide)
theorem Rn {us:List Value}{bars:List (List (Bool×List (Nat×Nat)))}(hlv:Af Ah lvs lack) (hbl:bars.length=lack.length) (hi:i<lack.length):∃wd its u,lack[i]? =some wd∧bars[i]? =some its∧lvs[i]? =some u∧Ah u wd:=by
 obtain⟨wd,hwd⟩:∃wd,lack[i]? =some wd:=⟨_,eN hi⟩
 obtain⟨its,hits⟩:∃its,bars[i]? =some its:=⟨_,eN (hbl▸hi)⟩
 refine Ag (hlv.get hwd) fun u hu huw=>?_
 exact CC wd its u hwd hits hu huw
theorem XC {T:List Nat}{bars:List (List (Bool×List (Nat×Nat)))}{P:Addr}{K:Nat}(f:LawF al T tot lack ps aps bars K K2) (ok:Ok x (n+7) DS) (l2:Cl x.env "total" c2) (l3:Cl x.env "alphabet" c3) (l5:Cl x.env "lacking" c5)
  (hlk:Ls F lk lvs) (hlv:Af Ah lvs lack) (hP:Ls F P pvs) (hPv:Af Ah pvs ps) (hF:Le F2 F) (hQ:∀F' W,DI W→Q (.bool true) F' W):
  R x ((bodyOf (E4 x.w.params)).drop 8) F (E8 s1 s2 (.val (.ref P)) s4 s5) (HO c1 c2 c3 c4 c5 t1 t4 al tot lk F1 F2 V) (FW Q):=by
 refine(?_:R _ (_::_) _ _ _ _)
 have hll:=f.ll
 have hbl:=f.bl
 have hal:=f.al4
 have hvl:lvs.length=lack.length:=hlv.len
 refine R.KO ["k"] ["alphabet","lacking","total"] ["_law_rows","translate","_law_glob"] [c3,c5,c2] ok (C4 l3 l5 l2 trivial) (by kernel_rfl) lack.length (fun i v=>(Sp.int (0+i*1)).ok (some v)) (BaJ c1 c2 c3 c4 c5 t1 t4 al tot lk F1 V bars)
  (Rx.Ey (i:=lack.length) ok Bx (hvl▸Ev.DW ok D0 (Ev.ce (s:=.val (.ref lk)) ok l5 Ax) hlk (EQ ‹_› ‹_› rfl)) fun F' r le hr=>⟨.rg hr (F9 (ea ‹_› (d7 rfl))) (Ga _),.mk (hF.trans le) .nil⟩) ?_ ?_ (.inl ⟨_,_,rfl⟩) (List.mem_of_elem_eq_true (by kernel_rfl))
 ·rintro y oky ⟨y3,y5,y2, -⟩ - - - i us F' m W v hi hJ
  induction hJ with|mk le2 hus=>
  rename_i sk F2'
  intro hv le
  refine Cm (Rn (us:=us) hlv hbl hi) fun wd its u hwd hits hu huw=>?_
  refine .mk (.nm (Au.loc (s:=.int (i:Int)) oky (by rw[Int.mul_one,Int.zero_add] at hv;exact hv) CG)) ⟨fun _=>Ro (n:=n+2) oky y3 y5 y2 (ef ‹_› (d7 rfl)) f.alA (f.W i wd its hwd hits) (hlk.le le) (by lia) hu huw le2 fun F3 v F3' le3 le4 hb=>⟨?_,.mk le4 ?_⟩,fun h=>nomatch h⟩
  ·rw[hus.len];exact eb (List.length_take_le i bars) (by lia)
  ·simp only[take_snoc hits]
   exact(hus.mono fun _ _ q=>q.le le3).snoc hb
 ·intro us F' mc W D hJ
  induction hJ with|mk le2 hus=>
  rename_i sk F2'
  intro le
  rw[←hbl,List.take_length] at hus
  refine .mk BF (R.Ds fun F3 le3 hb=>R.DE (Rx.IU ok (Rx.BI ok Ys U8 (Mi _ _) (.cons (s:=.val (.ref D)) (.nm ok Az) (.cons (s:=.str (tx al)) (Ev.ce (s:=.str (tx al)) ok l3 Ay) .nil)) fun t=>?_) (hP.le (le.trans le3)) hPv))
  exact VZ (n:=n+2) ok.rm f.alA (ef ‹_› (d7 rfl)) (by rw[eM];exact Hg ‹_› ‹_› rfl) hb (Rq le3 hus) f.g fun F4 a vs le4 hl hv=>.mk rfl (.inl hl) hv ⟨.nm ok Al,En.one (hQ F4 _ ⟨F2',F1,Sb.trans ⟨_,.refl _⟩ (Part.sb (V:=HO c1 c2 c3 c4 c5 t1 t4 al tot lk F1 F2' V) (W:=(289,tb F2' AV)::(395,tb F1 DD)::(c1,Ar t1)::(c2,Ar (.int tot))::(c3,Ar (.str (tx al)))::(c4,Ar t4)::(c5,Ar (.val (.ref lk)))::V) (.cons .head (.cons (.tail (.tail (.tail (.tail (.tail .head))))) .refl)))⟩)⟩
noncomputable def Np (p:Pos):Arguments:={posonlyargs:=[],args:=[{arg:="word",annotation:=none,pos:=p}],vararg:=none,kwonlyargs:=[],kw_defaults:=[],kwarg:=none,defaults:=[]}
noncomputable def JD (p1 p2 p3 p4 p5:Pos):Expr:=.Tuple [.Call (.Name "len" p1) [.Name "word" p2] [] p3,.Name "word" p4] 0 p5
noncomputable def Nq:Scope:={kind:=.function,names:=[("word",.local),("len",.globalImplicit)],isGenerator:=false,isCoroutine:=false,more:=[]}
def EH (c:Cx) (W:Aa) (a:Addr) (ps:List (List Nat)):Prop:=∀A n F K (Q:List Value→FM→Aa→Prop),Rm n A→(∀vs ws,Af Ah vs ws→ws.Nodup→ws.Perm ps→Q vs F (W++K))→Run c A (collect (.ref a)) F (W++K) Q
theorem Su:Eb (cx w os:_).F0 397 395:=
 ⟨Hy fc,by kernel_rfl,fun _ g=>⟨⟨_,_,_,_,_,_,_,_,_,g,rfl,rfl,rfl,rfl,rfl,rfl,rfl,rfl,by decide⟩,fun _ p t=>⟨⟨_,_,_,_,_,_,_,_,_,_,g,rfl,rfl,rfl,rfl,rfl,rfl,p,rfl,t,by decide⟩,⟨_,_,g,rfl,rfl,rfl⟩,p⟩⟩⟩
theorem WZ {q:Str}(rm:Rm (n+1) A) (lm:DH F la (kla_fn "<lambda>" q (Np p) (JD p1 p2 p3 p4 p5) Nq [] pm cv ctv)) (hl:wd.length≤1000) (h:∀F' k,Le F F'→Cv F' k wd→Q k F' V):
  RV (cx w os) A (.call (.ref la) ⟨[.str (tx wd) t],[]⟩) F V Q:=by
 refine RV.lam ["word"] ["len"] [("word",.str (tx wd))] rm lm (body:=JD p1 p2 p3 p4 p5) rfl rfl rfl rfl rfl rfl (binds:=[("word",.str (tx wd) t)]) rfl (by kernel_rfl) (by kernel_rfl) (by rfl) ⟨⟨_,rfl⟩,trivial⟩ ?_
 rintro x ok - -
 exact Rx.BR (.cons (s:=.int ((tx wd).length:Nat)) (Ev.Bv ok AK (.nm ok has0) (by rw[Av];exact eb ‹_› (d7 rfl))) (.cons (s:=.str (tx wd)) (.nm ok has0) .nil)) fun t1 t2 F' a le tu=>h F' _ le (CP a t1 t2 rfl (Av wd▸tu))
theorem EH.fx {D:Addr}(hD:Ad D (Ab us) V) (hl:us.length≤1000) (hu:Af Ah us ws) (hn:ws.Nodup) (hp:ws.Perm ps):EH c V D ps:=fun _ _ _ _ _ _ h=>Run.Sv hl hD.app (h us ws hu hn hp)
theorem cK (h:Af Ii vs ys):Af Ah vs (ys.map cl):=by
 induction h with
 |nil=>exact .nil
 |cons a _ ih=>exact .cons (a.imp fun t e=>by rw[EF];exact e) ih
theorem Sl {a b:Str}(h:cl a=cl b):a=b:=by rw[←EF a,h,EF]
theorem EH.fy {D:Addr}{σ:List (List Nat)}(hD:Ad D (B6 w (σ.map tx)) V) (hl:σ.length≤4000) {y z:List Nat}(hy:y ∈ σ) (hz:z ∈ σ) (hyz:y≠z) (hn:ps.Nodup) (hm:∀y,y ∈ ps↔y ∈ σ):EH (cx w os) V D ps:=fun _ _ _ _ _ rm h=>
 Run.Sw rm (by rw[eM];exact hl) (ew (f:=tx) hy) (ew (f:=tx) hz) (fun e=>hyz (tx_inj e)) hD.app fun vs qz=>AX qz fun ys h1 h2 h3=>by
  have hnd:(ys.map cl).Nodup:=List.Pairwise.map cl (fun a b q e=>q (Sl e)) h2
  refine h vs (ys.map cl) (cK h1) hnd ((List.perm_ext_iff_of_nodup hnd hn).mpr fun a=>?_)
  rw[hm a]
  constructor
  ·intro q
   obtain⟨s,hs,rfl⟩:=List.mem_map.mp q
   refine Ag (List.mem_map.mp ((h3 s).mp hs)) fun b hb e=>?_
   refine(e)▸?_;exact hb
  ·intro q
   exact List.mem_map.mpr ⟨tx a,(h3 _).mpr (ew q),rfl⟩
inductive SlK (x:Cc) (ps:List (List Nat)) (Q:Value→FM→Aa→Prop) (v:Value) (F:FM) (W:Aa):Prop
 |mk {a Vr Fx:_}:v= .ref a→Dm 395 (tb Fx DD) W Vr→Le Fx F→EH x.fo Vr a ps→(∀F2 D out Fy,Le F F2→Le Fy F2→Af Ah out ps→Q (.ref D) F2 ((D,Ab out)::(395,tb Fy DD)::Vr))→SlK x ps Q v F W
section
variable {q4 q5:Pos}
theorem Rx.O7 (ok:Ok x (n+3) gs) (hx:Str.ofString "sorted" ∈ gs) (hc:x.env.code= .ref 397) (hq:x.env.qual=Str.ofString "law.<locals>.") (hps:ps.Pairwise fun a b=>AF a b=true) (h2:2≤ps.length) (h64:ps.length<64) (hw:∀w ∈ ps,w.length≤1000)
  (h:Rx x F m V e (SlK x ps Q)) (hn:autoParam (notStar e=true) aR):
  Rx x F m V (.Call (.Name (Str.ofString "sorted") p) [e] [⟨some (Str.ofString "key"),.Lambda (Np q) (JD q1 q2 q3 q4 q5) Nq lp,kp⟩] pos) Q:=Rx.bg ok hx h (fun v F1 W1 le1 q=>by
 cases q with|mk e1 hV hFx hcol hQ=>
 rename_i a Vr Fx
 subst e1
 refine Rx.base fun hbase=>Rx.lam ok hc hq Su (JJ 395 (by decide)) (qs:=DD) rfl hFx hV fun F2 f pm cv ctv le2 lm=>fun K=>?_
 refine Run.sortedK (ps:=ps) (fun Q hQ=>Run.wk (Run.fit (W:=Vr++((395,tb F2 DD)::K)) (Sb.fit (.perm List.perm_middle)) (hcol _ _ _ _ _ ok.rm.in1 fun vs ws a b d=>Ak _ (Sb.fit (.perm List.perm_middle.symm)) (hQ vs ws a b d)))) hps h2 h64 hw (fun v wd F3 V3 Q3 hv hl le3 k=>?_) fun D out F3 le3 ho=>?_
 ·obtain⟨t,rfl⟩:=hv
  refine Run.wk (Run.call ((WZ (n:=n) (w:=x.w) (os:=x.os) (V:=[]) (Q:=fun k F' W=>W=[]∧Le F3 F'∧Cv F' k wd) (ok.rm.in1.in1) (lm.le le3) hl (fun F' k le hk=>⟨rfl,le,hk⟩) V3).mono ?_))
  rintro f F4 V4 ⟨v,rfl,le4,W,sb,rfl,le5,hk⟩
  exact⟨v,rfl,V3,sb.fit,k v F4 le5 hk⟩
 ·exact⟨le3,_,Sb.refl,hQ F3 D out F2 (le2.trans le3) le3 ho⟩) hn
end
theorem L9 (al:List Nat):∀l:List (List Nat),(l.flatMap fun p=>al.map fun c=>p++[c]).length=l.length*al.length
 |[]=>by simp
 |p::l=>by simp only[List.flatMap_cons,eO,L9 al l,eM,List.length_cons,Nat.succ_mul,Nat.add_comm]
theorem take_all {α:Type}(l:List α):l.take l.length=l:=List.take_length
inductive AskI (al:List Nat) (ps:List (List Nat)) (W:Aa) (i:Nat) (us:List Value) (F:FM):Sm→Aa→Prop
 |mk {sp ss:_}:Af Ah us ((ps.take i).flatMap fun p=>al.map fun c=>p++[c])→AskI al ps W i us F [("part",sp),("sign",ss)] W
inductive AskJ (al:List Nat) (ps:List (List Nat)) (pd:List Nat) (i:Nat) (W:Aa) (j:Nat) (us:List Value) (F:FM):Sm→Aa→Prop
 |mk {ss:_}:Af Ah us (((ps.take i).flatMap fun p=>al.map fun c=>p++[c])++(al.take j).map fun c=>pd++[c])→AskJ al ps pd i W j us F [("part",.str (tx pd)),("sign",ss)] W
theorem KR {j:Nat}{pd:List Nat}(hpl:ps.length<64) (hal:al.length≤4) (h:Af Ah us (((ps.take i).flatMap fun p=>al.map fun c=>p++[c])++(al.take j).map fun c=>pd++[c])):us.length≤300:=by
 simp only[h.len,eO,L9,eM]
 have h1:(ps.take i).length≤63:=by rw[eZ];exact KJ ‹_› rfl
 have h2:(al.take j).length≤4:=by rw[eZ];exact QS ‹_› rfl
 exact eb (Nat.add_le_add (Nat.mul_le_mul h1 hal) h2) (by decide)
theorem WI (h:Af Ah vs ls) (hv:vs[i]? =some v):∃l t,ls[i]? =some l∧v= .str (tx l) t∧l ∈ ls:=by
 have hi:i<ls.length:=h.len▸(List.getElem?_eq_some_iff.mp hv).1
 obtain⟨l,hl⟩:∃l,ls[i]? =some l:=⟨_,eN hi⟩
 obtain⟨u,hu,t,hut⟩:=h.get hl
 replace hu:=(hv)▸hu
 cases hu
 exact Bg l t hl hut (List.mem_of_getElem? hl)
theorem Rc {P:Addr}(hsc:C7 sc ["part","sign"] ["alphabet"] []=true) (ok:Ok x (n+5) DS) (l3:Cl x.env "alphabet" c3) (h3:Ad c3 (Ar (.str (tx al))) W0) (hm:Ad (Str.ofString "parts") (.val (.ref P)) m) (haa:al.all (·<128)=true) (hP:Ls F P pvs) (hPv:Af Ah pvs ps) (hpl:ps.length<64) (hal:al.length≤4) (hw:∀w ∈ ps,w.length≤100)
  (hQ:∀F' D us X1 X2,Le F F'→Af Ah us (ES ps al)→Q (.ref D) F' ((D,Ab us)::X1::X2::W0)):
  Rx x F m W0 (.BinOp (.List [.Constant (.str "") 0 p1] p2) .Add (.ListComp (.BinOp (.Name "part" p3) .Add (.Name "sign" p4) p5) [⟨.Name "part" p6,.Name "parts" p7,[],0⟩,⟨.Name "sign" p8,.Name "alphabet" p9,[],0⟩] sc p10) p11) Q:=by
 refine Rx.Im (.cons (s:=.str (tx [])) (Ev.Bc (by decide+kernel)) .nil) fun t a=>?_
 refine Rx.cm (k:=false) ["part","sign"] ["alphabet"] [] [c3] Ab [] (fun _ h=>h) ok ⟨l3,trivial⟩ hsc ps.length (fun i v=>pvs[i]? =some v) (AskI al ps ((a,Ab [.str (tx []) t])::W0))
  (Qi:=fun xv F' W=>AS x.fo F' xv ps.length (fun i v=>pvs[i]? =some v)∧AskI al ps ((a,Ab [.str (tx []) t])::W0) 0 [] F' (anyM ["part","sign"]) W) (Rx.Bm (s:=.val (.ref P)) (Ev.nm ok hm) ⟨hPv.len▸.fx hP,.mk .nil⟩) (fun _ _ _ _ q=>q) ?_ ?_ (fun g e=>by cases e;rfl) (.inl ⟨_,_,rfl⟩)
 ·rintro y D oky ⟨y3, -⟩ - - - i us F1 m1 W v hi le1 hJ hv
  revert le1
  induction hJ with|mk hus=>
  rename_i sp ss
  intro le1
  refine Bk (WI hPv hv) fun pd t2 hpd e hpm=>?_
  refine Bg _ _ (.nm (Au.loc (s:=.str (tx pd)) oky ⟨t2,congrArg some e⟩ CG)) (fun _=>?_) (fun h=>nomatch h)
  refine CE.inner oky al.length (fun j v=>∃k,al[j]? =some k∧(Sp.str (ch k)).ok (some v)) (AskJ al ps pd i ((a,Ab [.str (tx []) t])::W0)) rfl (Qi:=fun xv F' W=>AS y.fo F' xv al.length (fun j v=>∃k,al[j]? =some k∧(Sp.str (ch k)).ok (some v))∧AskJ al ps pd i ((a,Ab [.str (tx []) t])::W0) 0 us F' [("part",.str (tx pd)),("sign",ss)] W) (Rx.Bm (s:=.str (tx al)) (Ev.ce oky y3 (.tail h3)) fun t3=>⟨JC haa,.mk (by simpa using hus)⟩) (fun _ _ _ _ q=>q) ?_ ?_ (fun _ e=>nomatch e) (.inl ⟨_,_,rfl⟩)
  ·intro j us2 F3 m3 W v hj le3 hJ hv
   revert le3
   induction hJ with|mk hus2=>
   rename_i ss
   intro le3
   refine Ag hv fun k hk hv=>?_
   have hpw:=hw pd hpm
   refine Bg _ _ (.nm (Au.loc (s:=.str (tx [k])) oky hv BQ)) (fun _=>CE.last (Rx.Bm (s:=.str (tx (pd++[k]))) (Ev.bin (.nm oky has0) (.nm oky Ai) (Aq.B7 (eb ‹_› (d7 rfl)) (by simp))) fun t4=>⟨us2++[_],EG.fx (eb (KR hpl hal hus2) (by decide)),.mk ?_⟩)) (fun h=>nomatch h)
   rw[take_snoc hk,eQ,←fa]
   exact hus2.snoc ⟨t4,rfl⟩
  ·intro us2 F3 m3 W le3 hJ
   revert le3
   induction hJ with|mk hus2=>
   intro le3
   refine .mk ?_
   simp only[take_snoc hpd,List.flatMap_append]
   rw[take_all] at hus2
   simpa using hus2
 ·intro us F1 m1 W D le1 hJ
  revert le1
  induction hJ with|mk hus=>
  intro le1
  rw[take_all] at hus
  have hul:us.length≤300:=KR (j:=0) (pd:=[]) (i:=ps.length) hpl hal (by rw[take_all];simpa using hus)
  exact .mk rfl (.inr (.tail .head)) (.inr .head) (by refine(?_:0+1+us.length≤1000);lia) fun D2=>hQ F1 D2 _ _ _ le1 (.cons ⟨t,rfl⟩ hus)
theorem XB {T:List Nat}{bars:List (List (Bool×List (Nat×Nat)))}{P:Addr}{K:Nat}(f:LawF al T tot lack ps aps bars K K2) (ok:Ok x (n+7) DS) (hc:x.env.code= .ref 397) (hq:x.env.qual=Str.ofString "law.<locals>.") (l2:Cl x.env "total" c2) (l3:Cl x.env "alphabet" c3) (l4:Cl x.env "text" c4) (l5:Cl x.env "lacking" c5)
  (hP:Ls F P pvs) (hPv:Af Ah pvs ps) (hF1:Le F1 F) (hF:Le F2 F) (hQ:∀F' W,DI W→Q (.bool true) F' W):
  R x ((bodyOf (E4 x.w.params)).drop 6) F (E8 s1 s2 (.val (.ref P)) s4 s5) (CQ c1 c2 c3 c4 c5 t1 (.int tot) (.str (tx al)) (.str (tx T)) t5 F1 F2 V) (FW Q):=by
 refine(?_:R _ (_::_) _ _ _ _)
 have hal:=f.al4
 have hT2:=f.T2
 have ha3:=f.a3
 refine R.ER ok (Rx.BI ok JL U9 (Mk _ _) (.cons (s:=.str (tx T)) (Ev.ce (s:=.str (tx T)) ok l4 Az) (.cons (s:=.str (tx al)) (Ev.ce (s:=.str (tx al)) ok l3 Ay) .nil)) fun t u=>?_)
 refine Xv (n:=n+1) ok.rm (ea ‹_› (d7 rfl)) f.TA f.alA (ef ‹_› (d7 rfl)) f.L fun F3 o a1 a2 v1 v2 le q1 q2 q3 q4 q5=>.mk rfl q1 (Au.fC ok put3) (Au.Hm (s:=.val (.ref a2)) ok l5 rfl Br) ?_
 refine R.E6 (Tx.JM ok (.nm ok Ay) q2 q3 (Rx.O7 (ps:=aps) (n:=n+4) ok Ce hc hq f.aS f.a2 f.a3 f.aw (Rc (n:=n+2) (by kernel_rfl) ok l3 Ay Al f.alA (hP.le le) hPv f.p3 f.al4 f.pw fun F4 D us X1 X2 le4 hus=>.mk (a:=D) (Vr:=(D,Ab us)::X1::X2::(289,tb F2 AV)::(c1,Ar t1)::(c2,Ar (.int tot))::(c3,Ar (.str (tx al)))::(c4,Ar (.str (tx T)))::(c5,Ar (.val (.ref a2)))::V) (Fx:=F1) rfl (.tail (.tail (.tail (.tail (.tail (.tail (.tail (.tail (.tail .head))))))))) (hF1.trans (le.trans le4)) (EH.fx .head (by rw[hus.len,f.ap.length_eq];exact ec (ea ‹_› (d7 rfl))) hus f.an f.ap) fun F5 D2 out Fy le5 le6 ho=>.mk rfl (.inr .head) ho ⟨fun h=>(nomatch h),fun _=>R.nil (R.next ?_)⟩)))
 exact R.sb (W:=HO c1 c2 c3 c4 c5 t1 (.str (tx T)) al tot a2 Fy F2 V) (Part.sb (.cons (.tail (.tail (.tail (.tail (.tail .head))))) (.cons (.tail (.tail (.tail (.tail (.tail .head))))) (.cons (.tail (.tail (.tail (.tail (.tail .head))))) (.cons (.tail (.tail (.tail (.tail (.tail .head))))) (.cons (.tail (.tail (.tail (.tail (.tail .head))))) (.cons (.tail (.tail (.tail (.tail (.tail .head))))) (.cons (.tail .head) (.skip (.skip (.skip (.skip .refl)))))))))))) (XC f ok l2 l3 l5 (q4.le (le4.trans le5)) q5 (hP.le (le.trans (le4.trans le5))) hPv (hF.trans (le.trans (le4.trans le5))) hQ)
theorem cP (T:List Nat) (i:Nat):(subAt T i).length=T.length+1 - i:=by simp only[subAt,eM,List.length_range]
theorem J7 (T:List Nat):∀i,((List.range i).flatMap (subAt T)).length≤i*(T.length+1)
 |0=>by simp
 |i+1=>by
  simp only[List.range_succ,List.flatMap_append,eO,Nat.succ_mul]
  have:=J7 T i
  have h2:([i].flatMap (subAt T)).length=T.length+1 - i:=by simp only[List.flatMap_cons,List.flatMap_nil,eJ,cP]
  lia
theorem NE {T:List Nat}(ok:Ok x n gs) (hx:Str.ofString "len" ∈ gs) (l4:Cl x.env "text" c4) (h4:Ad c4 (Ar (.str (tx T))) W) (hT:T.length<20):Ev x F m W (.Call (.Name (Str.ofString "len") p1) [.Name "text" p2] [] p3) (.int T.length):=
 Av T▸Ev.Bv ok hx (Ev.ce (s:=.str (tx T)) ok l4 h4) (by rw[Av];exact ec (ea ‹_› (d7 rfl)))
inductive PaI (T:List Nat) (W:Aa) (i:Nat) (σ:List (List Nat)) (F:FM):Sm→Aa→Prop
 |mk {a b:_}:σ=(List.range i).flatMap (subAt T)→PaI T W i σ F [("i",a),("j",b)] W
inductive PaJ (T:List Nat) (W:Aa) (i d:Nat) (σ:List (List Nat)) (F:FM):Sm→Aa→Prop
 |mk {b:_}:σ=(List.range i).flatMap (subAt T)++(List.range d).map (fun d=>(T.drop i).take d)→PaJ T W i d σ F [("i",.int i),("j",b)] W
theorem Zl {T:List Nat}{σ:List (List Nat)}(hT:T.length<20) (hi:i<T.length) (hd:d<T.length+1 - i) (e:σ=(List.range i).flatMap (subAt T)++(List.range d).map fun d=>(T.drop i).take d):σ.length<4000:=by
 simp only[e,eO,eM,List.length_range]
 have h1:i*(T.length+1)≤19*20:=Nat.mul_le_mul (ex (ez hi hT)) (Nat.succ_le_of_lt hT)
 have:=eb (J7 T i) h1
 lia
theorem Z3 (h:i≤n):Builtin.Range.rangeSize i ((n:Int)+1) 1=((n+1 - i:Nat):Int):=by
 rw[rangeSize_one];split<;>lia
theorem Zm {T:List Nat}{p16 p17 p18 p19 p20 p21:Pos}(hsc:C7 sc ["i","j"] ["text"] ["range","len"]=true) (ok:Ok x (n+5) DS) (l4:Cl x.env "text" c4) (h4:Ad c4 (Ar (.str (tx T))) W0) (hT:T.length<20)
  (hQ:∀F' D,Le F F'→Q (.ref D) F' ((D,B6 x.w ((CS T).map tx))::W0)):
  Rx x F m W0 (.SetComp (.Subscript (.Name "text" p1) (.Slice (some (.Name "i" p2)) (some (.Name "j" p3)) none p4) p5) [⟨.Name "i" p6,.Call (.Name "range" p7) [.Call (.Name "len" p8) [.Name "text" p9] [] p10] [] p11,[],0⟩,⟨.Name "j" p12,.Call (.Name "range" p13) [.Name "i" p14,.BinOp (.Call (.Name "len" p15) [.Name "text" p16] [] p17) .Add (.Constant (.int 1) 0 p18) p19] [] p20,[],0⟩] sc p21) Q:=by
 refine Rx.cm (k:=true) ["i","j"] ["text"] ["range","len"] [c4] (fun σ=>B6 x.w (σ.map tx)) [] (fun o h=>B6.new h) ok ⟨l4,trivial⟩ hsc T.length (fun i v=>(Sp.int (0+i*1)).ok (some v)) (PaI T W0)
  (Qi:=fun xv F' W=>AS x.fo F' xv T.length (fun i v=>(Sp.int (0+i*1)).ok (some v))∧PaI T W0 0 [] F' (anyM ["i","j"]) W) (Rx.Ey ok Bx (NE ok D0 l4 h4 hT) fun F' r le hr=>⟨.rg hr (F9 (ea ‹_› (d7 rfl))) (Ga _),.mk rfl⟩) (fun _ _ _ _ q=>q) ?_ ?_ (fun g e=>by cases e;rfl) (.inl ⟨_,_,rfl⟩)
 ·rintro y Dn oky ⟨y4, -⟩ hw - - i σ F' m W v hi le hJ hv
  revert le
  induction hJ with|mk e=>
  rename_i a b
  intro le
  refine Bg _ _ (.nm (Au.loc (s:=.int (i:Int)) oky (by rw[Int.mul_one,Int.zero_add] at hv;exact hv) CG)) (fun _=>?_) (fun h=>nomatch h)
  refine CE.inner oky (T.length+1 - i) (fun d v=>(Sp.int (i+d*1)).ok (some v)) (PaJ T W0 i) rfl (Qi:=fun xv F' W=>AS y.fo F' xv (T.length+1 - i) (fun d v=>(Sp.int (i+d*1)).ok (some v))∧PaJ T W0 i 0 σ F' [("i",.int i),("j",b)] W)
   (Rx.H4 oky AK (.nm oky has0) (Ev.bin (NE oky Bx y4 h4 hT) .int Aq.Aw) fun F' r le hr=>⟨.rg hr (small_one (by lia) (by lia) (by lia) (by lia)) (Z3 (ec hi)),.mk (by refine(e)▸?_;simp)⟩) (fun _ _ _ _ q=>q) ?_ ?_ (fun _ e=>nomatch e) (.inl ⟨_,_,rfl⟩)
  ·intro d σ F3 m3 W v hd le3 hJ hv
   revert le3
   induction hJ with|mk e=>
   rename_i b
   intro le3
   have hdr:D (tx T) i (T.drop i):=⟨rfl,by rw[Av];exact ec ‹_›⟩
   refine Bg _ _ (.nm (Au.loc (s:=.int (i+d:Int)) oky (by rw[Int.mul_one] at hv;exact hv) BQ)) (fun _=>CE.last (Rx.Bm (s:=.str (tx ((T.drop i).take d))) (Ev.D8 d (Ev.ce (s:=.str (tx T)) oky y4 h4) (.nm oky has0) (.nm oky Ai) hdr rfl rfl (by rw[Av];exact ea ‹_› (d7 rfl))) fun t=>⟨σ++[(T.drop i).take d],?_,.mk ?_⟩)) (fun h=>nomatch h)
   ·rw[eQ]
    exact hw▸EG.fy (by rw[eM];exact Zl hT hi hd e)
   ·simp only[e,fa,List.range_succ,eQ];rfl
  ·intro σ F3 m3 W le3 hJ
   revert le3
   induction hJ with|mk e=>
   intro le3
   refine .mk ?_
   simp only[e,List.range_succ,List.flatMap_append,List.flatMap_cons,List.flatMap_nil,eJ]
   rfl
 ·intro σ F' m W D le hJ
  revert le
  induction hJ with|mk e=>
  intro le
  exact e▸hQ F' D le
theorem law_C {T:List Nat}{bars:List (List (Bool×List (Nat×Nat)))}{K:Nat}(f:LawF al T tot lack ps aps bars K K2) (ok:Ok x (n+7) DS) (hc:x.env.code= .ref 397) (hq:x.env.qual=Str.ofString "law.<locals>.") (l2:Cl x.env "total" c2) (l3:Cl x.env "alphabet" c3) (l4:Cl x.env "text" c4) (l5:Cl x.env "lacking" c5)
  (hF1:Le F1 F) (hF:Le F2 F) (hQ:∀F' W,DI W→Q (.bool true) F' W):
  R x ((bodyOf (E4 x.w.params)).drop 5) F (E8 s1 s2 s3 s4 s5) (CQ c1 c2 c3 c4 c5 t1 (.int tot) (.str (tx al)) (.str (tx T)) t5 F1 F2 V) (FW Q):=by
 refine(?_:R _ (_::_) _ _ _ _)
 have hT1:=f.T1
 have hT2:=f.T2
 have hn:ps.Nodup:=f.pS.imp fun{a b} h e=>by rw[e,Ig] at h;cases h
 have hm0:[] ∈ CS T:=List.mem_flatMap.mpr ⟨0,List.mem_range.mpr hT1,List.mem_map.mpr ⟨0,List.mem_range.mpr (eA _),rfl⟩⟩
 have hm1:T.take 1 ∈ CS T:=List.mem_flatMap.mpr ⟨0,List.mem_range.mpr hT1,List.mem_map.mpr ⟨1,List.mem_range.mpr (Nat.lt_succ_of_le ‹_›),rfl⟩⟩
 have hz:(CS T).length≤4000:=by
  refine(?_:((List.range T.length).flatMap (subAt T)).length≤_)
  exact eb (J7 T T.length) (eb (Nat.mul_le_mul (ex hT2) (Nat.succ_le_of_lt hT2)) (by decide))
 have hne:([]:List Nat)≠T.take 1:=fun e=>by
  have:=congrArg List.length e
  simp only[List.length_nil,eZ] at this
  lia
 refine R.Bi ok (Rx.O7 (ps:=ps) (n:=n+4) ok Ce hc hq f.pS f.p2 f.p3 (fun w hw=>eb (f.pw w hw) (by decide)) (Zm (n:=n+2) (by kernel_rfl) ok l4 Az hT2 fun F3 D le3=>.mk (a:=D) (Vr:=(D,B6 x.w ((CS T).map tx))::(289,tb F2 AV)::(c1,Ar t1)::(c2,Ar (.int tot))::(c3,Ar (.str (tx al)))::(c4,Ar (.str (tx T)))::(c5,Ar t5)::V) (Fx:=F1) rfl (.tail (.tail (.tail (.tail (.tail (.tail (.tail .head))))))) (hF1.trans le3) (EH.fy .head hz hm0 hm1 hne hn f.pm) fun F4 D2 out Fy le4 le5 ho=>As.fC put2 ?_))
 exact R.sb (W:=(D2,Ab out)::CQ c1 c2 c3 c4 c5 t1 (.int tot) (.str (tx al)) (.str (tx T)) t5 Fy F2 V) (Part.sb (.cons .head (.cons (.tail (.tail .head)) (.cons (.tail (.tail .head)) (.cons (.tail (.tail .head)) (.cons (.tail (.tail .head)) (.cons (.tail (.tail .head)) (.cons (.tail (.tail .head)) (.cons .head (.skip .refl)))))))))) (R.Ds fun F5 le6 hP=>XB f ok hc hq l2 l3 l4 l5 hP ho (le5.trans le6) (hF.trans (le3.trans (le4.trans le6))) hQ)
theorem Jv:∀{vs:List Value}{ns:List Int}{i:Nat}{n:Int},IntsAre vs ns→ns[i]? =some n→∃t,vs[i]? =some (.int n t)
 |_,_,0,_,.cons a u h,e=>by cases e;exact⟨u,rfl⟩
 |_,_,i+1,_,.cons a u h,e=>Jv (i:=i) h e
noncomputable def A5 (tot:Int):Nat:=[5,6,4].getD (tot.fmod 3).toNat 0
noncomputable def B4 (al:List Nat) (b:Int):Nat:=al.getD b.toNat 0
inductive TxJ (T:List Nat) (F0:FM) (W:Aa) (i:Nat) (ws:List Value) (F:FM):Sm→Aa→Prop
 |mk {a:_}:Le F0 F→Af Ah ws ((T.take i).map fun c=>[c])→TxJ T F0 W i ws F [("x",a)] W
theorem L8 (tot:Int):tot.fmod 3=((tot.fmod 3).toNat:Nat)∧(tot.fmod 3).toNat<1000:=by
 have hk0:=Int.fmod_nonneg_of_pos tot (b:=3) (by decide)
 have hk3:=Int.fmod_lt_of_pos tot (b:=3) (by decide)
 exact⟨Iq ‹_›,by lia⟩
theorem XN (u1 u2 u3:Tok) (tot:Int):∃t,[Value.int 5 u1,.int 6 u2,.int 4 u3][(tot.fmod 3).toNat]? =some (.int (A5 tot) t):=by
 have hk0:=Int.fmod_nonneg_of_pos tot (b:=3) (by decide)
 have hk3:=Int.fmod_lt_of_pos tot (b:=3) (by decide)
 have:(tot.fmod 3).toNat=0∨(tot.fmod 3).toNat=1∨(tot.fmod 3).toNat=2:=by lia
 unfold A5
 rcases this with e|e|e<;>rw[e]
 ·exact⟨u1,rfl⟩
 ·exact⟨u2,rfl⟩
 ·exact⟨u3,rfl⟩
theorem Px {b:Addr}(h:Ls F b (slicePick vs.toArray Option.none (some ((k:Nat):Int)) Option.none).toList):Ls F b (vs.take k):=by
 rw[slicePick_upto'] at h
 exact h
theorem dQ {T:List Nat}{bs:List Int}(hi:IntsAre us bs) (hb:∀b ∈ bs,b=0∨b=1) (ha:al.length=2) (hT:T=(bs.take (A5 tot)).map (B4 al)) (hv:(us.take (A5 tot))[i]? =some v):∃(b:Int) (t:Tok) (sg:Nat) (r:List Nat),v= .int b t∧T[i]? =some sg∧D (tx al) b.toNat (sg::r)∧b=(b.toNat:Nat)∧T.length≤T.length∧b.toNat<al.length:=by
 have hi2:=(List.getElem?_eq_some_iff.mp hv).1
 obtain⟨b,hbi⟩:∃b,(bs.take (A5 tot))[i]? =some b:=⟨_,eN (by have:=hi.length;rw[eZ] at hi2⊢;lia)⟩
 obtain⟨t,ht⟩:=Jv (hi.take (A5 tot)) hbi
 replace ht:=(hv)▸ht
 have hb2:=hb b (List.mem_of_mem_take (List.mem_of_getElem? hbi))
 have hTi:T[i]? =some (B4 al b):=by rw[hT,List.getElem?_map,hbi];rfl
 have hab:b.toNat<al.length:=by rcases hb2 with rfl|rfl<;>simp[ha]
 have hsg:al[b.toNat]? =some (B4 al b):=by rw[B4,List.getD_eq_getElem?_getD,eN hab];rfl
 exact M8 b t (B4 al b) (al.drop (b.toNat+1)) (ed ht) hTi ⟨EV hsg,by rw[Av];exact ec ‹_›⟩ (by rcases hb2 with rfl|rfl<;>rfl) (eh _) hab
inductive LtJ (W:Aa) (i:Nat) (us:List Value) (F:FM):Sm→Aa→Prop
 |mk {a bs:_}:IntsAre us bs→bs.length=i→(∀b ∈ bs,b=0∨b=1)→LtJ W i us F [("k",a)] W
theorem aP (u1 u2 u3 u4 u5 u6:Tok) (h:i<6):∃z t,[Value.int 0 u1,.int 1 u2,.int 0 u3,.int 0 u4,.int 1 u5,.int 0 u6][i]? =some (.int z t):=by
 match i,h with
 |0,_=>exact⟨0,u1,rfl⟩
 |1,_=>exact⟨1,u2,rfl⟩
 |2,_=>exact⟨0,u3,rfl⟩
 |3,_=>exact⟨0,u4,rfl⟩
 |4,_=>exact⟨1,u5,rfl⟩
 |5,_=>exact⟨0,u6,rfl⟩
theorem Ry {bs:List Int}(h:∀b ∈ bs,b=0∨b=1) (z:Int):∀b ∈ bs++[z.fmod 2],b=0∨b=1:=fun q hq=>by
 rcases List.mem_append.mp hq with hq|hq
 ·exact h q hq
 ·have e:=List.mem_singleton.mp hq
  have:=Int.fmod_lt_of_pos z (b:=2) (by decide)
  have:=Int.fmod_nonneg_of_pos z (b:=2) (by decide)
  lia
theorem XA {T:List Nat}{bs:List Int}{lt:Addr}{bars:List (List (Bool×List (Nat×Nat)))}{K:Nat}(f:LawF al T tot lack ps aps bars K K2) (ok:Ok x (n+7) DS) (hc:x.env.code= .ref 397) (hq:x.env.qual=Str.ofString "law.<locals>.") (l2:Cl x.env "total" c2) (l3:Cl x.env "alphabet" c3) (l4:Cl x.env "text" c4) (l5:Cl x.env "lacking" c5)
  (hl:Ls F lt us) (hi:IntsAre us bs) (h6:bs.length=6) (hb:∀b ∈ bs,b=0∨b=1) (ha:al.length=2) (hT:T=(bs.take (A5 tot)).map (B4 al)) (hF1:Le F1 F) (hF:Le F2 F) (hQ:∀F' W,DI W→Q (.bool true) F' W):
  R x ((bodyOf (E4 x.w.params)).drop 4) F (E8 s1 (.val (.ref lt)) s3 s4 s5) (CQ c1 c2 c3 c4 c5 t1 (.int tot) (.str (tx al)) t4 t5 F1 F2 V) (FW Q):=by
 refine(?_:R _ (_::_) _ _ _ _)
 have hul:us.length=6:=hi.length.trans h6
 have hT6:T.length≤6:=by rw[hT,eM,eZ];exact QT ‹_› rfl
 refine R.IC ok l4 (Rx.GQ .str (Rx.lc ["x"] ["alphabet"] [] [c3] ok ⟨l3,trivial⟩ (by kernel_rfl) (us.take (A5 tot)).length (fun i v=>(us.take (A5 tot))[i]? =some v) (TxJ T F (CQ c1 c2 c3 c4 c5 t1 (.int tot) (.str (tx al)) t4 t5 F1 F2 V))
  (Rx.OY (.nm ok Ai) hl (eb (eH ‹_›) (d7 rfl)) (Rx.JB (k:=(tot.fmod 3).toNat) (i:=tot.fmod 3) (Rx.BR (.cons (s:=.int 5) .int (.cons (s:=.int 6) .int (.cons (s:=.int 4) .int .nil))) fun u1 u2 u3 F3 a le tu=>⟨Ev.bin (Ev.ce (s:=.int tot) ok l2 Al) .int (Aq.GY (by decide)),BZ (XN u1 u2 u3 tot) fun t ht=>.mk rfl tu ht ⟨_,t,rfl,fun F4 b le4 hb=>⟨.fx (Px hb),.mk (le.trans le4) .nil⟩⟩⟩) (L8 tot).1 (L8 tot).2) fun _ _ _ _ q=>q) ?_ ?_ (.inl ⟨_,_,rfl⟩)))
 ·rintro y oky ⟨y3, -⟩ - - - i ws F3 m W v hi2 hJ
  induction hJ with|mk le2 hws=>
  intro hv le
  refine Lr (dQ hi hb ha hT hv) fun b t sg r e hTi hD h0 hTl hbl=>?_
  refine .mk (.nm (Au.loc (s:=.int b) oky ⟨t,congrArg some e⟩ CG)) ⟨fun _=>Rx.Bm (s:=.str (tx [sg])) (Ev.Bn (Ev.ce (s:=.str (tx al)) oky y3 Ay) (.nm oky has0) hD h0 (by rw[Av];exact ef (eH ‹_›) (d7 rfl))) fun t2=>⟨?_,.mk le2 ?_⟩,fun h=>nomatch h⟩
  ·rw[hws.len,eM,eZ];lia
  ·rw[take_snoc hTi,eQ]
   exact hws.snoc ⟨t2,rfl⟩
 ·intro ws F3 m W D hJ
  induction hJ with|mk le2 hws=>
  intro le
  rw[List.take_of_length_le (by rw[hT,eM,eZ,eZ];lia)] at hws
  exact .mk rfl .head hws (by rw[GE];exact eb ‹_› (d7 rfl)) fun t2=>.mk (s:=.str (tx T)) ⟨t2,by rw[GE]⟩ Br (R.sb (.skip .refl)<|law_C f ok hc hq l2 l3 l4 l5 (hF1.trans le2) (hF.trans le2) hQ)
noncomputable def Eh:List (List Nat):=[[97,98],[42,63],[91,45],[93,94],[92,38],[124,126],[46,35]]
theorem ints_snoc {n:Int}{ns:List Int}(h:IntsAre vs ns):IntsAre (vs++[.int n t]) (ns++[n]):=h.append (.cons n t .nil)
theorem ints_get {ns:List Int}(h:IntsAre vs ns) (e:vs[i]? =some v):∃n t,v= .int n t:=by
 have hi:i<vs.length:=(List.getElem?_eq_some_iff.mp e).1
 refine Exists.elim (Jv h (eN (h.length▸hi))) fun t ht=>?_
 rw[e] at ht
 exact⟨_,t,ed ht⟩
theorem Xz {ns:List Int}{b:Addr}(ok:Ok x (n+7) DS) (hc:x.env.code= .ref 397) (hq:x.env.qual=Str.ofString "law.<locals>.") (l1:Cl x.env "numbers" c1) (l2:Cl x.env "total" c2) (l3:Cl x.env "alphabet" c3) (l4:Cl x.env "text" c4) (l5:Cl x.env "lacking" c5)
  (hb:Ls F b us) (hm:IntsAre us ns) (hu:us.length≤1000) (ha:al.length=2) (hlaw:∀bs:List Int,bs.length=6→(∀b ∈ bs,b=0∨b=1)→∃lack ps aps bars K K2,LawF al ((bs.take (A5 tot)).map (B4 al)) tot lack ps aps bars K K2) (hF1:Le F1 F) (hF:Le F2 F) (hQ:∀F' W,DI W→Q (.bool true) F' W):
  R x ((bodyOf (E4 x.w.params)).drop 3) F (E8 s1 s2 s3 s4 s5) (CQ c1 c2 c3 c4 c5 (.val (.ref b)) (.int tot) (.str (tx al)) t4 t5 F1 F2 V) (FW Q):=by
 refine(?_:R _ (_::_) _ _ _ _)
 refine R.KO ["k"] ["numbers"] ["sum"] [c1] ok ⟨l1,trivial⟩ (by kernel_rfl) 6 (fun i v=>(Sp.int (0+i*1)).ok (some v)) (LtJ (CQ c1 c2 c3 c4 c5 (.val (.ref b)) (.int tot) (.str (tx al)) t4 t5 F1 F2 V))
  (Rx.Ey ok Bx .int fun F' r le hr=>⟨.rg hr (F9 (by decide)) (Ga 6),.mk .nil rfl fun b h=>nomatch h⟩) ?_ ?_ (.inl ⟨_,_,rfl⟩) (List.mem_of_elem_eq_true (by kernel_rfl))
 ·rintro y oky ⟨y1, -⟩ - - - i us2 F' m W v hi hJ
  induction hJ with|mk hbs hbl hbb=>
  rename_i a bs
  intro hv le
  refine .mk (.nm (Au.loc (s:=.int (i:Int)) oky (by rw[Int.mul_one,Int.zero_add] at hv;exact hv) CG)) ⟨fun _=>?_,fun h=>nomatch h⟩
  refine Rx.IE (Rx.IE (Rx.JB (k:=i) (i:=i) (Rx.BR (.cons (s:=.int 0) .int (.cons (s:=.int 1) .int (.cons (s:=.int 0) .int (.cons (s:=.int 0) .int (.cons (s:=.int 1) .int (.cons (s:=.int 0) .int .nil)))))) fun u1 u2 u3 u4 u5 u6 F3 a le3 tu=>⟨.nm oky has0,GA (aP u1 u2 u3 u4 u5 u6 hi) fun z t hz=>.mk rfl tu hz (.mk (s1:=.int z) ⟨t,rfl⟩ ?_)⟩) rfl (ea ‹_› (d7 rfl))))
  refine Rx.Rv oky AK MI (Rx.a7 (i:=i) (k:=6) (Ev.ce (s:=.val (.ref b)) oky y1 Ai) (hb.le (le.trans le3)) (eb ‹_› (d7 rfl)) (.nm oky has0) .int (by decide) fun F4 l le4 hl K=>Run.Ic oky.rm hl (hm.pick _ _ _) fun t2=>⟨Le.refl _,_,Sb.refl,?_⟩)
  refine .mk (s2:=.int _) (s3:=.int _) ⟨t2,rfl⟩ Aq.Aw fun t3=>.mk (s1:=.int _) ⟨t3,rfl⟩ (Rx.Bm (s:=.int 2) .int fun t4=>.mk (s2:=.int 2) (s3:=.int _) ⟨t4,rfl⟩ (Aq.GY (by decide)) fun t5=>⟨?_,.mk (ints_snoc hbs) (by rw[eO,hbl];rfl) (Ry hbb _)⟩)
  rw[hbs.length];exact EQ ‹_› ‹_› rfl
 ·intro us2 F3 mc W D hJ
  induction hJ with|mk hbs hbl hbb=>
  rename_i a bs
  intro le
  exact(hlaw bs hbl hbb).elim fun lack q=>q.elim fun ps q=>q.elim fun aps q=>q.elim fun bars q=>q.elim fun K q=>q.elim fun K2 f=>.mk BQ (R.Ds fun F4 le4 hl=>XA f ok hc hq l2 l3 l4 l5 hl hbs hbl hbb ha rfl (hF1.trans (le.trans le4)) (hF.trans (le.trans le4)) hQ)
def Plain:Prop:=∀(tot:Int) (al:List Nat) (bs:List Int),al ∈ Eh→bs.length=6→(∀b ∈ bs,b=0∨b=1)→∃lack ps aps bars K K2,LawF al ((bs.take (A5 tot)).map (B4 al)) tot lack ps aps bars K K2
inductive NuJ (W:Aa) (i:Nat) (us:List Value) (F:FM):Sm→Aa→Prop
 |mk {a ms:_}:us.length≤i→IntsAre us ms→NuJ W i us F [("x",a)] W
theorem PG (t:Int):∃al,Eh[((t.fdiv 3).fmod 7).toNat]? =some al∧al.length=2∧((t.fdiv 3).fmod 7=(((t.fdiv 3).fmod 7).toNat:Nat)∧((t.fdiv 3).fmod 7).toNat<1000):=by
 have h0:=Int.fmod_nonneg_of_pos (t.fdiv 3) (b:=7) (by decide)
 have h7:=Int.fmod_lt_of_pos (t.fdiv 3) (b:=7) (by decide)
 obtain⟨al,hal⟩:∃al,Eh[((t.fdiv 3).fmod 7).toNat]? =some al:=⟨_,eN (by refine(?_:_<7);lia)⟩
 have:∀a ∈ Eh,a.length=2:=by decide
 exact FP al hal (this al (List.mem_of_getElem? hal)) (Iq ‹_›) (by lia)
theorem UL:Fun (cx w os:_) 398 (E4 w.params):=Bf (by kernel_rfl) (by kernel_rfl) rfl rfl rfl
theorem Xy (pl:Plain) {ns:List Int}{sc:Addr}(ok:Ok x (n+7) DS) (hc:x.env.code= .ref 397) (hq:x.env.qual=Str.ofString "law.<locals>.") (l1:Cl x.env "numbers" c1) (l2:Cl x.env "total" c2) (l3:Cl x.env "alphabet" c3) (l4:Cl x.env "text" c4) (l5:Cl x.env "lacking" c5)
  (hl:Ls F sc vs) (hi:IntsAre vs ns) (hlen:vs.length≤1000) (hF1:Le F1 F) (hF:Le F2 F) (hQ:∀F' W,DI W→Q (.bool true) F' W):
  R x (bodyOf (E4 x.w.params)) F (E8 (.val (.ref sc)) s2 s3 s4 s5) (CQ c1 c2 c3 c4 c5 .any .any .any .any .any F1 F2 V) (FW Q):=by
 refine(?_:R _ (_::_) _ _ _ _)
 refine R.IC ok l1 (Rx.lc ["x"] [] [] [] ok trivial (by kernel_rfl) (vs.take 63).length (fun i v=>(vs.take 63)[i]? =some v) (NuJ (CQ c1 c2 c3 c4 c5 .any .any .any .any .any F1 F2 V))
  (Rx.OY (.nm ok has0) hl (eb ‹_› (d7 rfl)) (Rx.Bm (s:=.int 63) .int fun t=>⟨_,t,rfl,fun F3 b le h=>⟨.fx (Px (k:=63) h),.mk (eh _) .nil⟩⟩) fun _ _ _ _ q=>q) ?_ ?_ (.inl ⟨_,_,rfl⟩)) (cY l1)
 ·rintro y oky cy - - - i us F' m W v hi2 hJ
  induction hJ with|mk hu hm=>
  rename_i a ms
  intro hv le
  have:=List.length_take_le 63 vs
  refine GA (ints_get (hi.take 63) hv) fun k t e=>.mk (.nm (Au.loc (s:=.int k) oky ⟨t,congrArg some e⟩ CG)) ⟨fun _=>Rx.Bm (s:=.int (k.fmod 1000000)) (Ev.bin (.nm oky has0) (Ev.bin .int .int Aq.ZA) (Aq.GY (by decide))) fun t2=>⟨QW ‹_› ‹_› ‹_› rfl,.mk (by rw[eO,List.length_singleton];exact Nat.lt_succ_of_le ‹_›) (ints_snoc hm)⟩,fun h=>nomatch h⟩
 ·intro us F3 m W D hJ
  induction hJ with|mk hu hm=>
  rename_i a ms
  intro le1
  have hu:us.length≤1000:=by have:=List.length_take_le 63 vs;exact eb ‹_› (eb ‹_› (d7 rfl))
  refine .mk (s:=.val (.ref D)) rfl put2 (R.Ds fun F4 le2 hb=>?_)
  refine R.KN (s:=.int ms.sum) ok l2 (Ev.Ic ok AK (Ev.ce (s:=.val (.ref D)) ok l1 Ai) hb hm) put2 ?_
  refine AX (PG ms.sum) fun al hal hal2 h7=>?_
  refine R.IC ok l3 (Rx.JB (k:=((ms.sum.fdiv 3).fmod 7).toNat) (i:=(ms.sum.fdiv 3).fmod 7) (Rx.BR (.cons (s:=.str (tx [97,98])) (Ev.Bc (by decide+kernel)) (.cons (s:=.str (tx [42,63])) (Ev.Bc (by decide+kernel)) (.cons (s:=.str (tx [91,45])) (Ev.Bc (by decide+kernel)) (.cons (s:=.str (tx [93,94])) (Ev.Bc (by decide+kernel)) (.cons (s:=.str (tx [92,38])) (Ev.Bc (by decide+kernel)) (.cons (s:=.str (tx [124,126])) (Ev.Bc (by decide+kernel)) (.cons (s:=.str (tx [46,35])) (Ev.Bc (by decide+kernel)) .nil))))))) fun u1 u2 u3 u4 u5 u6 u7 F5 a le3 tu=>
   ⟨Ev.bin (Ev.bin (Ev.ce (s:=.int ms.sum) ok l2 Al) .int (Aq.TL (by decide) (PyProof.noPylong_small (by decide)))) .int (Aq.GY (by decide)),Ag (Af.get (R:=Ah) (ps:=Eh) (.cons ⟨u1,rfl⟩ (.cons ⟨u2,rfl⟩ (.cons ⟨u3,rfl⟩ (.cons ⟨u4,rfl⟩ (.cons ⟨u5,rfl⟩ (.cons ⟨u6,rfl⟩ (.cons ⟨u7,rfl⟩ .nil))))))) hal) fun v h1 h2=>.mk rfl tu h1 (.mk (s:=.str (tx al)) h2.ok put3 ?_)⟩) h7.1 h7.2)
  exact Xz ok hc hq l1 l2 l3 l4 l5 (hb.le le3) hm hu hal2 (fun bs h6 hb=>pl _ al bs (List.mem_of_getElem? hal) h6 hb) (hF1.trans (le1.trans (le2.trans le3))) (hF.trans (le1.trans (le2.trans le3))) hQ
theorem XF (pl:Plain) {ns:List Int}{sc:Addr}(rm:Rm (n+8) A) (hl:Ls F sc vs) (hi:IntsAre vs ns) (hlen:vs.length≤1000) (hF1:Le F1 F) (hF:Le F2 F) (hQ:∀F' W,DI W→Q (.bool true) F' W):
  RV (cx w os) A (.call (.ref 398) ⟨[.ref sc],[]⟩) F ((289,tb F2 AV)::(395,tb F1 DD)::V) Q:=by
 refine RV.HB ["script","letters","parts","asked","barred"] ["numbers","total","alphabet","text","lacking"] DS (E8 (.val (.ref sc)) .any .any .any .any) [.any,.any,.any,.any,.any] [Option.none,Option.none,Option.none,Option.none,Option.none]
  rm (UL (w:=w) (os:=os)) (binds:=[("script",.ref sc)]) rfl (by kernel_rfl) (by kernel_rfl) (by rfl) (E7 rfl trivial trivial trivial trivial trivial) (by rfl) (E7 trivial trivial trivial trivial trivial trivial) ?_
 rintro x as ok ca - - hcd hql
 obtain⟨c1,c2,c3,c4,c5,rfl,l1,l2,l3,l4,l5⟩:=RQ ca
 refine(?_:R _ _ _ _ ((c1,Ar .any)::(c2,Ar .any)::(c3,Ar .any)::(c4,Ar .any)::(c5,Ar .any)::(289,tb F2 AV)::(395,tb F1 DD)::V) _)
 exact R.sb (Part.sb (.cons (.tail (.tail (.tail (.tail (.tail .head))))) .refl)) (Xy pl ok (hcd.trans rfl) (hql.trans (by kernel_rfl)) l1 l2 l3 l4 l5 hl hi hlen hF1 hF hQ (V:=V))
section
open PySem PySem.W PyProof.Rows
section
variable {α β:Type}{lt:α→α→Bool}{lt':β→β→Bool}{e:α→β}
theorem J0 (h:∀a b,lt' (e a) (e b)=lt a b) (start:Nat) (new:α) (k:Nat):∀its pos,Dd lt' start (e new) k (its.map e) pos=(Dd lt start new k its pos).map e:=by
 induction k with
 |zero=>intro its pos;exact List.map_set.symm
 |succ k ih=>
  intro its pos
  rw[Dd,Dd,List.getElem?_map,←List.map_set]
  cases decide (pos>start) with
  |false=>rfl
  |true=>cases its[(pos - 1) / 2]? with
   |none=>rfl
   |some p=>
    dsimp only[cond_true,Option.elim,Option.map_some]
    rw[h,←List.map_set,ih]
    cases lt new p<;>rfl
theorem H1 (h:∀a b,lt' (e a) (e b)=lt a b) (its:List α) (x:α):DC lt' (its.map e) (e x)=(DC lt its x).map e:=by
 unfold DC
 rw[eM,show its.map e++[e x]=(its++[x]).map e by rw[eQ];rfl,J0 h]
theorem Xc (h:∀a b,lt' (e a) (e b)=lt a b) (its:List α) (n c:Nat):CF lt' (its.map e) n c=CF lt its n c:=by
 unfold CF
 rw[List.getElem?_map,List.getElem?_map]
 cases its[c]? with
 |none=>rfl
 |some a=>cases its[c+1]? with
  |none=>rfl
  |some b=>exact congrArg (fun x=>bif _ then(bif x then _ else _) else _) (h a b)
theorem cO (h:∀a b,lt' (e a) (e b)=lt a b) (n start:Nat) (new:α) (k:Nat):∀its pos,Df lt' n (e new) start k (its.map e) pos=(Df lt n new start k its pos).map e:=by
 induction k with
 |zero=>intro its pos;rw[Df,Df,←List.map_set,J0 h]
 |succ k ih=>
  intro its pos
  rw[Df,Df,Xc h,List.getElem?_map,←List.map_set,J0 h]
  cases decide (2*pos+1<n) with
  |false=>rfl
  |true=>cases its[CF lt its n (2*pos+1)]? with
   |none=>rfl
   |some p=>
    dsimp only[cond_true,Option.elim,Option.map_some]
    rw[←List.map_set,ih]
theorem JT (h:∀a b,lt' (e a) (e b)=lt a b) (its:List α) (x:α):Fi lt' (its.map e) (e x)=(Fi lt its x).map e:=by
 unfold Fi
 rw[eM,cO h]
end
noncomputable def eW (w:List Nat):Itm:=((w.length:Int),tx w)
theorem GW (a b:List Nat):ltB (eW a) (eW b)=AF a b:=by
 delta ltB eW AF
 dsimp only
 by_cases h:a.length=b.length
 ·rw[if_pos (by exact congrArg _ (h))]
  by_cases h2:a=b
  ·subst h2
   rw[if_pos rfl]
   simp[List.lt_irrefl]
  ·rw[if_neg fun q=>h2 (tx_inj q)]
   simp only[h,tx,Nat.lt_irrefl,decide_false,Bool.false_or,eX,Bool.true_and]
   exact decide_eq_decide.mpr Iff.rfl
 ·rw[if_neg (by lia)]
  simp only[beq_eq_false_iff_ne.mpr h,Bool.false_and,Bool.or_false]
  exact decide_eq_decide.mpr Int.ofNat_lt
theorem HZ {α β:Type}{lt:α→α→Bool}{lt':β→β→Bool}{e:α→β}(h:∀a b,lt' (e a) (e b)=lt a b) (its:List α):Fh lt' (its.map e)=(Fh lt its).map fun p=>(e p.1,p.2.map e):=by
 unfold Fh
 rw[List.getLast?_map,←List.map_dropLast]
 cases its.getLast? with
 |none=>rfl
 |some z=>
  cases its.dropLast with
  |nil=>rfl
  |cons t r=>exact congrArg (fun l=>some (e t,l)) (JT h (z::r) z)
theorem X8 (hf:∀a b,a<b→f a<f b):∀a b:List Nat,decide (a.map f<b.map f)=decide (a<b):=by
 have hi:∀a b,f a<f b↔a<b:=fun a b=>⟨fun h=>by
  rcases Nat.lt_trichotomy a b with q|q|q
  ·exact q
  ·subst q;exact absurd h (Nat.lt_irrefl _)
  ·exact absurd (hf _ _ q) (Nat.lt_asymm h),hf a b⟩
 have he:∀a b,f a=f b↔a=b:=fun a b=>⟨fun h=>by
  rcases Nat.lt_trichotomy a b with q|q|q
  ·have:=hf _ _ q;lia
  ·exact q
  ·have:=hf _ _ q;lia,congrArg f⟩
 intro a
 induction a with
 |nil=>intro b;cases b<;>simp
 |cons x a ih=>
  intro b
  cases b with
  |nil=>simp
  |cons y b=>
   have:=ih b
   simp only[eP,List.cons_lt_cons_iff,hi,he]
   rw[decide_eq_decide] at this⊢
   simp only[this]
theorem Gi (hf:∀a b,a<b→f a<f b) (a b:List Nat):AF (a.map f) (b.map f)=AF a b:=by
 unfold AF
 simp only[eM,eM,X8 hf]
end
section
open PySem PySem.W PyProof.Rows
noncomputable def Dr (s b:List Nat):Int:=((List.range (b.length+1)).find? fun i=>s.isPrefixOf (b.drop i)).elim (-1) fun i=>(i:Int)
theorem ID {b s:List Nat}(hi:i≤b.length):StrLaws.At (tx b) (tx s) (tx b).length i↔s.isPrefixOf (b.drop i)=true:=by
 unfold StrLaws.At
 rw[StrLaws.subAt_eq,Av,Av,List.isPrefixOf_iff_prefix,List.prefix_iff_eq_take,beq_iff_eq]
 refine(?_:i+s.length≤b.length∧(b.drop i).take s.length=s↔_)
 constructor
 ·exact fun h=>h.2.symm
 ·intro h
  refine⟨?_,h.symm⟩
  have:=congrArg List.length h
  rw[eZ,List.length_drop] at this
  lia
theorem Jb (b s:List Nat):BD b s=Dr s b:=by
 unfold BD Dr
 rcases find_whole (tx b) (tx s) with ⟨h1,h2⟩|⟨i,h1,h2,h3⟩
 ·rw[h1,List.find?_eq_none.mpr fun i hi q=>h2 i ((ID (ex (List.mem_range.mp hi))).mpr q)]
  rfl
 ·have hi:i≤b.length:=eb (Nat.le_add_right _ _) (Av b▸h2.1)
  rw[h1,List.find?_range_eq_some.mpr ⟨(ID hi).mp h2,List.mem_range.mpr (Nat.lt_succ_of_le hi),fun j hj=>(Bool.not_eq_true' _).mpr ((Bool.not_eq_true _).mp fun q=>h3 j hj ((ID (eb (ec hj) hi)).mpr q))⟩]
  rfl
theorem Lg (b s:List Nat):Txt.contains (tx b) (tx s)=decide (0≤Dr s b):=by
 rw[←Jb]
 delta BD Txt.contains Txt.find
 cases Builtin.Str.occurrences (tx b) (tx s) 0 (tx b).length 1 with
 |nil=>rfl
 |cons i l=>exact(eU (er i)).symm
theorem Oq (hi:∀a b,f a=f b→a=b) (s:List Nat):∀b:List Nat,(s.map f).isPrefixOf (b.map f)=s.isPrefixOf b:=by
 induction s with
 |nil=>exact fun _=>rfl
 |cons x s ih=>
  intro b
  cases b with
  |nil=>rfl
  |cons y b=>
   simp only[eP,eP,List.isPrefixOf,List.isPrefixOf,ih]
   exact congrArg (·&& _) (Bool.eq_iff_iff.mpr ((beq_iff_eq).trans (Iff.trans ⟨hi x y,congrArg f⟩ beq_iff_eq.symm)))
theorem Hz (hi:∀a b,f a=f b→a=b) (s b:List Nat):Dr (s.map f) (b.map f)=Dr s b:=by
 unfold Dr
 rw[eM]
 exact congrArg (fun p=>Option.elim (List.find? p _) _ _) (funext fun i=>by rw[←List.map_drop,Oq hi])
end
section
open PySem PySem.W PyProof.Rows
noncomputable def DX (a b:List Nat):Nat×Int×Nat:=GU (fun size i=>Dr ((a.drop i).take size) b) a.length (min a.length b.length)
theorem XQ (a b:List Nat):Cd a b=DX a b:=congrArg (fun g=>GU g _ _) (funext fun _=>funext fun _=>Jb b _)
noncomputable def D4 (c:Nat):List Nat→Nat→List Nat
 |[],_=>[]
 |x::r,i=>match Nat.beq x c with
  |true=>i::D4 c r (i+1)
  |false=>D4 c r (i+1)
theorem Op (c d:Nat):∀(l:List Nat) (i:Nat),D4 c (l++[d]) i=D4 c l i++if d=c then[i+l.length] else[]
 |[],i=>by
  refine(?_:(match Nat.beq d c with|true=>[i]|false=>[])=[]++_)
  cases h:Nat.beq d c with
  |true=>exact(if_pos (Nat.eq_of_beq_eq_true h)).symm
  |false=>exact(if_neg (Nat.ne_of_beq_eq_false h)).symm
 |x::l,i=>by
  rw[List.cons_append,D4,D4,Op c d l,List.length_cons,show i+1+l.length=i+(l.length+1) by exact Nat.add_right_comm _ _ _]
  cases Nat.beq x c<;>rfl
theorem Zy (c:Nat) (l:List Nat):Ba l c=D4 c l 0:=by
 have:∀l:List Nat,Ba l.reverse c=D4 c l.reverse 0:=fun l=>by
  induction l with
  |nil=>rfl
  |cons d l ih=>rw[List.reverse_cons,Oo,Op,ih,Nat.zero_add]
 have:=this l.reverse
 rwa [List.reverse_reverse] at this
noncomputable def I4 (a b:List Nat):Int→Int→Int→Int→Option (Int×Int×Int):=I8 (fun i=>(Be a i).map fun c=>D4 c b 0) (DN a b) (FO b)
theorem FH (a b:List Nat) (alo ahi blo bhi:Int):B1 a b alo ahi blo bhi=I4 a b alo ahi blo bhi:=
 congrArg (fun h=>I8 h _ _ _ _ _ _) (funext fun i=>congrArg (fun g=>Option.map g (Be a i)) (funext fun c=>Zy c b))
noncomputable def Eo (text wd:List Nat):List Nat:=if 0≤Dr wd text then wd else wd.dropLast
theorem Nv (text wd:List Nat):A9 text wd=Eo text wd:=by
 unfold A9 Eo
 rw[Lg]
 simp only[decide_eq_true_eq]
noncomputable def LG (text wd:List Nat):Bool:=decide (I4 wd text 0 wd.length 0 text.length=some (0,Dr (Eo text wd) text,((Eo text wd).length:Int)))
noncomputable def LJ (text wd:List Nat):Bool:=decide (I4 wd text 1 wd.length 1 ((text.length:Int) - 1)=some (((DX (wd.drop 1) ((text.drop 1).dropLast)).1:Int)+1,(DX (wd.drop 1) ((text.drop 1).dropLast)).2.1+1,((DX (wd.drop 1) ((text.drop 1).dropLast)).2.2:Int)))
noncomputable def GS (text alpha:List Nat):Nat→List (List Nat)→List (List Nat)→List (List Nat)→Option (List (List Nat)×List (List Nat)):=
 Dv (Fh AF) id List.length (LG text) (fun wd=>decide (Eo text wd=wd)) (fun wd=>decide (0≤Dr (wd.drop 1) text)) (LJ text) fun wd r=>alpha.foldl (fun its c=>DC AF its (wd++[c])) r
theorem Nz {α β ω ψ:Type}{pop:List α→Option (α×List α)}{wd:α→ω}{sz:ω→Nat}{f1 hd cn f2:ω→Bool}{push:ω→List α→List α}{pop':List β→Option (β×List β)}{wd':β→ψ}{sz':ψ→Nat}{f1' hd' cn' f2':ψ→Bool}{push':ψ→List β→List β}(e:α→β) (g:ω→ψ)
  (hp:∀its,pop' (its.map e)=(pop its).map fun p=>(e p.1,p.2.map e)) (hw:∀a,wd' (e a)=g (wd a)) (hs:∀w,sz' (g w)=sz w) (h1:∀w,f1' (g w)=f1 w) (hh:∀w,hd' (g w)=hd w) (hc:∀w,cn' (g w)=cn w) (h2:∀w,f2' (g w)=f2 w) (hq:∀w r,push' (g w) (r.map e)=(push w r).map e) (k:Nat):
  ∀{its asked lack R},Dv pop wd sz f1 hd cn f2 push k its asked lack=some R→Dv pop' wd' sz' f1' hd' cn' f2' push' k (its.map e) (asked.map g) (lack.map g)=some (R.1.map g,R.2.map g):=by
 induction k with
 |zero=>intro _ _ _ _ h;cases h
 |succ k ih=>
  intro its asked lack R h
  refine And.elim (fun hl h=>?_) (CY h)
  have sn:∀(l:List ω) w,(l++[w]).map g=l.map g++[g w]:=fun l w=>eQ
  have hl':decide ((its.map e).length<1000)=true:=(eM e).symm▸hl
  refine(congrArg (fun b=>bif b then _ else _) hl').trans ?_
  refine(congrArg (fun o=>Option.elim o _ _) (hp its)).trans ?_
  cases hx:pop its with
  |none=>
   replace h:=(hx)▸h
   obtain⟨he,h⟩:=CY h
   cases its with
   |nil=>cases h;rfl
   |cons _ _=>cases he
  |some p=>
   replace h:=(hx)▸h
   have go:∀{o f h c i:Bool}{a b d a' b' d':Option (List ω×List ω)}{x y z:Option (List ψ×List ψ)},GV o f h c i a b d=some R→(a=some R→x=some (R.1.map g,R.2.map g))→(b=some R→y=some (R.1.map g,R.2.map g))→(d=some R→z=some (R.1.map g,R.2.map g))→GV o f h c i x y z=some (R.1.map g,R.2.map g):=fun e ha hb hd=>by
    cases NH e with
    |a h1 h2 h3 e=>rw[h1,h2,h3];exact ha e
    |b h1 h2 h3 h4 h5 e=>simp only[h1,h2,h3,h4,h5];exact hb e
    |d h1 h2 h3 h4 e=>rw[h1,h2,h3,h4];exact hd e
   refine(?_:GV (decide (sz' (wd' (e p.1))<100) && (decide ((p.2.map e).length<1000) && (decide ((asked.map g).length<1000) && decide ((lack.map g).length<1000)))) _ _ _ _ (Dv _ _ _ _ _ _ _ _ k (push' (wd' (e p.1)) (p.2.map e)) (asked.map g++[wd' (e p.1)]) (lack.map g)) (Dv _ _ _ _ _ _ _ _ k (p.2.map e) (asked.map g++[wd' (e p.1)]) (lack.map g++[wd' (e p.1)])) (Dv _ _ _ _ _ _ _ _ k (p.2.map e) (asked.map g++[wd' (e p.1)]) (lack.map g))=_)
   simp only[hw,hs,h1,hh,hc,h2,hq,eM,eM,eM,←sn,←sn]
   exact go (a':=none) (b':=none) (d':=none) h ih ih ih
theorem ZF (r:List (List Nat)) (wd:List Nat) (c:Nat):By (r.map eW) ((wd.length:Int)+1,tx (wd++[c]))=(DC AF r (wd++[c])).map eW:=by
 have:((wd.length:Int)+1,tx (wd++[c]))=eW (wd++[c]):=by unfold eW;rw[eO];rfl
 rw[this];exact H1 GW ..
theorem Nw (wd:List Nat):∀(alpha:List Nat) (r:List (List Nat)),C6 alpha wd (r.map eW)=(alpha.foldl (fun its c=>DC AF its (wd++[c])) r).map eW
 |[],r=>rfl
 |c::alpha,r=>by
  refine(?_:C6 alpha wd (By (r.map eW) _)=_)
  simp only[ZF,Nw wd alpha]
  rfl
theorem Xr {its:List (List Nat)}{R:List (List Nat)×List (List Nat)}(h:GS text alpha k its asked lack=some R):Er text alpha k (its.map eW) asked lack=some R:=by
 have:=Nz (e:=eW) (g:=id) (pop':=Cf) (wd':=fun t:Itm=>cl t.2) (sz':=List.length) (push':=C6 alpha) (HZ GW) (fun _=>rfl) (fun _=>rfl)
  (f1':=fun wd=>decide (B1 wd text 0 wd.length 0 text.length=some (0,BD text (A9 text wd),((A9 text wd).length:Int)))) (fun w=>by rw[id,Nv,Jb,FH];rfl)
  (hd':=fun wd=>decide (A9 text wd=wd)) (fun w=>by rw[id,Nv])
  (cn':=fun wd=>Txt.contains (tx text) (tx (wd.drop 1))) (fun w=>Lg ..)
  (f2':=fun wd=>decide (B1 wd text 1 wd.length 1 ((text.length:Int) - 1)=some (((Cd (wd.drop 1) ((text.drop 1).dropLast)).1:Int)+1,(Cd (wd.drop 1) ((text.drop 1).dropLast)).2.1+1,((Cd (wd.drop 1) ((text.drop 1).dropLast)).2.2:Int)))) (fun w=>by rw[id,XQ,FH];rfl) (fun w r=>Nw w alpha r) k h
 rwa [List.map_id,List.map_id,List.map_id,List.map_id] at this
theorem Hj (f:Nat→Nat) (l:List Nat) (i:Int):Be (l.map f) i=(Be l i).map f:=by
 unfold Be
 split
 ·rw[List.getElem?_map]
 ·rfl
section
variable (hi:∀a b,f a=f b→a=b)
include hi
theorem Zz (b:List Nat) (c:Nat):Ba (b.map f) (f c)=Ba b c:=by
 unfold Ba
 rw[eM]
 refine List.filter_congr fun i _=>?_
 refine(List.getElem?_map)▸?_
 cases b[i]? with
 |none=>rfl
 |some x=>
  rw[Bool.eq_iff_iff,beq_iff_eq,beq_iff_eq]
  exact⟨fun h=>congrArg some (hi _ _ (ed h)),fun h=>congrArg some (congrArg f (ed h))⟩
theorem L6 (a b:List Nat) (alo ahi blo bhi:Int):B1 (a.map f) (b.map f) alo ahi blo bhi=B1 a b alo ahi blo bhi:=by
 have e1:ET (a.map f) (b.map f)=ET a b:=funext fun i=>by
  unfold ET
  rw[Hj]
  cases Be a i with
  |none=>rfl
  |some c=>exact congrArg some (Zz hi b c)
 have e2:DN (a.map f) (b.map f)=DN a b:=funext fun i=>funext fun j=>by
  unfold DN
  rw[Hj,Hj]
  cases Be b j with
  |none=>rfl
  |some y=>cases Be a i with
   |none=>rfl
   |some x=>exact congrArg some (decide_eq_decide.mpr ⟨hi x y,congrArg f⟩)
 have e3:FO (b.map f)=FO b:=funext fun j=>by unfold FO;rw[Hj,Option.isSome_map]
 unfold B1
 rw[e1,e2,e3]
theorem XO (a b:List Nat):DX (a.map f) (b.map f)=DX a b:=by
 unfold DX
 simp only[eM,eM]
 exact congrArg (fun g=>GU g _ _) (funext fun size=>funext fun i=>by rw[←List.map_drop,←List.map_take,Hz hi])
theorem M4 (text wd:List Nat):Eo (text.map f) (wd.map f)=(Eo text wd).map f:=by
 unfold Eo
 rw[Hz hi]
 split
 ·rfl
 ·rw[List.map_dropLast]
theorem map_inj {a b:List Nat}(h:a.map f=b.map f):a=b:=by
 induction a generalizing b with
 |nil=>cases b with|nil=>rfl|cons=>cases h
 |cons x a ih=>cases b with
  |nil=>cases h
  |cons y b=>
   rw[eP,eP] at h
   injection h with h1 h2
   rw[hi _ _ h1,ih h2]
end
theorem Xo (hf:∀a b,a<b→f a<f b) (hi:∀a b,f a=f b→a=b) {its:List (List Nat)}{R:List (List Nat)×List (List Nat)}(h:GS text alpha k its asked lack=some R):
  GS (text.map f) (alpha.map f) k (its.map (List.map f)) (asked.map (List.map f)) (lack.map (List.map f))=some (R.1.map (List.map f),R.2.map (List.map f)):=by
 have e3:∀wd:List Nat,DX ((wd.map f).drop 1) (((text.map f).drop 1).dropLast)=DX (wd.drop 1) ((text.drop 1).dropLast):=fun wd=>by rw[←List.map_drop,←List.map_drop,←List.map_dropLast,XO hi]
 refine Nz (wd:=id) (wd':=id) (List.map f) (List.map f) (HZ (Gi hf)) (fun _=>rfl) (fun _=>eM f) (fun w=>?_) (fun w=>?_) (fun w=>?_) (fun w=>?_) (fun w r=>?_) k h
 ·unfold LG;rw[←FH,←FH,eM,eM,L6 hi,M4 hi,Hz hi,eM]
 ·rw[M4 hi];exact decide_eq_decide.mpr ⟨map_inj hi,congrArg _⟩
 ·rw[←List.map_drop,Hz hi]
 ·unfold LJ;rw[e3,←FH,←FH,eM,eM,L6 hi]
 ·clear h
  induction alpha generalizing r with
  |nil=>rfl
  |cons c l ih=>
   simp only[eP,List.foldl_cons,List.foldl_cons,show w.map f++[f c]=(w++[c]).map f from(eQ (l₂:=[c])).symm,H1 (Gi hf),ih]
end
section
open PySem PySem.W PyProof.Rows
noncomputable abbrev FA:=Bool×List (Nat×Nat)
inductive BY {α β:Type}(R:α→β→Prop):List α→List β→Prop
 |nil:BY R [] []
 |cons {a b as bs:_}:R a b→BY R as bs→BY R (a::as) (b::bs)
theorem BY.len {α β:Type}{R:α→β→Prop}{as:List α}{bs:List β}(h:BY R as bs):as.length=bs.length:=by
 induction h with
 |nil=>rfl
 |cons _ _ ih=>rw[List.length_cons,List.length_cons,ih]
def EI (al:List Nat) (c:Nat) (it:FA):Prop:=∀d ∈ al,((it.2.any fun p=>decide (p.1≤d) && decide (d≤p.2)) !=it.1)=(d==c)
theorem NB (a b:Nat):leB (ch a) (ch b)=decide (a≤b):=by
 unfold leB ch
 refine(?_:(!decide ([b]<[a]))=_)
 rw[Bool.eq_iff_iff,Bool.not_eq_true',decide_eq_false_iff_not,decide_eq_true_eq,List.cons_lt_cons_iff]
 exact⟨fun h=>Nat.le_of_not_lt fun q=>h (.inl q),fun h q=>q.elim (fun q=>absurd h (Nat.not_le_of_lt q)) fun q=>absurd q.2 (List.lt_irrefl _)⟩
theorem Ww (ps:List (Nat×Nat)) (c:Nat):C5 (ps.map FX) (ch c)=ps.any fun p=>decide (p.1≤c) && decide (c≤p.2):=by
 unfold C5
 rw[List.any_map]
 congr 1
 funext p
 refine(?_:(leB (ch p.1) (ch c) && leB (ch c) (ch p.2))=_)
 rw[NB,NB]
theorem Ue {its:List FA}(h:BY (EI al) wd its) {name:List Nat}(hn:∀d ∈ name,d ∈ al):∀j,Co name (its.map Bq) j=wd.isPrefixOf (name.drop j):=by
 induction h with
 |nil=>intro j;rfl
 |cons hj _ ih=>
  intro j
  rename_i c it wd its _
  obtain⟨b,ps⟩:=it
  refine(?_:Co name ((b,ps.map FX)::its.map Bq) j=_)
  rw[Co]
  cases hd:name[j]? with
  |none=>rw[List.drop_of_length_le (List.getElem?_eq_none_iff.mp hd)];rfl
  |some d=>
   dsimp only
   rw[EV hd,List.isPrefixOf,ih,Ww]
   have:=hj d (hn d (List.mem_of_getElem? hd))
   dsimp only at this
   rw[show(c==d)=(d==c) by rw[Bool.eq_iff_iff,beq_iff_eq,beq_iff_eq];exact eq_comm,←this]
   cases (ps.any fun p=>decide (p.1≤d) && decide (d≤p.2))<;>cases b<;>simp
noncomputable def E1 (wd name:List Nat):Bool:=decide (wd.length≤name.length) && wd.isPrefixOf (name.drop (name.length - wd.length))
theorem dh {its:List FA}(h:BY (EI al) wd its) {name:List Nat}(hn:∀d ∈ name,d ∈ al):CI (its.map Bq) (tx name)=E1 wd name:=by
 unfold CI E1
 rw[eM,←h.len,Av]
 by_cases hl:wd.length≤name.length
 ·rw[eU hl,Bool.true_and,Bool.true_and]
  unfold Em
  rw[eM,←h.len,Av,if_neg (by lia),show((name.length:Int) - wd.length).toNat=name.length - wd.length by exact Int.toNat_sub _ _]
  exact Ue h hn _
 ·rw[eV hl];rfl
noncomputable def D3 (lack:List (List Nat)) (name:List Nat):Bool:=lack.all fun wd=> !E1 wd name
theorem Ze {bars:List (List FA)}(h:BY (BY (EI al)) lack bars) {name:List Nat}(hn:∀d ∈ name,d ∈ al):CN (bars.map fun its=>its.map Bq) name=D3 lack name:=by
 induction h with
 |nil=>rfl
 |cons hj _ ih=>
  refine(?_:(!CI _ _ && CN _ name)=(!E1 _ name && D3 _ name))
  rw[dh hj hn,ih]
noncomputable def E9 (lack:List (List Nat)) (alpha wd:List Nat):List (List Nat):=(alpha.filter fun c=>D3 lack (wd++[c])).map fun c=>wd++[c]
noncomputable def HF (lack:List (List Nat)) (alpha:List Nat):Nat→List (List Nat)→List (List Nat)→Option (List (List Nat)):=
 DR (Fh AF) id (fun w=>decide (w.length<100) && w.all fun d=>alpha.contains d) (E9 lack alpha) (fun a b=>decide (a=b)) (fun its l0=>Fi AF (its.set 0 l0) l0) fun ls r=>ls.foldl (DC AF) r
theorem MT {α β ω ψ:Type}{pop:List α→Option (α×List α)}{wd:α→ω}{ok:ω→Bool}{lg:α→List α}{eq:α→α→Bool}{rep:List α→α→List α}{push:List α→List α→List α}{pop':List β→Option (β×List β)}{wd':β→ψ}{ok':ψ→Bool}{lg':β→List β}{eq':β→β→Bool}{rep':List β→β→List β}{push':List β→List β→List β}(e:α→β) (g:ω→ψ)
  (hp:∀its,pop' (its.map e)=(pop its).map fun p=>(e p.1,p.2.map e)) (hw:∀a,wd' (e a)=g (wd a)) (ho:∀w,ok w=true→ok' (g w)=true) (hg:∀t,ok (wd t)=true→lg' (e t)=(lg t).map e) (he:∀a b,eq a b=true→eq' (e a) (e b)=true) (hr:∀its l,rep' (its.map e) (e l)=(rep its l).map e) (hs:∀ls r,push' (ls.map e) (r.map e)=(push ls r).map e) (k:Nat):
  ∀{its grown R},DR pop wd ok lg eq rep push k its grown=some R→DR pop' wd' ok' lg' eq' rep' push' k (its.map e) (grown.map g)=some (R.map g):=by
 induction k with
 |zero=>intro _ _ _ h;cases h
 |succ k ih=>
  intro its grown R h
  obtain⟨hl,h⟩:=MU h
  have hl':(decide ((its.map e).length<1000) && decide ((grown.map g).length<1000))=true:=(eM e).symm▸(eM g).symm▸hl
  have hn:((its.map e).isEmpty||decide ((grown.map g).length≥40))=(its.isEmpty||decide (grown.length≥40)):=by rw[eM];cases its<;>rfl
  have h0:(its.map e)[0]? =(its[0]?).map e:=List.getElem?_map
  refine(congrArg (fun b=>bif b then _ else _) hl').trans ?_
  refine(congrArg (fun b=>bif b then _ else _) hn).trans ?_
  refine(congrArg (fun o=>bif _ then _ else Option.elim o _ _) h0).trans ?_
  have sn:∀t,(grown++[wd t]).map g=grown.map g++[wd' (e t)]:=fun t=>by rw[eQ,hw];rfl
  cases h with
  |fin q r=>rw[q,r];rfl
  |pop q ht hk hx hy hz h=>
   rename_i t a r
   have q0:=ih h
   rw[sn] at q0
   rw[q,ht]
   refine(?_:(bif ok' (wd' (e t)) then _ else _)=_)
   refine(congrArg (fun b=>bif b then _ else _) ((congrArg ok' (hw t)).trans (ho _ hk))).trans ?_
   refine(?_:(match lg' (e t) with|[]=>_|l0::ls=>_)=_)
   rw[hg t hk,hx]
   refine(?_:(pop' (its.map e)).elim _ _=_)
   rw[hp,hy]
   exact(congrArg (fun b=>bif b then _ else _) (he _ _ hz)).trans q0
  |rep q ht hk hx h=>
   rename_i t l0 ls
   have q0:=ih h
   rw[sn,←hs,←hr] at q0
   rw[q,ht]
   refine(?_:(bif ok' (wd' (e t)) then _ else _)=_)
   refine(congrArg (fun b=>bif b then _ else _) ((congrArg ok' (hw t)).trans (ho _ hk))).trans ?_
   refine(?_:(match lg' (e t) with|[]=>_|l0::ls=>_)=_)
   rw[hg t hk,hx]
   exact q0
theorem Ux (ls:List (List Nat)):∀r:List (List Nat),(ls.map eW).foldl By (r.map eW)=(ls.foldl (DC AF) r).map eW:=by
 induction ls with
 |nil=>intro r;rfl
 |cons l ls ih=>intro r;rw[eP,List.foldl_cons,List.foldl_cons,←ih];exact congrArg (fun l=>List.foldl By l _) (H1 GW r l)
theorem XX {bars:List (List FA)}(h:BY (BY (EI al)) lack bars) (hn:∀d ∈ wd,d ∈ al):grLong (bars.map fun its=>its.map Bq) al wd (wd.length:Int)=(E9 lack al wd).map eW:=by
 unfold grLong E9
 rw[e8,List.filter_congr fun c hc=>Ze h (name:=wd++[c]) fun d hd=>by
  rcases List.mem_append.mp hd with q|q
  ·exact hn d q
  ·rw[List.mem_singleton.mp q];exact hc]
 refine List.map_congr_left fun c _=>?_
 refine(?_:_=eW (wd++[c]))
 unfold eW
 rw[eO]
 rfl
theorem VO {bars:List (List FA)}(h:BY (BY (EI al)) lack bars) {R:List (List Nat)}{its:List (List Nat)}(e:HF lack al k its grown=some R):E5 (bars.map fun its=>its.map Bq) al k (its.map eW) grown=some R:=by
 have:=MT (α:=List Nat) (ω:=List Nat) (e:=eW) (g:=id) (wd:=id) (lg:=E9 lack al) (ok:=fun w=>decide (w.length<100) && w.all fun d=>al.contains d) (rep:=fun its l0=>Fi AF (its.set 0 l0) l0) (pop':=Cf) (wd':=fun t:Itm=>cl t.2) (ok':=fun w=>decide (w.length<100)) (lg':=fun t:Itm=>grLong (bars.map fun its=>its.map Bq) al (cl t.2) t.1) (eq':=fun a b=>decide (a=b)) (rep':=fun its l0=>Ew (its.set 0 l0) l0) (push':=fun ls r=>ls.foldl By r)
  (HZ GW) (fun _=>rfl) (fun w q=>(fi q).1) (fun t q=>XX (wd:=t) h fun d hd=>List.contains_iff_mem.mp (fk (fi q).2 d hd)) (fun a b q=>eU (congrArg eW (ee q)))
  (fun its l=>by rw[←List.map_set];exact JT GW ..) Ux k e
 rwa [List.map_id,List.map_id] at this
section
variable (hi:∀a b,f a=f b→a=b)
include hi
theorem Tf (wd name:List Nat):E1 (wd.map f) (name.map f)=E1 wd name:=by
 unfold E1
 rw[eM,eM,←List.map_drop,Oq hi]
theorem Zb (lack:List (List Nat)) (name:List Nat):D3 (lack.map (List.map f)) (name.map f)=D3 lack name:=by
 unfold D3
 rw[List.all_map]
 congr 1
 funext wd
 exact congrArg _ (Tf hi wd name)
theorem XW (lack:List (List Nat)) (alpha wd:List Nat):E9 (lack.map (List.map f)) (alpha.map f) (wd.map f)=(E9 lack alpha wd).map (List.map f):=by
 have hs:∀c,wd.map f++[f c]=(wd++[c]).map f:=fun c=>by rw[eQ];rfl
 unfold E9
 rw[List.filter_map,e8,e8]
 have:((fun c=>D3 (lack.map (List.map f)) (wd.map f++[c]))∘f)=fun c=>D3 lack (wd++[c]):=by
  funext c
  refine(?_:D3 _ (wd.map f++[f c])=_)
  rw[hs,Zb hi]
 rw[this]
 exact List.map_congr_left fun c _=>hs c
end
theorem VJ (hf:∀a b,a<b→f a<f b) (hi:∀a b,f a=f b→a=b) {its R:List (List Nat)}(h:HF lack alpha k its grown=some R):HF (lack.map (List.map f)) (alpha.map f) k (its.map (List.map f)) (grown.map (List.map f))=some (R.map (List.map f)):=by
 refine MT (wd:=id) (wd':=id) (List.map f) (List.map f) (HZ (Gi hf)) (fun _=>rfl) (fun w q=>?_) (fun t _=>XW hi _ _ _) (fun a b q=>eU (congrArg _ (ee q))) (fun its l=>by rw[←List.map_set,JT (Gi hf)]) (fun ls r=>?_) k h
 ·obtain⟨q1,q2⟩:=fi q
  refine Bool.and_eq_true_iff.mpr ⟨(eM f).symm▸q1,List.all_eq_true.mpr fun d hd=>?_⟩
  obtain⟨c,hc,rfl⟩:=List.mem_map.mp hd
  exact List.contains_iff_mem.mpr (List.mem_map.mpr ⟨c,List.contains_iff_mem.mp (fk q2 c hc),rfl⟩)
 ·induction ls generalizing r with
  |nil=>rfl
  |cons l ls ih=>rw[eP,List.foldl_cons,List.foldl_cons,H1 (Gi hf),ih]
end
section
open PySem PySem.W PyProof.Rows
noncomputable def Nc (x:List Nat):List (List Nat)→List (List Nat)
 |[]=>[x]
 |y::r=>if AF x y=true then x::y::r else if AF y x=true then y::Nc x r else y::r
noncomputable def sortW:List (List Nat)→List (List Nat)
 |[]=>[]
 |x::r=>Nc x (sortW r)
noncomputable def Ia:List (List Nat)→Bool
 |[]=>true
 |a::r=>r.all (fun b=>AF a b) && Ia r
theorem Pa {l:List (List Nat)}(h:Ia l=true):l.Pairwise fun a b=>AF a b=true:=by
 induction l with
 |nil=>exact .nil
 |cons a r ih=>
  have h:=fi h
  exact .cons (fun b hb=>fk h.1 b hb) (ih h.2)
theorem YN {l:List (List Nat)}(h:l.Pairwise fun a b=>AF a b=true):l.Nodup:=
 h.imp fun{a b} q e=>by subst e;replace q:=(Ig)▸q;cases q
theorem KS (f:Nat→Nat) (ps:List (List Nat)) (al:List Nat):ES (ps.map (List.map f)) (al.map f)=(ES ps al).map (List.map f):=by
 unfold ES
 simp only[eP,List.map_flatMap,List.flatMap_map]
 congr 2
 funext p
 simp only[e8,e8]
 exact List.map_congr_left fun c _=>by simp
theorem cV (f:Nat→Nat) (T:List Nat):CS (T.map f)=(CS T).map (List.map f):=by
 unfold CS
 rw[eM,List.map_flatMap]
 congr 1
 funext i
 unfold subAt
 rw[e8,eM]
 exact List.map_congr_left fun d _=>by simp
theorem PD:CV=Eh:=by decide+kernel
theorem dA: (CV.all fun al=>al.all fun c=>[0,1,2,3].all fun f=>decide ((Ao (An al f c)).length≤30) && decide (al.length=2))=true:=by decide+kernel
theorem UF (k:Int):k.fmod 4 ∈ ([0,1,2,3]:List Int):=by
 have h1:=Int.fmod_nonneg_of_pos k (by decide:(0:Int)<4)
 have h2:=Int.fmod_lt_of_pos k (by decide:(0:Int)<4)
 simp only[List.mem_cons,List.not_mem_nil,or_false]
 lia
theorem Ip {P:List Nat→Nat→Int→Bool}(h:(CV.all fun al=>al.all fun c=>[0,1,2,3].all fun f=>P al c f)=true) (ha:al ∈ CV) {c:Nat}(hc:c ∈ al) {f:Int}(hf:f ∈ ([0,1,2,3]:List Int)):P al c f=true:=
 fk (fk (fk h al ha) c hc) f hf
theorem Z0 (ha:al ∈ CV) (wd:List Nat):∀(k:Int),(∀d ∈ wd,d ∈ al)→(∀p ∈ BU al k wd,Eu p∧p.length≤7∧(Ao p).length≤30)∧∃its,Steps ((BU al k wd).map Ao) its∧BY (EI al) wd its:=by
 induction wd with
 |nil=>exact fun _ _=>⟨fun _ h=>(nomatch h),[],.nil,.nil⟩
 |cons c wd ih=>
  intro k h
  have hc:=h c (eI ..)
  have hf:=UF k
  refine And.elim (fun h1 q=>Ag q fun its h2 h3=>?_) (ih (k+1) fun d hd=>h d (eu _ hd))
  refine AX (bw al ha c hc (k.fmod 4) hf) fun it g1 g2 _=>?_
  have t:=fi (Ip dA ha hc hf)
  exact⟨fun p hp=>(fj hp).elim (fun e=>e▸⟨⟨Ip Zq ha hc hf,Ip Zr ha hc hf⟩,eb (MG al (k.fmod 4) c) (Nat.add_le_add_right (eH (ee t.2)) 5),ee t.1⟩) fun hp=>h1 p hp,
   it::its,.cons g1 h2,.cons (fun d hd=>beq_iff_eq.mp (fk g2 d hd)) h3⟩
theorem Rr (ha:al ∈ CV) (tot:Int) (lack:List (List Nat)):∀(k0:Nat),(∀wd ∈ lack,(∀d ∈ wd,d ∈ al)∧0<wd.length∧wd.length<20)→∃bars,(∀k wd its,lack[k]? =some wd→bars[k]? =some its→WordF al tot (k0+k) wd its)∧BY (BY (EI al)) lack bars:=by
 induction lack with
 |nil=>exact fun _ _=>Ak ([]) (fun _ _ _ h=>(nomatch h)) .nil
 |cons wd lack ih=>
  intro k0 h
  refine Bj (h wd (eI ..)) fun h1 h2 h3=>?_
  refine Ag (ih (k0+1) fun w hw=>h w (eu _ hw)) fun bars g1 g2=>?_
  refine And.elim (fun r1 q=>Ag q fun its r2 r3=>?_) (Z0 ha wd (tot+k0) h1)
  refine Ak (its::bars) (fun k w is e1 e2=>?_) (.cons r3 g2)
  cases k with
  |zero=>
   cases e1;cases e2
   have hl:=GK al wd (tot+k0)
   have b1:=I2 (b:=7) fun l hl=>(r1 l hl).2.1
   have b2:=I2 (ls:=(BU al (tot+k0) wd).map Ao) (b:=30) fun l hl=>(List.mem_map.mp hl).elim fun p q=>q.2▸(r1 p q.1).2.2
   rw[eM] at b2
   rw[hl] at b1 b2
   refine⟨fun p hp=>(r1 p hp).1,h3,h2,Z1 r2 19 [] (by rw[eM,hl];exact ex ‹_›),?_,?_⟩
   ·simp only[Nat.add_zero];lia
   ·simp only[Nat.add_zero];lia
  |succ k=>exact(Nat.add_right_comm k0 1 k▸g1 k w is e1 e2:WordF al tot (k0+k+1) w is)
end
section
open PySem PySem.W PyProof.Rows
noncomputable def RU (al:List Nat) (ss ps:List (List Nat)):Option (List (List Nat)×List (List Nat))→Bool
 |none=>false
 |some r=>decide (Ia ps=true∧Ia r.1=true∧(ES ps al).isPerm r.1=true∧HF r.2 al 200 [[]] []=some ps∧(∀w ∈ ss,w ∈ ps)∧(∀w ∈ ps,w ∈ ss∧w.length≤100)∧(2≤r.1.length∧r.1.length<64)∧(2≤ps.length∧ps.length<64)∧r.2.length<100) &&
   decide ((∀w ∈ r.2,(∀d ∈ w,d ∈ al)∧0<w.length∧w.length<20)∧∀w ∈ r.1,w.length≤1000)
noncomputable def Hn (al T:List Nat):Bool:=RU al (CS T) (sortW (CS T)) (GS T al 200 [[]] [] [])
noncomputable def Gs:Nat→List (List Nat)
 |0=>[[]]
 |n+1=>(Gs n).flatMap fun t=>[0::t,1::t]
noncomputable def BG (al:List Nat) (n:Nat) (p:List Nat):Bool:=(Gs n).all fun t=>Hn al (p++t)
end
section
open PySem PySem.W PyProof.Rows
theorem len0 (h0:al0=[0,1]∨al0=[1,0]):al0.length≤4:=by rcases h0 with rfl|rfl<;>decide
theorem XE {T0:List Nat}(hf:∀a b,a<b→f a<f b) (hi:∀a b,f a=f b→a=b) (e:al=al0.map f) (ha:al ∈ CV) (h0:al0=[0,1]∨al0=[1,0]) (t1:0<T0.length) (t2:T0.length<20) (t3:∀d ∈ T0,d ∈ al0) (h128:∀d ∈ al,d<128) (hc:Hn al0 T0=true) (tot:Int):
  ∃lack ps aps bars K K2,LawF al (T0.map f) tot lack ps aps bars K K2:=by
 unfold Hn at hc
 cases hL:GS T0 al0 200 [[]] [] [] with
 |none=>rw[hL] at hc;cases hc
 |some q=>
  rw[hL] at hc
  have hc:=fi hc
  generalize sortW (CS T0)=ps at hc
  refine SO (ee hc.1) fun srt aS pm c2 s1 s2 ca cp cl=>And.elim (fun c7 c8=>?_) (ee hc.2)
  have srt:=Pa srt
  have aS:=Pa aS
  have pm:=List.isPerm_iff.mp pm
  have mapS:∀{l:List (List Nat)},(l.Pairwise fun a b=>AF a b=true)→(l.map (List.map f)).Pairwise fun a b=>AF a b=true:=fun h=>List.pairwise_map.mpr (h.imp fun q=>by rw[Gi hf];exact q)
  have lm:∀l:List (List Nat),(l.map (List.map f)).length=l.length:=fun _=>eM _
  have im:∀{l:List (List Nat)}{P:List Nat→Prop},(∀w ∈ l,P (w.map f))→∀w ∈ l.map (List.map f),P w:=fun h w hw=>(List.mem_map.mp hw).elim fun w0 q=>q.2▸h w0 q.1
  have id_:∀{w:List Nat},(∀d ∈ w,d ∈ al0)→∀d ∈ w.map f,d ∈ al:=fun h d hd=>(List.mem_map.mp hd).elim fun d0 q=>q.2▸e▸ew (h d0 q.1)
  refine Ag (Rr ha tot (q.2.map (List.map f)) 0 (im fun w hw=>⟨id_ (c7 w hw).1,by rw[eM];exact(c7 w hw).2⟩)) fun bars b1 b2=>?_
  have a2:al.length≤4:=e▸(eM f).symm▸len0 h0
  refine⟨q.2.map (List.map f),ps.map (List.map f),q.1.map (List.map f),bars,200,200,⟨a2,List.all_eq_true.mpr fun d hd=>eU (h128 d hd),by rwa [eM],by rwa [eM],List.all_eq_true.mpr fun d hd=>eU (h128 d (id_ t3 d hd)),
   e▸Xr (its:=[[]]) (Xo hf hi hL),by rw[e,KS];exact pm.map _,by rw[e,KS];exact List.pairwise_map.mpr ((pm.nodup_iff.mpr (YN aS)).imp fun q e=>q (map_inj hi e)),mapS aS,by rw[lm];exact ca.1,by rw[lm];exact ca.2,im fun w hw=>by rw[eM];exact c8 w hw,
   mapS srt,fun y=>?_,by rw[lm];exact cp.1,by rw[lm];exact cp.2,im fun w hw=>by rw[eM];exact(s2 w hw).2,by rw[lm];exact cl,b2.len.symm,fun k wd its e1 e2=>Nat.zero_add k▸b1 k wd its e1 e2,?_⟩⟩
  ·rw[cV,List.mem_map,List.mem_map]
   exact⟨fun h=>h.elim fun a q=>⟨a,(s2 a q.1).1,q.2⟩,fun h=>h.elim fun a q=>⟨a,s1 a q.1,q.2⟩⟩
  ·refine VO (its:=[[]]) b2 ?_
   refine(e)▸?_
   exact VJ hf hi c2
theorem KW:∀{T:List Nat},(∀d ∈ T,d=0∨d=1)→T ∈ Gs T.length
 |[],_=>List.mem_singleton.mpr rfl
 |d::T,h=>by
  dsimp only[List.length_cons,Gs]
  refine List.mem_flatMap.mpr (Ak T (KW fun x hx=>h x (eu _ hx)) ?_)
  rcases h d (eI ..) with rfl|rfl<;>simp
theorem RX {T:List Nat}(hl:T.length=n) (hT:∀d ∈ T,d=0∨d=1) (h:BG al n []=true):Hn al T=true:=by
 have:=fk h T (hl▸KW hT)
 exact this
theorem Ek {p:List Nat}(h0:BG al n (p++[0])=true) (h1:BG al n (p++[1])=true):BG al (n+1) p=true:=by
 refine List.all_eq_true.mpr fun t ht=>?_
 simp only[Gs] at ht
 refine Ag (List.mem_flatMap.mp ht) fun u hu ht=>?_
 simp only[List.mem_cons,List.not_mem_nil,or_false] at ht
 rcases ht with rfl|rfl
 ·have:=fk h0 u hu;rwa [fa] at this
 ·have:=fk h1 u hu;rwa [fa] at this
def Kf:Prop:=∀al,al=[0,1]∨al=[1,0]→∀n,n=4∨n=5∨n=6→BG al n []=true
theorem ND (tot:Int):A5 tot=4∨A5 tot=5∨A5 tot=6:=by
 unfold A5
 have h1:=Int.fmod_nonneg_of_pos tot (by decide:(0:Int)<3)
 have h2:=Int.fmod_lt_of_pos tot (by decide:(0:Int)<3)
 have:tot.fmod 3=0∨tot.fmod 3=1∨tot.fmod 3=2:=by lia
 rcases this with h|h|h<;>rw[h]<;>decide
theorem PF:∀al ∈ Eh,min (al.getD 0 0) (al.getD 1 0)<max (al.getD 0 0) (al.getD 1 0)∧max (al.getD 0 0) (al.getD 1 0)<128∧(al=[min (al.getD 0 0) (al.getD 1 0),max (al.getD 0 0) (al.getD 1 0)]∨al=[max (al.getD 0 0) (al.getD 1 0),min (al.getD 0 0) (al.getD 1 0)]):=by decide+kernel
theorem PC (h:al ∈ Eh):∃lo hi,lo<hi∧hi<128∧(al=[lo,hi]∨al=[hi,lo]):=⟨_,_,PF al h⟩
noncomputable def F8 (lo hi:Nat):Nat→Nat
 |0=>lo
 |n+1=>hi+n
theorem JW {lo hi:Nat}(h:lo<hi):∀a b,a<b→F8 lo hi a<F8 lo hi b
 |0,b+1,_=>by refine(?_:lo<hi+b);exact ea ‹_› (Nat.le_add_right _ _)
 |a+1,b+1,h=>by refine(?_:hi+a<hi+b);lia
theorem ZV {lo hi:Nat}(h:lo<hi) (a b:Nat) (e:F8 lo hi a=F8 lo hi b):a=b:=by
 rcases Nat.lt_trichotomy a b with q|q|q
 ·have:=JW h a b q;lia
 ·exact q
 ·have:=JW h b a q;lia
theorem aL {b:Int}(h0:al0=[0,1]∨al0=[1,0]) (hb:b=0∨b=1):B4 al0 b=0∨B4 al0 b=1:=by
 rcases h0 with rfl|rfl<;>rcases hb with rfl|rfl<;>decide
theorem aM {b:Int}(f:Nat→Nat) (h0:al0=[0,1]∨al0=[1,0]) (hb:b=0∨b=1):B4 (al0.map f) b=f (B4 al0 b):=by
 rcases h0 with rfl|rfl<;>rcases hb with rfl|rfl<;>rfl
theorem We (h0:al0=[0,1]∨al0=[1,0]) (hd:d=0∨d=1):d ∈ al0:=by
 rcases h0 with rfl|rfl<;>rcases hd with rfl|rfl<;>decide
theorem XM (h:k=4∨k=5∨k=6):min k 6=k∧0<k∧k<20:=by
 rcases h with rfl|rfl|rfl<;>decide
theorem XV {lo hi:Nat}(h:al=[lo,hi]∨al=[hi,lo]) (h1:lo<128) (h2:hi<128) (hd:d ∈ al):d<128:=by
 have:d=lo∨d=hi:=by rcases h with rfl|rfl<;>rcases fj hd with e|e<;>first|exact .inl e|exact .inr e|exact .inl (List.mem_singleton.mp e)|exact .inr (List.mem_singleton.mp e)
 exact this.elim (fun e=>e▸h1) fun e=>e▸h2
theorem Zv (H:Kf):Plain:=by
 intro tot al bs hal h6 hb
 refine Bk (PC hal) fun lo hi h1 h2 h3=>?_
 have hex:∃al0:List Nat,(al0=[0,1]∨al0=[1,0])∧al=al0.map (F8 lo hi):=h3.elim (fun e=>⟨[0,1],.inl rfl,e⟩) fun e=>⟨[1,0],.inr rfl,e⟩
 refine Ag hex fun al0 h0 e=>?_
 have hb2:∀{b:Int},b ∈ bs.take (A5 tot)→b=0∨b=1:=fun h=>hb _ (List.mem_of_mem_take h)
 have hT:(bs.take (A5 tot)).map (B4 al)=((bs.take (A5 tot)).map (B4 al0)).map (F8 lo hi):=by
  rw[e8,e]
  exact List.map_congr_left fun b hbm=>aM _ h0 (hb2 hbm)
 have q:=XM (ND tot)
 have hl:((bs.take (A5 tot)).map (B4 al0)).length=A5 tot:=by rw[eM,eZ,h6];exact q.1
 have hd:∀d ∈ (bs.take (A5 tot)).map (B4 al0),d=0∨d=1:=fun d hd=>(List.mem_map.mp hd).elim fun b q=>q.2▸aL h0 (hb2 q.1)
 refine(hT)▸?_
 exact XE (JW h1) (ZV h1) e (PD▸hal) h0 (by rw[hl];exact q.2.1) (by rw[hl];exact q.2.2) (fun d hdm=>We h0 (hd d hdm)) (fun d hdm=>XV h3 (ez h1 h2) h2 hdm) (RX hl hd (H al0 h0 _ (ND tot))) tot
end
section
open PySem PySem.W PyProof.Rows
theorem R3:BG [0,1] 4 []=true:=by decide+kernel
theorem R4:BG [0,1] 4 [0]=true:=by decide+kernel
theorem R7:BG [0,1] 4 [1]=true:=by decide+kernel
theorem R5:BG [0,1] 4 [0,0]=true:=by decide+kernel
theorem R6:BG [0,1] 4 [0,1]=true:=by decide+kernel
theorem R8:BG [0,1] 4 [1,0]=true:=by decide+kernel
theorem R9:BG [0,1] 4 [1,1]=true:=by decide+kernel
theorem Sc:BG [1,0] 4 []=true:=by decide+kernel
theorem Sf:BG [1,0] 4 [0]=true:=by decide+kernel
theorem Si:BG [1,0] 4 [1]=true:=by decide+kernel
theorem Sg:BG [1,0] 4 [0,0]=true:=by decide+kernel
theorem Sh:BG [1,0] 4 [0,1]=true:=by decide+kernel
theorem Sj:BG [1,0] 4 [1,0]=true:=by decide+kernel
theorem Sk:BG [1,0] 4 [1,1]=true:=by decide+kernel
theorem RW:Kf:=fun al ha n hn=>by
 rcases ha with rfl|rfl
 ·rcases hn with rfl|rfl|rfl
  ·exact R3
  ·exact Ek R4 R7
  ·exact Ek (Ek R5 R6) (Ek R8 R9)
 ·rcases hn with rfl|rfl|rfl
  ·exact Sc
  ·exact Ek Sf Si
  ·exact Ek (Ek Sg Sh) (Ek Sj Sk)
theorem plain:Plain:=Zv RW
end
theorem lay_ints {cl:Str→Option Addr}{P:Params}{ord:List DictEntry→List DictEntry}:∀(ns:List Int) (s:Shared),∃vs,layAllW [] cl P ord (ns.map WData.int) s=some (vs,{s with toks:=s.toks+ns.length})∧IntsAre vs ns
 |[],s=>Ak ([]) rfl .nil
 |n::ns,s=>by
  obtain⟨vs,e,h⟩:=lay_ints ns {s with toks:=s.toks+1}
  refine⟨.int n s.toks::vs,?_,.cons n _ h⟩
  rw[eP,layAllW,layW]
  dsimp only
  rw[e]
  simp only[List.length_cons,show s.toks+(ns.length+1)=s.toks+1+ns.length by lia]
theorem WM {xs:List WData}(h:WShape.hasItems [] xs .int=true):∃ns:List Int,xs=ns.map WData.int:=by
 induction xs with
 |nil=>exact⟨[],rfl⟩
 |cons x xs ih=>
  simp only[WShape.hasItems,Bool.and_eq_true] at h
  obtain⟨ns,rfl⟩:=ih h.2
  obtain⟨i,rfl⟩:=hasW_int h.1
  exact⟨i::ns,rfl⟩
theorem Po (w:World):(hF w.params).get? 289=some (tabObj #[]):=by kernel_rfl
theorem Pp (w:World):(hF w.params).get? 395=some (tabObj #[]):=by kernel_rfl
theorem U3:Gl (cx w os) (Str.ofString "law") (.ref 398):=Bp (by kernel_rfl)
theorem tb_nil:tb F qs (tabObj #[]):=AE (#[]) rfl trivial (fun _ _ e=>nomatch e)
theorem ZD {ns:List Int}(h:R0.toRowW.pre.holds R0.toRowW.records {args:=[.list (ns.map WData.int)]}=true):ns.length≤63:=by
 refine Decidable.byContradiction fun hc=>?_
 have hd:decide ((63:Int)<ns.length)=true:=eU (by lia)
 have hv:WTm.value [] (.and (.not (.lt (.lit (.int 63)) (.len (.arg 0)))) (.lit (.bool true))) {args:=[.list (ns.map WData.int)]}=some (.bool false):=by simp[WTm.value,less?,Num.less?,hd]
 have h0:R0.toRowW.pre.holds R0.toRowW.records {args:=[.list (ns.map WData.int)]}=false:=by
  refine(?_:(match WTm.value [] (.and (.not (.lt (.lit (.int 63)) (.len (.arg 0)))) (.lit (.bool true))) {args:=[.list (ns.map WData.int)]} with|some (.bool true)=>true|_=>false)=false)
  rw[hv]
 cases h0.symm.trans h
noncomputable def fz (h:Heap):FM:=fun b=>if b=289∨b=395 then none else h.get? b
theorem Mx {b:Addr}(h1:b≠289) (h2:b≠395):fz h b=h.get? b:=if_neg fun q=>q.elim h1 h2
theorem Y5 (b:Addr) (o:Obj) (q:fz h b=some o):h.get? b=some o:=by
 unfold fz at q
 split at q
 ·contradiction
 ·exact q
theorem XD (os:OsState) (keep:∀b o,(hF w.params).get? b=some o→h.get? b=some o) (g:h.Ns 3 mg) (hmg:mg (Str.ofString "law")=some (.ref a)):a=398:=by
 obtain⟨og,es,ep,g1,g2, -,g4⟩:=U3 (w:=w) (os:=os)
 obtain⟨og2,es2,ep2,k1,k2, -,k4⟩:=g
 cases (keep 3 og g1).symm.trans k1
 cases g2.symm.trans k2
 cases (Eq.symm g4).trans ((k4 (Str.ofString "law")).trans hmg)
 rfl
theorem bu (keep:∀b o,(hF w.params).get? b=some o→s.heap.get? b=some o) (hg:s.gens=#[]) (ht:0<s.toks):St (cx w s.os) (fz s.heap) [(289,tb (fz s.heap) AV),(395,tb (fz s.heap) DD)] s:=
 ⟨⟨⟨Y5,List.forall_mem_cons.mpr ⟨⟨rfl,_,keep _ _ (Po w),tb_nil⟩,List.forall_mem_cons.mpr ⟨⟨rfl,_,keep _ _ (Pp w),tb_nil⟩,fun _ h=>nomatch h⟩⟩,by refine(?_:List.Nodup [289,395]);decide⟩,fun b o (q:(if b=289∨b=395 then none else(hF w.params).get? b)=some o)=>by
  split at q
  ·contradiction
  ·exact(if_neg ‹_›).trans (keep _ _ q),by simp only[hg];exact fun g hg=>by simp at hg,rfl⟩,ht⟩
theorem RV.use {k:Code}{K:Aa}(h:RV c A k F V Q) (m:∀v F' V' W,Le F F'→Sb (W++K) V'→Q v F' W→Q' v F' V'):AM c A k F (V++K) Q':=AA.mono (h K) fun _ _ V' q=>q.elim fun v q=>Ak v q.1 (q.2.2.elim fun W r=>m v _ V' W q.2.1 r.1 r.2)
theorem RD (pl:Plain):Ke:=fun w s₀ s₁ mg mb G hY a o pm cd doc dV kV ho hod hcr hdf hmg hgens args vals as L pre lay reads well low=>by
 have hh:s₀.heap=hF w.params:=congrArg (·.1) hY
 have ht:s₀.toks=1062:=congrArg (·.2) hY
 have hsh:=(pre_splitW pre).1;have hpre:=(pre_splitW pre).2
 obtain⟨d,r,rfl,hd,hr⟩:=hasAllW_cons hsh
 obtain rfl:=hasAllW_nil hr
 obtain⟨xs,rfl,hx⟩:=hasW_list hd
 obtain⟨ns,rfl⟩:=WM hx
 have hlen:=ZD hpre
 obtain⟨ord, -,hl⟩:=L.laid
 refine Ag (lay_ints (cl:=classAt s₀.heap) (P:=w.params) (ord:=ord) ns s₀) fun vs e hi=>?_
 have e1:layAllW [] (classAt s₀.heap) w.params ord [.list (ns.map WData.int)] s₀=some ([.ref s₀.heap.objs.size],{s₀ with toks:=s₀.toks+ns.length,heap:=s₀.heap.push {cls:=.type "list",data:=.seq vs.toArray}}):=by
  rw[layAllW,layW,e];rfl
 have e2:=Prod.mk.inj (ed (hl.symm.trans e1))
 obtain rfl:=e2.1
 have e4:=e2.2
 clear hl e1 e2 e hd hr hx hsh hpre
 have hsc:s₁.heap.get? s₀.heap.objs.size=some {cls:=.type "list",data:=.seq vs.toArray}:=e4▸em _ rfl
 have keep:∀b o,(hF w.params).get? b=some o→s₁.heap.get? b=some o:=fun b o q=>L.keeps b o (hh▸q)
 have h289:=keep _ _ (Po w)
 have h395:=keep _ _ (Pp w)
 cases XD s₁.os keep G.T.g hmg
 have n1:s₀.heap.objs.size≠289:=fun q=>by simp only[q,h289] at hsc;exact nomatch hsc
 have n2:s₀.heap.objs.size≠395:=fun q=>by simp only[q,h395] at hsc;exact nomatch hsc
 refine Run.fu (Run.call (RV.use (K:=[]) (Q':=fun v F' V'=>v= .bool true∧Le (fz s₁.heap) F'∧DI V') (XF (Q:=fun v _ W=>v= .bool true∧DI W) (n:=0) (A:=callerA) (w:=w) (os:=s₁.os) (V:=[]) (F1:=fz s₁.heap) (F2:=fz s₁.heap) pl ⟨by decide,by decide,rfl⟩ (sc:=s₀.heap.objs.size) ⟨_,(Mx n1 n2).trans hsc,0,rfl⟩ hi (by rw[hi.length];exact eb ‹_› (d7 rfl)) (Le.refl _) (Le.refl _) fun F' W h=>⟨rfl,h⟩) fun v F' V' W le sb q=>⟨q.1,le,q.2.elim fun Fx q=>q.elim fun Fy sb2=>⟨Fx,Fy,sb2.trans ((eJ W).symm▸sb)⟩⟩)) (bu keep hgens (by rw[e4];refine(?_:0<s₀.toks+_);lia)) fun v s' F' V' S' q=>?_
 obtain⟨rfl,le,Fx,Fy,sb⟩:=q
 have O:=sb.fit _ _ S'.own
 obtain⟨_,q1,p1,rfl, -⟩:=O.get .head
 obtain⟨_,q2,p2,rfl, -⟩:=O.get (.tail .head)
 have go:∀{b o},b≠289→b≠395→s₁.heap.get? b=some o→s'.heap.get? b=some o:=fun h1 h2 q=>S'.own.fro _ _ (le _ _ ((Mx h1 h2).trans q))
 refine⟨.inl (GM (.bool true) (.bool true) ([]) rfl (fun _=>rfl) (.bool true) (by kernel_rfl) (fun _=>⟨.nil,fun _ h=>nomatch h⟩)),⟨fun b ob q=>?_,fun b ob q=>?_⟩,S'.os,S'.gens⟩<;>by_cases h1:b=289
 ·subst h1
  cases h289.symm.trans q
  exact .inr (.inl ⟨(CC 293 (Hx fc) _ (keep _ _ (by kernel_rfl)) rfl rfl rfl),rfl,#[],p1,rfl,by simpa [tabObj] using q1⟩)
 ·by_cases h2:b=395
  ·subst h2
   cases h395.symm.trans q
   exact .inr (.inl ⟨(CC 397 (Hy fc) _ (keep _ _ (by kernel_rfl)) rfl rfl rfl),rfl,#[],p2,rfl,by simpa [tabObj] using q2⟩)
  ·exact .inl (go h1 h2 q)
 ·exact h1▸⟨_,q1⟩
 ·by_cases h2:b=395
  ·exact h2▸⟨_,q2⟩
  ·exact⟨_,go h1 h2 q⟩
theorem holds_of (pl:Plain):PySem.Challenge.rw_in0301_01.Holds:=du (RD pl)
theorem d6:PySem.Challenge.rw_in0301_01.Holds:=holds_of plain
end Mine.Internal
theorem PySem.Challenge.cw_in0301_01_holds : PySem.Challenge.rw_in0301_01.Holds :=
 Mine.Internal.d6
