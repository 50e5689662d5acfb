import PyProof.Rows.All
import Wide.All
import OpenK.AllK
import Wide.FinOn
import KE.KItem
import PyProof.GenComp
import PyProof.EnumFor
import PyProof.Draws
import PyProof.StrBlock
import PyProof.GenQ
import PyProof.EnumMake
import PyProof.EnumStmt
import PyProof.Cells
import PyProof.ObjNew
import PyProof.AssignAttr
import KE.KNest
import KE.KLam
import Lean
import PySem.Challenge.RW_uc0018_01
set_option Elab.async false
set_option genSizeOfSpec false
set_option genInjectivity false
set_option genSizeOf false
set_option bootstrap.genMatcherCode false
set_option tactic.hygienic false
set_option maxRecDepth 100000
set_option maxHeartbeats 8000000
set_option linter.unusedVariables false
set_option linter.unusedSimpArgs false
noncomputable section
section
namespace Mine
theorem e0a3  {p0 p1 p2:Prop} {q:Prop} (h:p0∧p1∧p2) (H:p0→p1→p2→q):q:=by
 obtain ⟨h0,h1,h2⟩:=h
 exact H h0 h1 h2
theorem e0a4  {p0 p1 p2 p3:Prop} {q:Prop} (h:p0∧p1∧p2∧p3) (H:p0→p1→p2→p3→q):q:=by
 obtain ⟨h0,h1,h2,h3⟩:=h
 exact H h0 h1 h2 h3
theorem e0a5  {p0 p1 p2 p3 p4:Prop} {q:Prop} (h:p0∧p1∧p2∧p3∧p4) (H:p0→p1→p2→p3→p4→q):q:=by
 obtain ⟨h0,h1,h2,h3,h4⟩:=h
 exact H h0 h1 h2 h3 h4
theorem e1a2.{u0} {T0:Sort u0} {p0 p1:T0→Prop} {q:Prop} (h:∃x0,p0 x0∧p1 x0) (H:∀x0,p0 x0→p1 x0→q):q:=by
 obtain ⟨x0,h0,h1⟩:=h
 exact H x0 h0 h1
theorem e1a3.{u0} {T0:Sort u0} {p0 p1 p2:T0→Prop} {q:Prop} (h:∃x0,p0 x0∧p1 x0∧p2 x0) (H:∀x0,p0 x0→p1 x0→p2 x0→q):q:=by
 obtain ⟨x0,h0,h1,h2⟩:=h
 exact H x0 h0 h1 h2
theorem e1a4.{u0} {T0:Sort u0} {p0 p1 p2 p3:T0→Prop} {q:Prop} (h:∃x0,p0 x0∧p1 x0∧p2 x0∧p3 x0) (H:∀x0,p0 x0→p1 x0→p2 x0→p3 x0→q):q:=by
 obtain ⟨x0,h0,h1,h2,h3⟩:=h
 exact H x0 h0 h1 h2 h3
theorem e1a5.{u0} {T0:Sort u0} {p0 p1 p2 p3 p4:T0→Prop} {q:Prop} (h:∃x0,p0 x0∧p1 x0∧p2 x0∧p3 x0∧p4 x0) (H:∀x0,p0 x0→p1 x0→p2 x0→p3 x0→p4 x0→q):q:=by
 obtain ⟨x0,h0,h1,h2,h3,h4⟩:=h
 exact H x0 h0 h1 h2 h3 h4
theorem e2a1.{u0,u1} {T0:Sort u0} {T1:Sort u1} {p0:T0→T1→Prop} {q:Prop} (h:∃x0 x1,p0 x0 x1) (H:∀x0 x1,p0 x0 x1→q):q:=by
 obtain ⟨x0,x1,h0⟩:=h
 exact H x0 x1 h0
theorem e2a2.{u0,u1} {T0:Sort u0} {T1:Sort u1} {p0 p1:T0→T1→Prop} {q:Prop} (h:∃x0 x1,p0 x0 x1∧p1 x0 x1) (H:∀x0 x1,p0 x0 x1→p1 x0 x1→q):q:=by
 obtain ⟨x0,x1,h0,h1⟩:=h
 exact H x0 x1 h0 h1
theorem e2a3.{u0,u1} {T0:Sort u0} {T1:Sort u1} {p0 p1 p2:T0→T1→Prop} {q:Prop} (h:∃x0 x1,p0 x0 x1∧p1 x0 x1∧p2 x0 x1) (H:∀x0 x1,p0 x0 x1→p1 x0 x1→p2 x0 x1→q):q:=by
 obtain ⟨x0,x1,h0,h1,h2⟩:=h
 exact H x0 x1 h0 h1 h2
theorem e2a4.{u0,u1} {T0:Sort u0} {T1:Sort u1} {p0 p1 p2 p3:T0→T1→Prop} {q:Prop} (h:∃x0 x1,p0 x0 x1∧p1 x0 x1∧p2 x0 x1∧p3 x0 x1) (H:∀x0 x1,p0 x0 x1→p1 x0 x1→p2 x0 x1→p3 x0 x1→q):q:=by
 obtain ⟨x0,x1,h0,h1,h2,h3⟩:=h
 exact H x0 x1 h0 h1 h2 h3
theorem e2a5.{u0,u1} {T0:Sort u0} {T1:Sort u1} {p0 p1 p2 p3 p4:T0→T1→Prop} {q:Prop} (h:∃x0 x1,p0 x0 x1∧p1 x0 x1∧p2 x0 x1∧p3 x0 x1∧p4 x0 x1) (H:∀x0 x1,p0 x0 x1→p1 x0 x1→p2 x0 x1→p3 x0 x1→p4 x0 x1→q):q:=by
 obtain ⟨x0,x1,h0,h1,h2,h3,h4⟩:=h
 exact H x0 x1 h0 h1 h2 h3 h4
theorem e2a6.{u0,u1} {T0:Sort u0} {T1:Sort u1} {p0 p1 p2 p3 p4 p5:T0→T1→Prop} {q:Prop} (h:∃x0 x1,p0 x0 x1∧p1 x0 x1∧p2 x0 x1∧p3 x0 x1∧p4 x0 x1∧p5 x0 x1) (H:∀x0 x1,p0 x0 x1→p1 x0 x1→p2 x0 x1→p3 x0 x1→p4 x0 x1→p5 x0 x1→q):q:=by
 obtain ⟨x0,x1,h0,h1,h2,h3,h4,h5⟩:=h
 exact H x0 x1 h0 h1 h2 h3 h4 h5
theorem e3a1.{u0,u1,u2} {T0:Sort u0} {T1:Sort u1} {T2:Sort u2} {p0:T0→T1→T2→Prop} {q:Prop} (h:∃x0 x1 x2,p0 x0 x1 x2) (H:∀x0 x1 x2,p0 x0 x1 x2→q):q:=by
 obtain ⟨x0,x1,x2,h0⟩:=h
 exact H x0 x1 x2 h0
theorem e3a2.{u0,u1,u2} {T0:Sort u0} {T1:Sort u1} {T2:Sort u2} {p0 p1:T0→T1→T2→Prop} {q:Prop} (h:∃x0 x1 x2,p0 x0 x1 x2∧p1 x0 x1 x2) (H:∀x0 x1 x2,p0 x0 x1 x2→p1 x0 x1 x2→q):q:=by
 obtain ⟨x0,x1,x2,h0,h1⟩:=h
 exact H x0 x1 x2 h0 h1
theorem e3a3.{u0,u1,u2} {T0:Sort u0} {T1:Sort u1} {T2:Sort u2} {p0 p1 p2:T0→T1→T2→Prop} {q:Prop} (h:∃x0 x1 x2,p0 x0 x1 x2∧p1 x0 x1 x2∧p2 x0 x1 x2) (H:∀x0 x1 x2,p0 x0 x1 x2→p1 x0 x1 x2→p2 x0 x1 x2→q):q:=by
 obtain ⟨x0,x1,x2,h0,h1,h2⟩:=h
 exact H x0 x1 x2 h0 h1 h2
theorem e3a4.{u0,u1,u2} {T0:Sort u0} {T1:Sort u1} {T2:Sort u2} {p0 p1 p2 p3:T0→T1→T2→Prop} {q:Prop} (h:∃x0 x1 x2,p0 x0 x1 x2∧p1 x0 x1 x2∧p2 x0 x1 x2∧p3 x0 x1 x2) (H:∀x0 x1 x2,p0 x0 x1 x2→p1 x0 x1 x2→p2 x0 x1 x2→p3 x0 x1 x2→q):q:=by
 obtain ⟨x0,x1,x2,h0,h1,h2,h3⟩:=h
 exact H x0 x1 x2 h0 h1 h2 h3
theorem e3a6.{u0,u1,u2} {T0:Sort u0} {T1:Sort u1} {T2:Sort u2} {p0 p1 p2 p3 p4 p5:T0→T1→T2→Prop} {q:Prop} (h:∃x0 x1 x2,p0 x0 x1 x2∧p1 x0 x1 x2∧p2 x0 x1 x2∧p3 x0 x1 x2∧p4 x0 x1 x2∧p5 x0 x1 x2) (H:∀x0 x1 x2,p0 x0 x1 x2→p1 x0 x1 x2→p2 x0 x1 x2→p3 x0 x1 x2→p4 x0 x1 x2→p5 x0 x1 x2→q):q:=by
 obtain ⟨x0,x1,x2,h0,h1,h2,h3,h4,h5⟩:=h
 exact H x0 x1 x2 h0 h1 h2 h3 h4 h5
theorem e4a1.{u0,u1,u2,u3} {T0:Sort u0} {T1:Sort u1} {T2:Sort u2} {T3:Sort u3} {p0:T0→T1→T2→T3→Prop} {q:Prop} (h:∃x0 x1 x2 x3,p0 x0 x1 x2 x3) (H:∀x0 x1 x2 x3,p0 x0 x1 x2 x3→q):q:=by
 obtain ⟨x0,x1,x2,x3,h0⟩:=h
 exact H x0 x1 x2 x3 h0
theorem e4a2.{u0,u1,u2,u3} {T0:Sort u0} {T1:Sort u1} {T2:Sort u2} {T3:Sort u3} {p0 p1:T0→T1→T2→T3→Prop} {q:Prop} (h:∃x0 x1 x2 x3,p0 x0 x1 x2 x3∧p1 x0 x1 x2 x3) (H:∀x0 x1 x2 x3,p0 x0 x1 x2 x3→p1 x0 x1 x2 x3→q):q:=by
 obtain ⟨x0,x1,x2,x3,h0,h1⟩:=h
 exact H x0 x1 x2 x3 h0 h1
theorem e4a3.{u0,u1,u2,u3} {T0:Sort u0} {T1:Sort u1} {T2:Sort u2} {T3:Sort u3} {p0 p1 p2:T0→T1→T2→T3→Prop} {q:Prop} (h:∃x0 x1 x2 x3,p0 x0 x1 x2 x3∧p1 x0 x1 x2 x3∧p2 x0 x1 x2 x3) (H:∀x0 x1 x2 x3,p0 x0 x1 x2 x3→p1 x0 x1 x2 x3→p2 x0 x1 x2 x3→q):q:=by
 obtain ⟨x0,x1,x2,x3,h0,h1,h2⟩:=h
 exact H x0 x1 x2 x3 h0 h1 h2
theorem e4a4.{u0,u1,u2,u3} {T0:Sort u0} {T1:Sort u1} {T2:Sort u2} {T3:Sort u3} {p0 p1 p2 p3:T0→T1→T2→T3→Prop} {q:Prop} (h:∃x0 x1 x2 x3,p0 x0 x1 x2 x3∧p1 x0 x1 x2 x3∧p2 x0 x1 x2 x3∧p3 x0 x1 x2 x3) (H:∀x0 x1 x2 x3,p0 x0 x1 x2 x3→p1 x0 x1 x2 x3→p2 x0 x1 x2 x3→p3 x0 x1 x2 x3→q):q:=by
 obtain ⟨x0,x1,x2,x3,h0,h1,h2,h3⟩:=h
 exact H x0 x1 x2 x3 h0 h1 h2 h3
theorem e7a2.{u0,u1,u2,u3,u4,u5,u6} {T0:Sort u0} {T1:Sort u1} {T2:Sort u2} {T3:Sort u3} {T4:Sort u4} {T5:Sort u5} {T6:Sort u6} {p0 p1:T0→T1→T2→T3→T4→T5→T6→Prop} {q:Prop} (h:∃x0 x1 x2 x3 x4 x5 x6,p0 x0 x1 x2 x3 x4 x5 x6∧p1 x0 x1 x2 x3 x4 x5 x6) (H:∀x0 x1 x2 x3 x4 x5 x6,p0 x0 x1 x2 x3 x4 x5 x6→p1 x0 x1 x2 x3 x4 x5 x6→q):q:=by
 obtain ⟨x0,x1,x2,x3,x4,x5,x6,h0,h1⟩:=h
 exact H x0 x1 x2 x3 x4 x5 x6 h0 h1
end Mine
end
section
namespace Mine
open PySem
noncomputable abbrev symB:Nat:=2097152
inductive V where
 | unb | none | bool (b:Bool) | int (i:Int) | str (s:List Nat) | ref (i:Nat)
 deriving DecidableEq
inductive O where
 | list (xs:List V) | tup (xs:List V) | tok (toks:List (List Nat)) (src:List Nat) (pb:Nat) (own:List Nat) | lex (text:List Nat) (line:Int) (pb:Nat) (own:List Nat) | fit (lx:Nat) (done:Bool) (own:List Nat) | frz (xs:List V)
inductive Fl where
 | next | brk | cont | ret (v:V)
inductive Bop where | add | sub | mul | fdiv | mod | pow
inductive Cop where | eq | ne | lt | le | gt | ge | isin | notin | is_
inductive Bi where | len | sum | min | max | chr | int | iterRead
 deriving DecidableEq
inductive Me where | append | pop | index | count | split | startswith | endswith | find | lower | upper | join | getToken | pushToken | readChar
inductive At where | pushback | whitespace | lineno
inductive ItK where | list | range | enum | fit | gen
inductive Tg where
 | loc (i:Nat) | cel (i:Nat) | tup (l:List Tg)
inductive E where
 | lit (v:V) | loc (i:Nat) | cel (i:Nat)
 | bin (op:Bop) (a b:E) | neg (a:E) | not_ (a:E)
 | bool (isAnd:Bool) (es:List E)
 | cmp (op:Cop) (a b:E)
 | idx (o i:E) | sli (o:E) (l u:Option E)
 | lst (es:List E) | tup (es:List E)
 | call (f:Nat) (es:List E)
 | bi (b:Bi) (es:List E)
 | meth (m:Me) (o:E) (es:List E)
 | attr (m:At) (o:E)
 | lrange (es:List E)
 | iter (o:E)
 | ife (t a b:E)
 | lineNe (o t:E)
 | comp (elt:E) (n:Nat) (tg:Tg) (k:ItK) (es:List E) (ifs:List E) (gens:List (Tg×ItK×List E×List E))
inductive S where
 | asg (ts:List Tg) (e:E)
 | swp (ts:List Tg) (e:E)
 | put (o i e:E)
 | aug (t:Tg) (op:Bop) (e:E)
 | expr (e:E) | ret (e:E) | brk | cont
 | ifs (t:E) (a b:List S) | whl (t:E) (b:List S)
 | for_ (tg:Tg) (k:ItK) (es:List E) (b:List S)
 | assert (t:E) | del (o i:E)
structure St where
 loc:List V
 cel:List V
 hp:List (Nat×O)
 nx:Nat
 deriving Inhabited
noncomputable def A3I (c:Nat):Bool:=[9,10,13,32,34,92,46,40,41].any (Nat.beq c)
noncomputable def A5u (c:Nat):Bool:=Nat.ble symB c && Nat.blt c (symB + 4)
noncomputable def safe (s:List Nat):Bool:=s.all (fun c=>Nat.blt c symB) || s.all fun c=>A3I c || A5u c
noncomputable def flat (s:List Nat):Bool:=s.all fun c=>Nat.blt c (symB + 4)
noncomputable def A0F (s w:List Nat):Bool:=(s.all (fun c=>Nat.blt c symB) && w.all (fun c=>Nat.blt c symB)) || ((s.all fun c=>A3I c || A5u c) && w.all fun c=>A3I c || A5u c) || (w.all A3I && flat s)
noncomputable def pre:List Nat→List Nat→Bool
 | [],_=>true
 | _::_,[]=>false
 | c::p,d::s=>match Nat.beq c d with
  | true=>pre p s
  | false=>false
noncomputable def seq:List Nat→List Nat→Bool
 | [],[]=>true
 | [],_::_=>false
 | _::_,[]=>false
 | c::p,d::s=>match Nat.beq c d with
  | true=>seq p s
  | false=>false
noncomputable def A5v (w:List Nat):Nat→List Nat→Nat→Option Nat
 | 0,_,_=>none
 | k + 1,s,i=>match pre w s with
  | true=>some i
  | false=>match s with
   | []=>none
   | _::s=>A5v w k s (i + 1)
noncomputable def A4s (s w:List Nat) (lo hi:Nat):Int:=
 match Nat.blt hi (lo + w.length) with
 | true=>-1
 | false=>match A5v w (hi + 1 - (lo + w.length)) (s.drop lo) lo with
  | some i=>Int.ofNat i
  | none=>-1
noncomputable def A1B (w:List Nat):Nat→List Nat→List Nat→List (List Nat)
 | 0,_,_=>[]
 | k + 1,s,acc=>match pre w s with
  | true=>acc.reverse::A1B w k (s.drop w.length) []
  | false=>match s with
   | []=>[acc.reverse]
   | c::s=>A1B w k s (c::acc)
noncomputable def lowC (c:Nat):Option Nat:=
 if c=symB then some symB else if c=symB + 1 then some symB else if c=symB + 2 then some c else if c=symB + 3 then some c else none
noncomputable def A3b (sep:List Nat):List (List Nat)→List Nat
 | []=>[]
 | [x]=>x
 | x::r=>x ++ sep ++ A3b sep r
noncomputable def escA:Bool→Nat→List Nat→List (Nat×List Nat)
 | false,_,[]=>[]
 | true,p,[]=>[(p - 1,[92])]
 | true,p,c::r=>(p,[92,c])::escA false (p + 1) r
 | false,p,c::r=>if c=92 then escA true (p + 1) r else (p,[c])::escA false (p + 1) r
noncomputable def hget (l:List (Nat×O)) (i:Nat):Option O:=l.rec (motive:=fun _=>Nat→Option O) (fun _=>none) (fun p _ ih i=>match Nat.beq p.1 i with | true=>some p.2 | false=>ih i) i
noncomputable def hset:List (Nat×O)→Nat→O→List (Nat×O)
 | [],_,_=>[]
 | (j,x)::r,i,o=>match Nat.beq j i with | true=>(j,o)::r | false=>(j,x)::hset r i o
noncomputable def A0H:List (Nat×O)→Nat→List (Nat×O)
 | [],_=>[]
 | (j,x)::r,i=>match Nat.beq j i with | true=>r | false=>(j,x)::A0H r i
noncomputable def St.new (σ:St) (o:O):V×St:=(.ref σ.nx,{ σ with hp:=(σ.nx,o)::σ.hp,nx:=σ.nx + 1 })
noncomputable def lset (l:List V) (i:Nat) (v:V):List V:=l.rec (motive:=fun _=>Nat→V→List V) (fun _ _=>[]) (fun x r ih i v=>i.rec (v::r) fun k _=>x::ih k v) i v
noncomputable def A4G:V→Bool | .ref _=>true | _=>false
noncomputable def A0Z:List (Nat×O)→Nat→Nat→List (Nat×O)
 | [],_,_=>[]
 | (j,x)::r,n,i=>match Nat.blt j n with
  | true=>(j,x)::r
  | false=>match Nat.beq j i with
   | true=>(j,x)::A0Z r n i
   | false=>A0Z r n i
noncomputable def tidy (σ:St) (n:Nat) (v:V):St:=match v with
 | .ref i=>match hget σ.hp i with
  | some (.list xs)=>match xs.any A4G with
   | true=>σ
   | false=>{ σ with hp:=A0Z σ.hp n i }
  | _=>σ
 | _=>{ σ with hp:=A0Z σ.hp n σ.nx }
noncomputable def A4H (hp:List (Nat×O)):V→Option Bool
 | .none=>some false
 | .bool b=>some b
 | .int i=>some (!decide (i=0))
 | .str s=>some (!s.isEmpty)
 | .ref i=>match hget hp i with
  | some (.list xs)=>some (!xs.isEmpty)
  | _=>none
 | .unb=>none
noncomputable def veqs (f:V→V→Option Bool):List V→List V→Option Bool
 | [],[]=>some true
 | a::r,b::t=>match f a b,veqs f r t with
  | some x,some y=>some (x && y)
  | _,_=>none
 | _,_=>none
noncomputable def veq0:V→V→Option Bool
 | .int a,.int b=>some (decide (a=b))
 | .bool a,.bool b=>some (a == b)
 | .str a,.str b=>match A0F a b with | true=>some (seq a b) | false=>none
 | _,_=>none
noncomputable def veq (hp:List (Nat×O)) (a b:V):Option Bool:=match a,b with
 | .ref i,.ref j=>match Nat.beq i j with
  | true=>none
  | false=>match hget hp i,hget hp j with
   | some (.list xs),some (.list ys)=>match Nat.beq xs.length ys.length with
    | true=>veqs veq0 xs ys
    | false=>some false
   | _,_=>none
 | _,_=>veq0 a b
noncomputable def A9F (hp:List (Nat×O)) (v:V):List V→Option Bool
 | []=>some false
 | x::r=>match veq hp x v,A9F hp v r with
  | some a,some b=>some (a || b)
  | _,_=>none
noncomputable def B4B (w s:List Nat):Option Bool:=match A0F s w with
 | true=>some (!decide (A4s s w 0 s.length < 0))
 | false=>none
section
variable {β:Type}
noncomputable def V.i (v:V) (k:Int→Option β):Option β:=match v with | .int x=>k x | _=>.none
noncomputable def V.s (v:V) (k:List Nat→Option β):Option β:=match v with | .str x=>k x | _=>.none
noncomputable def V.r (v:V) (k:Nat→Option β):Option β:=match v with | .ref x=>k x | _=>.none
noncomputable def hL (hp:List (Nat×O)) (j:Nat) (k:List V→Option β):Option β:=match hget hp j with | some (.list xs)=>k xs | _=>none
noncomputable def V.n (v:V) (k:Option β):Option β:=match v with | .none=>k | _=>.none
noncomputable def Tg.t (t:Tg) (k:List Tg→Option β):Option β:=match t with | .tup l=>k l | _=>none
noncomputable def gd (b:Bool) (k:Option β):Option β:=match b with | true=>k | false=>none
noncomputable def one {α:Type} (vs:List α) (k:α→Option β):Option β:=match vs with | []=>none | v::r=>match r with | []=>k v | _::_=>none
noncomputable def two (vs:List V) (k:V→V→Option β):Option β:=match vs with | []=>none | v::r=>one r (k v)
end
noncomputable def bAdd (σ:St) (a b:V):Option (V×St):=match a with
 | .int x=>match b with
  | .int y=>some (.int (x + y),σ)
  | .bool y=>some (.int (x + (if y then 1 else 0)),σ)
  | _=>none
 | .str x=>b.s fun y=>if x.length + y.length≤4000 then some (.str (x ++ y),σ) else none
 | .ref i=>b.r fun j=>hL σ.hp i fun xs=>hL σ.hp j fun ys=>if xs.length + ys.length≤4000 then some (σ.new (.list (xs ++ ys))) else none
 | _=>none
noncomputable def A1x (op:Bop) (σ:St) (a b:V):Option (V×St):=match op with
 | .add=>bAdd σ a b
 | .sub=>a.i fun x=>b.i fun y=>some (.int (x - y),σ)
 | .mul=>a.i fun x=>b.i fun y=>if x.natAbs < 1000000∧y.natAbs < 1000000 then some (.int (x * y),σ) else none
 | .fdiv=>a.i fun x=>b.i fun y=>if 0 < y∧y < 1000000 then some (.int (x.fdiv y),σ) else none
 | .mod=>a.i fun x=>b.i fun y=>if 0 < y then some (.int (x.fmod y),σ) else none
 | .pow=>a.i fun x=>b.i fun y=>if (0≤x∧x≤10)∧0≤y∧y < 8 then some (.int (x ^ y.toNat),σ) else none
noncomputable def isNone (a:V):Option Bool:=match a with
 | .none=>some true
 | .int _=>some false
 | _=>none
noncomputable def C0O (hp:List (Nat×O)) (a b:V):Option Bool:=match b with
 | .str y=>a.s fun x=>(B4B x y).map (!·)
 | .ref j=>hL hp j fun xs=>(A9F hp a xs).map (!·)
 | _=>none
noncomputable def A5w (op:Cop) (hp:List (Nat×O)) (a b:V):Option Bool:=match op with
 | .eq=>veq hp a b
 | .ne=>(veq hp a b).map (!·)
 | .lt=>a.i fun x=>b.i fun y=>some (decide (x < y))
 | .le=>a.i fun x=>b.i fun y=>some (decide (x≤y))
 | .gt=>a.i fun x=>b.i fun y=>some (decide (y < x))
 | .ge=>a.i fun x=>b.i fun y=>some (decide (y≤x))
 | .isin=>a.s fun x=>b.s fun y=>B4B x y
 | .notin=>C0O hp a b
 | .is_=>match b with
  | .none=>isNone a
  | _=>none
noncomputable def nth {α:Type} (l:List α) (i:Nat):Option α:=l.rec (motive:=fun _=>Nat→Option α) (fun _=>none) (fun x _ ih i=>i.rec (some x) fun k _=>ih k) i
noncomputable def A3J (i:Int) (n:Nat):Option Nat:=match i with
 | .ofNat k=>if k < n then some k else none
 | .negSucc k=>if k < n then some (n - (k + 1)) else none
noncomputable def B7R (hp:List (Nat×O)) (j:Nat) (i:Int):Option V:=match hget hp j with
 | some (.list xs)=>(A3J i xs.length).bind (nth xs)
 | some (.tup xs)=>(A3J i xs.length).bind (nth xs)
 | _=>none
noncomputable def index (hp:List (Nat×O)) (o i:V):Option V:=match o with
 | .ref j=>i.i (B7R hp j)
 | .str s=>i.i fun i=>gd (flat s) ((A3J i s.length).bind fun k=>(nth s k).map fun c=>.str [c])
 | _=>none
noncomputable def clip (i:Int) (n:Nat):Nat:=match i with
 | .ofNat k=>Nat.min k n
 | .negSucc k=>n - (k + 1)
noncomputable def B0D (v:Option V) (d n:Nat):Option Nat:=match v with
 | none=>some d
 | some .none=>some d
 | some (.int i)=>some (clip i n)
 | _=>none
noncomputable def cutL {α:Type} (xs:List α) (lo hi:Nat):List α:=(xs.take hi).drop lo
noncomputable def B4C:Option O→Option (List V)
 | some (.list xs)=>some xs
 | some (.frz xs)=>some xs
 | _=>none
noncomputable def A2C (σ:St) (o:V) (l u:Option V):Option (V×St):=match o with
 | .str s=>gd (flat s) ((B0D l 0 s.length).bind fun lo=>(B0D u s.length s.length).bind fun hi=>some (.str (cutL s lo hi),σ))
 | .ref j=>(B4C (hget σ.hp j)).bind fun xs=>(B0D l 0 xs.length).bind fun lo=>(B0D u xs.length xs.length).bind fun hi=>some (σ.new (.list (cutL xs lo hi)))
 | _=>none
noncomputable def sumV:List V→Int→Option Int
 | [],a=>some a
 | .int i::r,a=>sumV r (a + i)
 | _,_=>none
noncomputable def A2a:Nat→Int→Int→List V
 | 0,_,_=>[]
 | n + 1,i,c=>.int i::A2a n (i + c) c
noncomputable def C0P (a b c:Int) (r:List V):Option (Int×Int×Int):=match r with
 | []=>some (a,b,c)
 | _::_=>none
noncomputable def C0Q (a b:Int) (r:List V):Option (Int×Int×Int):=match r with
 | []=>some (a,b,1)
 | v::r=>v.i fun c=>C0P a b c r
noncomputable def C0R (a:Int) (r:List V):Option (Int×Int×Int):=match r with
 | []=>some (0,a,1)
 | v::r=>v.i fun b=>C0Q a b r
noncomputable def A9G (vs:List V):Option (Int×Int×Int):=match vs with
 | []=>none
 | v::r=>v.i fun a=>C0R a r
noncomputable def A4j (a b c:Int):Nat:=((b - a + c - 1) / c).toNat
noncomputable def A4I (vs:List V):Option (List V):=(A9G vs).bind fun p=>
 if p.1.natAbs < 1000000∧p.2.1.natAbs < 1000000∧0 < p.2.2∧p.2.2 < 1000000 then some (A2a (A4j p.1 p.2.1 p.2.2) p.1 p.2.2) else none
noncomputable def lenV (σ:St) (v:V):Option (V×St):=match v with
 | .str s=>gd (flat s) (some (.int s.length,σ))
 | .ref j=>(B4C (hget σ.hp j)).bind fun xs=>some (.int xs.length,σ)
 | _=>none
noncomputable def intV (σ:St) (v:V):Option (V×St):=match v with
 | .bool b=>some (.int (if b then 1 else 0),σ)
 | _=>none
noncomputable def chrV (σ:St) (i:Int):Option (V×St):=match i with
 | .ofNat k=>gd (Nat.blt k 1114112) (some (.str [k],σ))
 | .negSucc _=>none
noncomputable def B4D (σ:St) (j:Nat):Option (V×St):=match hget σ.hp j with
 | some (.lex ..)=>some (.ref σ.nx,{ σ with hp:=(σ.nx,.fit j false [σ.nx + 1])::σ.hp,nx:=σ.nx + 2 })
 | _=>none
noncomputable def builtin (b:Bi) (σ:St) (vs:List V):Option (V×St):=match b with
 | .len=>one vs (lenV σ)
 | .sum=>one vs fun v=>v.r fun j=>hL σ.hp j fun xs=>(sumV xs 0).map fun i=>(.int i,σ)
 | .min=>two vs fun a b=>a.i fun a=>b.i fun b=>some (.int (if b < a then b else a),σ)
 | .max=>two vs fun a b=>a.i fun a=>b.i fun b=>some (.int (if a < b then b else a),σ)
 | .int=>one vs (intV σ)
 | .chr=>one vs fun v=>v.i (chrV σ)
 | .iterRead=>one vs fun v=>v.r (B4D σ)
noncomputable def A3c (hp:List (Nat×O)) (v:V):List V→Option Nat
 | []=>some 0
 | x::r=>match veq hp x v,A3c hp v r with
  | some true,some n=>some (n + 1)
  | some false,some n=>some n
  | _,_=>none
noncomputable def A5D (hp:List (Nat×O)) (v:V):List V→Nat→Option Nat
 | [],_=>none
 | x::r,i=>match veq hp x v with
  | some true=>some i
  | some false=>A5D hp v r (i + 1)
  | none=>none
noncomputable def A0w (c:Nat):List Nat→Nat
 | []=>0
 | d::r=>match Nat.beq c d with
  | true=>A0w c r + 1
  | false=>A0w c r
noncomputable def B0E:List V→Option (List (List Nat))
 | []=>some []
 | .str s::r=>(B0E r).map (s::·)
 | _=>none
noncomputable def A3K (hp:List (Nat×O)) (j:Nat):Option (List Nat×List (Nat×O)):=match hget hp j with
 | some (.lex text line pb own)=>match text with
  | []=>some ([],hp)
  | c::r=>match safe [c],Nat.beq c 10 with
   | true,true=>some ([c],hset hp j (.lex r (line + 1) pb own))
   | true,false=>some ([c],hset hp j (.lex r line pb own))
   | _,_=>none
 | _=>none
noncomputable def popV (σ:St) (j:Nat) (i:Int) (xs:List V):Option (V×St):=match xs with
 | []=>none
 | x::r=>if i=0 then some (x,{ σ with hp:=hset σ.hp j (.list r) }) else none
noncomputable def B1E (σ:St) (v:V) (xs:List V):Option (V×St):=(A3c σ.hp v xs).bind fun _=>(A5D σ.hp v xs 0).map fun (n:Nat)=>(V.int (n:Int),σ)
noncomputable def B1F (s:List Nat) (k:Nat→Option (V×St)):Option (V×St):=match s with
 | []=>none
 | c::r=>match r with
  | []=>k c
  | _::_=>none
noncomputable def B1G (σ:St) (o:V) (v:V):Option (V×St):=match o with
 | .ref j=>hL σ.hp j fun xs=>(A3c σ.hp v xs).map fun (n:Nat)=>(V.int (n:Int),σ)
 | .str s=>v.s fun w=>B1F w fun c=>gd (A0F s [c]) (some (.int (A0w c s),σ))
 | _=>none
noncomputable def B1H (σ:St) (s w:List Nat):Option (V×St):=match w with
 | []=>none
 | _::_=>some (σ.new (.list ((A1B w (s.length + 1) s []).map .str)))
noncomputable def C3C (s w:List Nat):Bool:=match Nat.blt s.length w.length with | true=>false | false=>seq w (s.drop (s.length - w.length))
noncomputable def B4E (σ:St) (s w:List Nat) (lo hi:Int):Option (V×St):=match lo with
 | .negSucc _=>none
 | .ofNat lo=>match hi with
  | .negSucc _=>none
  | .ofNat hi=>gd (A0F s w) (gd (Nat.ble lo hi && Nat.ble hi s.length) (some (.int (A4s s w lo hi),σ)))
noncomputable def nil0 (vs:List V) (k:Option (V×St)):Option (V×St):=match vs with
 | []=>k
 | _::_=>none
noncomputable def B8H (σ:St) (s:List Nat) (xs:List V):Option (V×St):=(B0E xs).bind fun l=>if (A3b s l).length≤4000 then some (.str (A3b s l),σ) else none
noncomputable def A1G (m:Me) (σ:St) (o:V) (vs:List V):Option (V×St):=match m with
 | .append=>o.r fun j=>one vs fun v=>hL σ.hp j fun xs=>if xs.length≤4000 then some (.none,{ σ with hp:=hset σ.hp j (.list (xs ++ [v])) }) else none
 | .pop=>o.r fun j=>one vs fun v=>v.i fun i=>hL σ.hp j fun xs=>popV σ j i xs
 | .index=>o.r fun j=>one vs fun v=>hL σ.hp j fun xs=>B1E σ v xs
 | .count=>one vs (B1G σ o)
 | .split=>o.s fun s=>one vs fun v=>v.s fun w=>gd (A0F s w) (B1H σ s w)
 | .startswith=>o.s fun s=>one vs fun v=>v.s fun w=>gd (A0F s w) (some (.bool (pre w s),σ))
 | .endswith=>o.s fun s=>one vs fun v=>v.s fun w=>gd (A0F s w) (some (.bool (C3C s w),σ))
 | .find=>o.s fun s=>match vs with
  | []=>none
  | v::vs=>v.s fun w=>two vs fun a b=>a.i fun lo=>b.i fun hi=>B4E σ s w lo hi
 | .lower=>o.s fun s=>nil0 vs (B1F s fun c=>(lowC c).map fun d=>(.str [d],σ))
 | .upper=>o.s fun s=>nil0 vs (B1F s fun c=>if 97≤c∧c≤122 then some (.str [c - 32],σ) else none)
 | .join=>o.s fun s=>one vs fun v=>v.r fun j=>hL σ.hp j fun xs=>B8H σ s xs
 | .getToken=>none
 | .pushToken=>none
 | .readChar=>o.r fun j=>nil0 vs ((A3K σ.hp j).map fun p=>(.str p.1,{ σ with hp:=p.2 }))
noncomputable def mok (m:Me) (hp:List (Nat×O)) (o:V):Bool:=match o with
 | .str _=>match m with
  | .count=>true | .split=>true | .startswith=>true | .endswith=>true | .find=>true | .lower=>true | .upper=>true | .join=>true
  | _=>false
 | .ref j=>match hget hp j with
  | some (.list _)=>match m with
   | .append=>true | .pop=>true | .index=>true | .count=>true
   | _=>false
  | some (.lex ..)=>match m with
   | .getToken=>true | .pushToken=>true | .readChar=>true
   | _=>false
  | some (.tok ..)=>match m with
   | .getToken=>true | .pushToken=>true
   | _=>false
  | _=>false
 | _=>false
noncomputable def A5E (m:At) (hp:List (Nat×O)) (o:V):Option V:=match o with
 | .ref j=>match hget hp j with
  | some (.lex _ line pb _)=>match m with
   | .pushback=>some (.ref pb)
   | .whitespace=>some (.str [10,9,13,32])
   | .lineno=>some (.int line)
  | some (.tok _ _ pb _)=>match m with
   | .pushback=>some (.ref pb)
   | _=>none
  | _=>none
 | _=>none
noncomputable def items (hp:List (Nat×O)) (j:Nat):Option (List V):=match hget hp j with
 | some (.tup xs)=>some xs
 | _=>none
noncomputable def A0K:Tg→V→St→Option St
 | .loc i,v,σ=>some { σ with loc:=lset σ.loc i v }
 | .cel i,v,σ=>some { σ with cel:=lset σ.cel i v }
 | .tup _,_,_=>none
noncomputable def assignEach:List Tg→List V→St→Option St
 | [],vs,σ=>match vs with
  | []=>some σ
  | _::_=>none
 | t::ts,vs,σ=>match vs with
  | []=>none
  | v::vs=>(A0K t v σ).bind (assignEach ts vs)
noncomputable def assign (t:Tg) (v:V) (σ:St):Option St:=match t with
 | .tup ts=>v.r fun j=>(items σ.hp j).bind fun vs=>assignEach ts vs σ
 | .loc i=>A0K (.loc i) v σ
 | .cel i=>A0K (.cel i) v σ
noncomputable def A1H:List Tg→V→St→Option St
 | [],_,σ=>some σ
 | t::ts,v,σ=>(assign t v σ).bind (A1H ts v)
noncomputable def A5x:List Nat:=[122,92,32,34,122,10,34,92,34,92,92,32,34]
noncomputable def bal:List Nat→Nat→Bool
 | [],c=>Nat.beq c 0
 | p::r,c=>match Nat.beq (p % 2) 1 with
  | true=>bal r (c + 1)
  | false=>match c with
   | 0=>false
   | c + 1=>bal r c
noncomputable def B1I (hp:List (Nat×O)) (j:Nat) (k:List (List Nat)→List Nat→Nat→List Nat→Option (V×St)):Option (V×St):=match hget hp j with | some (.tok a b c d)=>k a b c d | _=>none
noncomputable def popT (σ:St) (j pb:Nat) (src own:List Nat) (toks:List (List Nat)):Option (V×St):=match toks with
 | []=>some (.str [],σ)
 | t::r=>some (.str t,{ σ with hp:=hset σ.hp j (.tok r src pb own) })
noncomputable def nat7 (vs:List V) (σ:St):Option (V×St):=one vs fun v=>v.s fun s=>gd (s.all (Nat.ble (symB + 8)) && Nat.ble s.length 8) (some (.bool (bal s 0),σ))
noncomputable def nat9 (vs:List V) (σ:St):Option (V×St):=one vs fun v=>v.r fun j=>B1I σ.hp j fun toks src pb own=>hL σ.hp pb fun xs=>nil0 xs (popT σ j pb src own toks)
noncomputable def nat (f:Nat) (vs:List V) (σ:St):Option (V×St):=match Nat.beq f 7 with
 | true=>nat7 vs σ
 | false=>gd (Nat.beq f 9) (nat9 vs σ)
noncomputable def A7d (on:Bool) (f:Nat) (vs:List V) (σ:St):Option (V×St):=match on with
 | true=>nat f vs σ
 | false=>none
inductive Task where
 | e (e:E) | es (l:List E) | t (e:E) | ts (isAnd:Bool) (l:List E) | bs (isAnd:Bool) (l:List E)
 | s (s:S) | ss (l:List S)
 | whl (t:E) (b:List S)
 | for_ (tg:Tg) (b:List S) (l:List V)
 | forE (tg:Tg) (b:List S) (l:List V) (i:Nat)
 | forG (tg:Tg) (b:List S) (l:List (Nat×List Nat))
 | forF (tg:Tg) (b:List S) (it:Nat)
 | app (f:Nat) (vs:List V)
 | comp (elt:E) (gens:List (Tg×ItK×List E×List E)) (acc:Nat)
 | turns (elt:E) (tg:Tg) (ifs:List E) (gens:List (Tg×ItK×List E×List E)) (acc:Nat) (l:List V)
inductive R where
 | v (v:V) | vs (l:List V) | b (b:Bool) | f (f:Fl)
structure Fn where
 params:Nat
 size:Nat
 body:List S
 deriving Inhabited
noncomputable abbrev Run:=Task→St→Option (R×St)
noncomputable def evs (r:Run) (l:List E) (σ:St) (k:List V→St→Option (R×St)):Option (R×St):=match r (.es l) σ with
 | some (.vs vs,σ)=>k vs σ
 | _=>none
noncomputable def ev (r:Run) (e:E) (σ:St) (k:V→St→Option (R×St)):Option (R×St):=match r (.e e) σ with
 | some (.v v,σ)=>k v σ
 | _=>none
noncomputable def evo (r:Run) (e:Option E) (σ:St) (k:Option V→St→Option (R×St)):Option (R×St):=match e with
 | none=>k none σ
 | some e=>ev r e σ fun v σ=>k (some v) σ
noncomputable def tst (r:Run) (e:E) (σ:St) (k:Bool→St→Option (R×St)):Option (R×St):=match r (.t e) σ with
 | some (.b b,σ)=>k b σ
 | _=>none
noncomputable def val (p:Option (V×St)):Option (R×St):=match p with
 | some (v,σ)=>some (.v v,σ)
 | none=>none
noncomputable def flow (p:Option St):Option (R×St):=match p with
 | some σ=>some (.f .next,σ)
 | none=>none
noncomputable def bnd (v:Option V) (σ:St):Option (R×St):=match v with
 | some .unb=>none
 | some v=>some (.v v,σ)
 | none=>none
noncomputable def vals (p:Option (R×St)) (k:V→St→Option (R×St)):Option (R×St):=match p with
 | some (.v v,σ)=>k v σ
 | _=>none
noncomputable def B1J (p:Option (R×St)) (k:Bool→St→Option (R×St)):Option (R×St):=match p with
 | some (.b b,σ)=>k b σ
 | _=>none
noncomputable def A7e (p:Option (R×St)) (k:St→Option (R×St)):Option (R×St):=match p with
 | some (.f .next,σ)=>k σ
 | _=>none
noncomputable def A8u (r:Run) (k:ItK) (es:List E) (σ:St) (c:Nat→List V→St→Option (R×St)):Option (R×St):=match k with
 | .list=>one es fun e=>ev r e σ fun v σ=>v.r fun j=>hL σ.hp j fun xs=>c j xs σ
 | .range=>evs r es σ fun vs σ=>(A4I vs).bind fun l=>c σ.nx l σ
 | .enum=>none
 | .fit=>none
 | .gen=>none
noncomputable def A0A (σ:St) (j:Nat) (k:St→Option (R×St)):Option (R×St):=match hget σ.hp j with
 | some o=>(k { σ with hp:=A0H σ.hp j }).bind fun p=>some (p.1,{ p.2 with hp:=(j,o)::p.2.hp })
 | none=>k σ
noncomputable def A7f (hp:List (Nat×O)) (j:Nat) (k:List Nat→Option (R×St)):Option (R×St):=match hget hp j with
 | some (.tok toks src _ _)=>match toks with
  | []=>k src
  | _::_=>none
 | _=>none
noncomputable def B0F (r:Run) (m:Me) (o:V) (σ:St) (vs:List V):Option (R×St):=match m with
 | .getToken=>r (.app 9 (o::vs)) σ
 | .pushToken=>r (.app 10 (o::vs)) σ
 | m=>val (A1G m σ o vs)
noncomputable def evE (r:Run) (e:E) (σ:St):Option (R×St):=E.rec (motive_1:=fun _=>Run→St→Option (R×St)) (motive_2:=fun _=>Unit) (motive_3:=fun _=>Unit) (motive_4:=fun _=>Unit) (motive_5:=fun _=>Unit) (motive_6:=fun _=>Unit) (motive_7:=fun _=>Unit)
  (fun v r σ=>some (.v v,σ))
  (fun i r σ=>bnd (nth σ.loc i) σ)
  (fun i r σ=>bnd (nth σ.cel i) σ)
  (fun op a b _ _ r σ=>ev r a σ fun a σ=>ev r b σ fun b σ=>val (A1x op σ a b))
  (fun a _ r σ=>ev r a σ fun a σ=>a.i fun i=>some (.v (.int (-i)),σ))
  (fun a _ r σ=>ev r a σ fun a σ=>(A4H σ.hp a).bind fun b=>some (.v (.bool (!b)),σ))
  (fun isAnd es _ r σ=>r (.bs isAnd es) σ)
  (fun op a b _ _ r σ=>ev r a σ fun a σ=>ev r b σ fun b σ=>(A5w op σ.hp a b).bind fun b=>some (.v (.bool b),σ))
  (fun o i _ _ r σ=>ev r o σ fun o σ=>ev r i σ fun i σ=>(index σ.hp o i).bind fun v=>some (.v v,σ))
  (fun o l u _ _ _ r σ=>ev r o σ fun o σ=>evo r l σ fun l σ=>evo r u σ fun u σ=>val (A2C σ o l u))
  (fun es _ r σ=>evs r es σ fun vs σ=>if vs.length≤4000 then val (some (σ.new (.list vs))) else none)
  (fun es _ r σ=>evs r es σ fun vs σ=>if vs.length≤4000 then val (some (σ.new (.tup vs))) else none)
  (fun f es _ r σ=>evs r es σ fun vs σ=>r (.app f vs) σ)
  (fun b es _ r σ=>evs r es σ fun vs σ=>val (builtin b σ vs))
  (fun m o es _ _ r σ=>ev r o σ fun o σ=>gd (mok m σ.hp o) (evs r es σ fun vs σ=>B0F r m o σ vs))
  (fun m o _ r σ=>ev r o σ fun o σ=>(A5E m σ.hp o).bind fun v=>some (.v v,σ))
  (fun es _ r σ=>evs r es σ fun vs σ=>(A4I vs).bind fun l=>if l.length≤4000 then val (some (σ.new (.list l))) else none)
  (fun o _ r σ=>ev r o σ fun o σ=>val (builtin .iterRead σ [o]))
  (fun t a b _ _ _ r σ=>tst r t σ fun c σ=>r (.e (if c then a else b)) σ)
  (fun o t _ _ r σ=>ev r o σ fun o σ=>o.r fun j=>A7f σ.hp j fun src=>ev r t σ fun t σ=>t.s fun s=>gd (seq s src) (some (.v (.bool false),σ)))
  (fun elt n tg k es ifs gens _ _ _ _ r σ=>A8u r k es σ fun j l σ=>A0A σ j fun σ=>
  A7e (r (.turns elt tg ifs gens σ.nx l) { loc:=List.replicate n .unb,cel:=σ.cel,hp:=(σ.nx,.list [])::σ.hp,nx:=σ.nx + 1 }) fun σ₂=>some (.v (.ref σ.nx),{ σ₂ with loc:=σ.loc }))
  (())
  (fun _ _ _ _=>())
  (())
  (fun _ _=>())
  (())
  (fun _ _ _ _=>())
  (fun _ _ _=>())
  (fun _ _ _=>())
  (fun _ _ _ _=>())
  e r σ
noncomputable def B0G (hp:List (Nat×O)) (j:Nat) (k:Option (R×St)):Option (R×St):=match hget hp j with
 | some (.fit ..)=>k
 | _=>none
noncomputable def rdT (t:Tg):E:=match t with | .loc i=>.loc i | .cel i=>.cel i | .tup _=>.tup []
noncomputable def forS (r:Run) (tg:Tg) (k:ItK) (es:List E) (b:List S) (σ:St):Option (R×St):=match k with
 | .enum=>evs r es σ fun vs σ=>one vs fun v=>v.r fun j=>hL σ.hp j fun xs=>A0A σ j fun σ=>r (.forE tg b xs 0) σ
 | .fit=>one es fun e=>ev r e σ fun v σ=>v.r fun j=>B0G σ.hp j (r (.forF tg b j) σ)
 | .gen=>evs r es σ fun vs σ=>one vs fun v=>v.s fun s=>gd (s.all fun c=>Nat.blt c symB) (r (.forG tg b (escA false 0 s)) σ)
 | .list=>A8u r .list es σ fun j l σ=>A0A σ j fun σ=>r (.for_ tg b l) σ
 | .range=>A8u r .range es σ fun j l σ=>A0A σ j fun σ=>r (.for_ tg b l) σ
noncomputable def evS (r:Run) (s:S) (σ:St):Option (R×St):=S.rec (motive_1:=fun _=>Run→St→Option (R×St)) (motive_2:=fun _=>Unit)
  (fun ts e r σ=>ev r e σ fun v σ₁=>(A1H ts v σ₁).bind fun σ₂=>some (.f .next,tidy σ₂ σ.nx v))
  (fun ts e r σ=>ev r e σ fun v σ₁=>v.r fun j=>(items σ₁.hp j).bind fun vs=>(assignEach ts.reverse vs.reverse σ₁).bind fun σ₂=>some (.f .next,tidy σ₂ σ.nx (.ref j)))
  (fun o i e r σ=>ev r e σ fun v σ=>ev r o σ fun o σ=>ev r i σ fun i σ=>o.r fun j=>i.i fun i=>hL σ.hp j fun xs=>
  if 0≤i∧i.toNat < xs.length then some (.f .next,{ σ with hp:=hset σ.hp j (.list (lset xs i.toNat v)) }) else none)
  (fun t op e r σ=>ev r (rdT t) σ fun a σ=>ev r e σ fun b σ=>gd (!A4G a) ((A1x op σ a b).bind fun p=>flow (A0K t p.1 p.2)))
  (fun e r σ=>ev r e σ fun v σ₁=>v.n (some (.f .next,tidy σ₁ σ.nx .none)))
  (fun e r σ=>ev r e σ fun v σ=>some (.f (.ret v),σ))
  (fun r σ=>some (.f .brk,σ))
  (fun r σ=>some (.f .cont,σ))
  (fun t a b _ _ r σ=>tst r t σ fun c σ₁=>r (.ss (if c then a else b)) (tidy σ₁ σ.nx .none))
  (fun t b _ r σ=>r (.whl t b) σ)
  (fun tg k es b _ r σ=>forS r tg k es b σ)
  (fun t r σ=>tst r t σ fun c σ=>gd c (some (.f .next,σ)))
  (fun o i r σ=>ev r o σ fun o σ=>ev r i σ fun i σ=>o.r fun j=>i.i fun i=>hL σ.hp j fun xs=>(A3J i xs.length).bind fun k=>
  some (.f .next,{ σ with hp:=hset σ.hp j (.list (xs.eraseIdx k)) }))
  (())
  (fun _ _ _ _=>())
  s r σ
noncomputable def A1k (r:Run) (p:Option (R×St)) (k:St→Option (R×St)):Option (R×St):=match p with
 | some (.f .next,σ)=>k σ
 | some (.f .cont,σ)=>k σ
 | some (.f .brk,σ)=>some (.f .next,σ)
 | some (.f (.ret v),σ)=>some (.f (.ret v),σ)
 | _=>none
noncomputable def B8I:O→Bool
 | .list _=>true
 | .tup _=>false
 | .tok ..=>false
 | .lex ..=>false
 | .fit ..=>false
 | .frz _=>false
noncomputable def B8J:List (Nat×O)→List (Nat×O)→Bool
 | [],r=>match r with
  | []=>true
  | _::_=>false
 | p::l,r=>match r with
  | []=>false
  | q::r=>Nat.beq p.1 q.1 && (B8I p.2 && (B8I q.2 && B8J l r))
noncomputable def A3L (σ τ:St):Bool:=Nat.beq σ.nx τ.nx && B8J σ.hp τ.hp
noncomputable def A4J (FT:List Fn):Bool:=match nth FT 8 with
 | some fn=>Nat.blt fn.params 50
 | none=>false
noncomputable def tru (v:V) (σ:St):Option (R×St):=(A4H σ.hp v).bind fun b=>some (.b b,σ)
noncomputable def C0S (r:Run) (e:E) (σ:St):Option (R×St):=match e with
 | .ife ..=>none
 | .lineNe o t=>vals (evE r (.lineNe o t) σ) tru
 | .cmp op a b=>ev r a σ fun a σ=>ev r b σ fun b σ=>(A5w op σ.hp a b).bind fun b=>some (.b b,σ)
 | .not_ a=>tst r a σ fun b σ=>some (.b (!b),σ)
 | .bool isAnd es=>r (.ts isAnd es) σ
 | e=>ev r e σ tru
noncomputable def C0T (r:Run) (tg:Tg) (b:List S) (j lx:Nat) (own:List Nat) (σ:St) (p:List Nat×List (Nat×O)):Option (R×St):=match p.1 with
 | []=>some (.f .next,{ σ with hp:=hset p.2 j (.fit lx true own) })
 | c::s=>(assign tg (.str (c::s)) { σ with hp:=p.2 }).bind fun σ=>A1k r (r (.ss b) σ) fun σ=>r (.forF tg b j) σ
noncomputable def B1K (r:Run) (tg:Tg) (b:List S) (j:Nat) (σ:St):Option (R×St):=match hget σ.hp j with
 | some (.fit lx done own)=>match done with
  | true=>some (.f .next,σ)
  | false=>(A3K σ.hp lx).bind (C0T r tg b j lx own σ)
 | _=>none
noncomputable def back (σ:St) (p:Option (R×St)):Option (R×St):=match p with
 | some (.f .next,σ')=>some (.v .none,{ tidy σ' σ.nx .none with loc:=σ.loc,cel:=σ.cel })
 | some (.f (.ret v),σ')=>some (.v v,{ tidy σ' σ.nx v with loc:=σ.loc,cel:=σ.cel })
 | _=>none
noncomputable def B0H (FT:List Fn) (r:Run) (f:Nat) (vs:List V) (σ:St):Option (R×St):=match A7d (nth FT 11).isSome f vs σ with
 | some p=>some (.v p.1,p.2)
 | none=>(nth FT f).bind fun fn=>if vs.length=fn.params∧vs.length < 50 then
   back σ (r (.ss fn.body) { σ with loc:=vs ++ List.replicate (fn.size - vs.length) .unb,cel:=[] })
  else none
noncomputable def C0U (r:Run) (elt:E) (tg:Tg) (ifs:List E) (gens:List (Tg×ItK×List E×List E)) (acc:Nat) (l:List V) (σ:St):Option (R×St):=match gens with
 | []=>ev r elt σ fun x σ=>hL σ.hp acc fun xs=>if xs.length≤4000 then r (.turns elt tg ifs [] acc l) { σ with hp:=hset σ.hp acc (.list (xs ++ [x])) } else none
 | g::gens=>A7e (r (.comp elt (g::gens) acc) σ) fun σ=>r (.turns elt tg ifs (g::gens) acc l) σ
noncomputable def step (FT:List Fn) (r:Run) (t:Task) (σ:St):Option (R×St):=Task.rec (motive:=fun _=>List Fn→Run→St→Option (R×St))
  (fun e FT r σ=>evE r e σ)
  (fun l FT r σ=>match l with
  | []=>some (.vs [],σ)
  | e::l=>ev r e σ fun v σ=>evs r l σ fun vs σ=>some (.vs (v::vs),σ))
  (fun e FT r σ=>C0S r e σ)
  (fun isAnd l FT r σ=>match l with
  | []=>some (.b isAnd,σ)
  | e::l=>tst r e σ fun b σ=>if b=isAnd then r (.ts isAnd l) σ else some (.b b,σ))
  (fun isAnd l FT r σ=>match l with
  | []=>none
  | e::l=>match l with
   | []=>r (.e e) σ
   | _::_=>ev r e σ fun v σ=>(A4H σ.hp v).bind fun b=>if b=isAnd then r (.bs isAnd l) σ else some (.v v,σ))
  (fun s FT r σ=>evS r s σ)
  (fun l FT r σ=>match l with
  | []=>some (.f .next,σ)
  | s::l=>match r (.s s) σ with
   | some (.f .next,σ)=>r (.ss l) σ
   | x=>x)
  (fun t b FT r σ=>tst r t σ fun c σ=>match c with
  | true=>A1k r (r (.ss b) σ) fun σ=>r (.whl t b) σ
  | false=>some (.f .next,σ))
  (fun tg b l FT r σ=>match l with
  | []=>some (.f .next,σ)
  | v::l=>(assign tg v σ).bind fun σ=>A1k r (r (.ss b) σ) fun σ=>r (.for_ tg b l) σ)
  (fun tg b l i FT r σ=>match l with
  | []=>some (.f .next,σ)
  | v::l=>tg.t fun ts=>(assignEach ts [.int i,v] σ).bind fun σ=>A1k r (r (.ss b) σ) fun σ=>r (.forE tg b l (i + 1)) σ)
  (fun tg b l FT r σ=>gd (A4J FT) (match l with
  | []=>some (.f .next,σ)
  | p::l=>tg.t fun ts=>(assignEach ts [.int p.1,.str p.2] σ).bind fun σ₁=>A1k r (r (.ss b) σ₁) fun σ₂=>gd (A3L σ₁ σ₂) (r (.forG tg b l) σ₂)))
  (fun tg b j FT r σ=>B1K r tg b j σ)
  (fun f vs FT r σ=>B0H FT r f vs σ)
  (fun elt gens acc FT r σ=>match gens with
  | []=>none
  | (tg,k,es,ifs)::gens=>A8u r k es σ fun j l σ=>A0A σ j fun σ=>r (.turns elt tg ifs gens acc l) σ)
  (fun elt tg ifs gens acc l FT r σ=>match l with
  | []=>some (.f .next,σ)
  | v::l=>(assign tg v σ).bind fun σ=>B1J (r (.ts true ifs) σ) fun b σ=>match b with
   | true=>C0U r elt tg ifs gens acc l σ
   | false=>r (.turns elt tg ifs gens acc l) σ)
  t FT r σ
noncomputable def run (FT:List Fn):Nat→Run
 | 0=>fun _ _=>none
 | n + 1=>step FT (run FT n)
theorem A0a {α:Type} {q:Prop} {r:α} (h:none=some r):q:=nomatch h
theorem B7S {α:Type} {q:Prop} {r:α} (h:some r=none):q:=nomatch h
theorem A4K (i:Nat) (x:O) (hp:List (Nat×O)):hget ((i,x)::hp) i=some x:=by
 show (match Nat.beq i i with | true=>some x | false=>hget hp i)=_
 rw [Nat.beq_refl]
theorem notf {q:Prop} (h:true=false):q:=nomatch h
theorem noft {q:Prop} (h:false=true):q:=nomatch h
end Mine
end
section
namespace Mine
section
variable {FT:List Fn} {n:Nat} {σ σ₁ σ₂ σ₃:St} {v w:V} {x:Option (R×St)} {r:Run}
theorem A1o {e:E} {k:V→St→Option (R×St)} (h:r (.e e) σ=some (.v v,σ₁)):ev r e σ k=k v σ₁:=by unfold ev; rw [h]
theorem A3d {es:List E} {vs:List V} {k:List V→St→Option (R×St)} (h:r (.es es) σ=some (.vs vs,σ₁)):evs r es σ k=k vs σ₁:=by unfold evs; rw [h]
theorem C0V {t:E} {c:Bool} {k:Bool→St→Option (R×St)} (h:r (.t t) σ=some (.b c,σ₁)):tst r t σ k=k c σ₁:=by unfold tst; rw [h]
theorem A0U {α β:Type} {o:Option α} {a:α} {f:α→Option β} (h:o=some a):o.bind f=f a:=by rw [h]; rfl
theorem A6t {β:Type} {b:Bool} {k:Option β} (h:b=true):gd b k=k:=by rw [h]; rfl
theorem A7g {o:Option (V×St)} {u:V} {τ:St} (h:o=some (u,τ)):val o=some (.v u,τ):=by rw [h]; rfl
theorem R_ss {s:S} {l:List S} (h:run FT n (.s s) σ=some (.f .next,σ₁)) (k:run FT n (.ss l) σ₁=x):run FT (n + 1) (.ss (s::l)) σ=x:=by
 show (match run FT n (.s s) σ with | some (.f .next,σ)=>run FT n (.ss l) σ | x=>x)=x
 rw [h]; exact k
theorem A6u {s:S} (h:run FT (n + 1) (.s s) σ=x):run FT (n + 2) (.ss [s]) σ=x:=by
 show (match run FT (n + 1) (.s s) σ with | some (.f .next,σ)=>some (.f .next,σ) | x=>x)=x
 rw [h]
 cases x with
 | none=>rfl
 | some p=>
  obtain ⟨r,τ⟩:=p
  cases r with
  | f f=>cases f with
   | next=>rfl
   | _=>rfl
  | _=>rfl
theorem A6v {s:S} {l:List S} (h:run FT n (.s s) σ=some (.f (.ret v),σ₁)):run FT (n + 1) (.ss (s::l)) σ=some (.f (.ret v),σ₁):=by
 show (match run FT n (.s s) σ with | some (.f .next,σ)=>run FT n (.ss l) σ | x=>x)=_
 rw [h]
theorem R_if {t:E} {a b:List S} {c:Bool} (h:run FT n (.t t) σ=some (.b c,σ₁)) (k:run FT n (.ss (if c then a else b)) (tidy σ₁ σ.nx .none)=x):run FT (n + 1) (.s (.ifs t a b)) σ=x:=
 (C0V (k:=fun c σ₁=>run FT n (.ss (if c then a else b)) (tidy σ₁ σ.nx .none)) h).trans k
theorem A3M {ts:List Tg} {e:E} (h:run FT n (.e e) σ=some (.v v,σ₁)) (a:A1H ts v σ₁=some σ₂):run FT (n + 1) (.s (.asg ts e)) σ=some (.f .next,tidy σ₂ σ.nx v):=
 (A1o (k:=fun v σ₁=>(A1H ts v σ₁).bind fun σ₂=>some (.f .next,tidy σ₂ σ.nx v)) h).trans (A0U a)
theorem B1L {e:E} (h:run FT n (.e e) σ=some (.v .none,σ₁)):run FT (n + 1) (.s (.expr e)) σ=some (.f .next,tidy σ₁ σ.nx .none):=
 A1o (k:=fun v σ₁=>v.n (some (.f .next,tidy σ₁ σ.nx .none))) h
theorem A4L {e:E} (h:run FT n (.e e) σ=some (.v v,σ₁)):run FT (n + 1) (.s (.ret e)) σ=some (.f (.ret v),σ₁):=
 A1o (k:=fun v σ=>some (.f (.ret v),σ)) h
theorem B4F {op:Cop} {a b:E} {c:Bool} (h:run FT n (.e a) σ=some (.v v,σ₁)) (k:run FT n (.e b) σ₁=some (.v w,σ₂)) (e:A5w op σ₂.hp v w=some c):run FT (n + 1) (.t (.cmp op a b)) σ=some (.b c,σ₂):=
 (A1o (k:=fun a σ=>ev (run FT n) b σ fun b σ=>(A5w op σ.hp a b).bind fun b=>some (.b b,σ)) h).trans ((A1o k).trans (A0U e))
theorem A5F {op:Cop} {a b:E} {c:Bool} (h:run FT n (.e a) σ=some (.v v,σ₁)) (k:run FT n (.e b) σ₁=some (.v w,σ₂)) (e:A5w op σ₂.hp v w=some c):run FT (n + 1) (.e (.cmp op a b)) σ=some (.v (.bool c),σ₂):=
 (A1o (k:=fun a σ=>ev (run FT n) b σ fun b σ=>(A5w op σ.hp a b).bind fun b=>some (.v (.bool b),σ)) h).trans ((A1o k).trans (A0U e))
theorem A0T {op:Bop} {a b:E} {u':V} (h:run FT n (.e a) σ=some (.v v,σ₁)) (k:run FT n (.e b) σ₁=some (.v w,σ₂)) (e:A1x op σ₂ v w=some (u',σ₃)):run FT (n + 1) (.e (.bin op a b)) σ=some (.v u',σ₃):=
 (A1o (k:=fun a σ=>ev (run FT n) b σ fun b σ=>val (A1x op σ a b)) h).trans ((A1o k).trans (A7g e))
theorem A2O {a b:E} {u:V} (h:run FT n (.e a) σ=some (.v v,σ₁)) (k:run FT n (.e b) σ₁=some (.v w,σ₂)) (e:index σ₂.hp v w=some u):run FT (n + 1) (.e (.idx a b)) σ=some (.v u,σ₂):=
 (A1o (k:=fun o σ=>ev (run FT n) b σ fun i σ=>(index σ.hp o i).bind fun v=>some (.v v,σ)) h).trans ((A1o k).trans (A0U e))
theorem B1M {o:E} {l u:Option E} {a b:Option V} {u':V} (h:run FT n (.e o) σ=some (.v v,σ₁)) (k:∀f:Option V→Option V→St→Option (R×St),evo (run FT n) l σ₁ (fun x σ=>evo (run FT n) u σ fun y σ=>f x y σ)=f a b σ₂) (e:A2C σ₂ v a b=some (u',σ₃)):run FT (n + 1) (.e (.sli o l u)) σ=some (.v u',σ₃):=
 (A1o (k:=fun o σ=>evo (run FT n) l σ fun l σ=>evo (run FT n) u σ fun u σ=>val (A2C σ o l u)) h).trans ((k fun l u σ=>val (A2C σ v l u)).trans (A7g e))
theorem R_es {e:E} {l:List E} {vs:List V} (h:run FT n (.e e) σ=some (.v v,σ₁)) (k:run FT n (.es l) σ₁=some (.vs vs,σ₂)):run FT (n + 1) (.es (e::l)) σ=some (.vs (v::vs),σ₂):=
 (A1o (k:=fun v σ=>evs (run FT n) l σ fun vs σ=>some (.vs (v::vs),σ)) h).trans (A3d k)
theorem R_bi {b:Bi} {es:List E} {vs:List V} {u':V} (h:run FT n (.es es) σ=some (.vs vs,σ₁)) (e:builtin b σ₁ vs=some (u',σ₃)):run FT (n + 1) (.e (.bi b es)) σ=some (.v u',σ₃):=
 (A3d (k:=fun vs σ=>val (builtin b σ vs)) h).trans (A7g e)
theorem B1N {f:Nat} {es:List E} {vs:List V} (h:run FT n (.es es) σ=some (.vs vs,σ₁)) (k:run FT n (.app f vs) σ₁=x):run FT (n + 1) (.e (.call f es)) σ=x:=
 (A3d (k:=fun vs σ=>run FT n (.app f vs) σ) h).trans k
theorem B7T {m:Me} {o:E} {es:List E} {vs:List V} (h:run FT n (.e o) σ=some (.v v,σ₁)) (g:mok m σ₁.hp v=true) (k:run FT n (.es es) σ₁=some (.vs vs,σ₂)) (e:B0F (run FT n) m v σ₂ vs=x):run FT (n + 1) (.e (.meth m o es)) σ=x:=
 (A1o (k:=fun o σ=>gd (mok m σ.hp o) (evs (run FT n) es σ fun vs σ=>B0F (run FT n) m o σ vs)) h).trans ((A6t g).trans ((A3d k).trans e))
theorem A6w {m:Me} {o:E} {es:List E} {vs:List V} {u':V} (h:run FT n (.e o) σ=some (.v v,σ₁)) (g:mok m σ₁.hp v=true) (k:run FT n (.es es) σ₁=some (.vs vs,σ₂)) (pl:B0F (run FT n) m v σ₂ vs=val (A1G m σ₂ v vs)) (e:A1G m σ₂ v vs=some (u',σ₃)):run FT (n + 1) (.e (.meth m o es)) σ=some (.v u',σ₃):=
 B7T h g k (pl.trans (A7g e))
theorem B4G {t:Tg} {op:Bop} {e:E} {p:V×St} (h:run FT n (.e (rdT t)) σ=some (.v v,σ₁)) (k:run FT n (.e e) σ₁=some (.v w,σ₂)) (g:A4G v=false) (b:A1x op σ₂ v w=some p) (a:A0K t p.1 p.2=some σ₃):run FT (n + 1) (.s (.aug t op e)) σ=some (.f .next,σ₃):=
 (A1o (k:=fun a σ=>ev (run FT n) e σ fun b σ=>gd (!A4G a) ((A1x op σ a b).bind fun p=>flow (A0K t p.1 p.2))) h).trans ((A1o k).trans ((A6t (by rw [g]; rfl)).trans ((A0U b).trans (by rw [a]; rfl))))
theorem B1O {i:Bool} {es:List E} (h:run FT n (.bs i es) σ=x):run FT (n + 1) (.e (.bool i es)) σ=x:=h
theorem B8K {i:Bool} {e:E} (h:run FT n (.e e) σ=x):run FT (n + 1) (.bs i [e]) σ=x:=h
theorem C0W {a b:E} {l:List E} {c d:Bool} (h:run FT n (.e a) σ=some (.v (.bool c),σ)) (k:run FT n (.bs true (b::l)) σ=some (.v (.bool d),σ)):run FT (n + 1) (.bs true (a::b::l)) σ=some (.v (.bool (c && d)),σ):=by
 refine (A1o (k:=fun v σ=>(A4H σ.hp v).bind fun c=>if c=true then run FT n (.bs true (b::l)) σ else some (.v v,σ)) h).trans ?_
 cases c with
 | true=>exact k
 | false=>rfl
theorem R_or {a b:E} {l:List E} {c d:Bool} (h:run FT n (.e a) σ=some (.v (.bool c),σ)) (k:run FT n (.bs false (b::l)) σ=some (.v (.bool d),σ)):run FT (n + 1) (.bs false (a::b::l)) σ=some (.v (.bool (c || d)),σ):=by
 refine (A1o (k:=fun v σ=>(A4H σ.hp v).bind fun c=>if c=false then run FT n (.bs false (b::l)) σ else some (.v v,σ)) h).trans ?_
 cases c with
 | true=>rfl
 | false=>exact k
theorem A6x {k:St→Option (R×St)} (h:x=some (.f .next,σ)):A1k r x k=k σ:=by rw [h]; rfl
theorem B8L {tg:Tg} {b:List S} {l:List V} (a:assign tg v σ=some σ₁) (h:run FT n (.ss b) σ₁=some (.f .next,σ₂)) (k:run FT n (.for_ tg b l) σ₂=x):run FT (n + 1) (.for_ tg b (v::l)) σ=x:=
 (A0U (f:=fun σ=>A1k (run FT n) (run FT n (.ss b) σ) fun σ=>run FT n (.for_ tg b l) σ) a).trans ((A6x h).trans k)
theorem A9H {ts:List Tg} {b:List S} {p:Nat×List Nat} {l:List (Nat×List Nat)} (g:A4J FT=true) (a:assignEach ts [.int p.1,.str p.2] σ=some σ₁) (h:run FT n (.ss b) σ₁=some (.f .next,σ₂)) (s:A3L σ₁ σ₂=true) (k:run FT n (.forG (.tup ts) b l) σ₂=x):run FT (n + 1) (.forG (.tup ts) b (p::l)) σ=x:=
 (A6t (k:=(assignEach ts [.int p.1,.str p.2] σ).bind fun σ₁=>A1k (run FT n) (run FT n (.ss b) σ₁) fun σ₂=>gd (A3L σ₁ σ₂) (run FT n (.forG (.tup ts) b l) σ₂)) g).trans ((A0U a).trans ((A6x h).trans ((A6t s).trans k)))
theorem B8M {ts:List Tg} {b:List S} {p:Nat×List Nat} {l:List (Nat×List Nat)} (g:A4J FT=true) (a:assignEach ts [.int p.1,.str p.2] σ=some σ₁) (h:run FT n (.ss b) σ₁=some (.f (.ret v),σ₂)):run FT (n + 1) (.forG (.tup ts) b (p::l)) σ=some (.f (.ret v),σ₂):=
 (A6t (k:=(assignEach ts [.int p.1,.str p.2] σ).bind fun σ₁=>A1k (run FT n) (run FT n (.ss b) σ₁) fun σ₂=>gd (A3L σ₁ σ₂) (run FT n (.forG (.tup ts) b l) σ₂)) g).trans ((A0U a).trans (by rw [h]; rfl))
theorem B8N {tg:Tg} {es:List E} {b:List S} {vs l:List V} (h:run FT n (.es es) σ=some (.vs vs,σ₁)) (e:A4I vs=some l) (f:hget σ₁.hp σ₁.nx=none) (k:run FT n (.for_ tg b l) σ₁=x):run FT (n + 1) (.s (.for_ tg .range es b)) σ=x:=
 (A3d (k:=fun vs σ=>(A4I vs).bind fun l=>A0A σ σ.nx fun σ=>run FT n (.for_ tg b l) σ) h).trans ((A0U e).trans (by unfold A0A; rw [f]; exact k))
theorem B8O {tg:Tg} {e:E} {b:List S} {s:List Nat} (h:run FT n (.es [e]) σ=some (.vs [.str s],σ₁)) (g:(s.all fun c=>Nat.blt c symB)=true) (k:run FT n (.forG tg b (escA false 0 s)) σ₁=x):run FT (n + 1) (.s (.for_ tg .gen [e] b)) σ=x:=
 (A3d (k:=fun vs σ=>one vs fun v=>v.s fun s=>gd (s.all fun c=>Nat.blt c symB) (run FT n (.forG tg b (escA false 0 s)) σ)) h).trans ((A6t g).trans k)
theorem B1P {f:Nat} {vs:List V} {fn:Fn} (h0:(nth FT 11).isSome=false) (h1:nth FT f=some fn) (h2:vs.length=fn.params∧vs.length < 50) (h:run FT n (.ss fn.body) { σ with loc:=vs ++ List.replicate (fn.size - vs.length) .unb,cel:=[] }=some (.f (.ret v),σ₁)):
  run FT (n + 1) (.app f vs) σ=some (.v v,{ tidy σ₁ σ.nx v with loc:=σ.loc,cel:=σ.cel }):=by
 show (match A7d (nth FT 11).isSome f vs σ with | some p=>some (R.v p.1,p.2) | none=>_)=_
 rw [h0]
 refine (A0U (f:=fun fn=>if vs.length=fn.params∧vs.length < 50 then back σ (run FT n (.ss fn.body) { σ with loc:=vs ++ List.replicate (fn.size - vs.length) .unb,cel:=[] }) else none) h1).trans ((if_pos h2).trans ?_)
 rw [h]; rfl
theorem A2i {m i:Nat} {xs:List V} (g:hget σ.hp i=some (.list xs)) (a:xs.any A4G=false):tidy σ m (.ref i)={ σ with hp:=A0Z σ.hp m i }:=by
 show (match hget σ.hp i with | some (.list xs)=>_ | _=>σ)=_
 rw [g]
 show (match xs.any A4G with | true=>σ | false=>{ σ with hp:=A0Z σ.hp m i })=_
 rw [a]
theorem C0X {es:List E} {vs:List V} (h:run FT n (.es es) σ=some (.vs vs,σ₁)) (l:vs.length≤4000):run FT (n + 1) (.e (.lst es)) σ=some (.v (.ref σ₁.nx),{ σ₁ with hp:=(σ₁.nx,.list vs)::σ₁.hp,nx:=σ₁.nx + 1 }):=
 (A3d (k:=fun vs σ=>if vs.length≤4000 then val (some (σ.new (.list vs))) else none) h).trans (if_pos l)
theorem C0Y {es:List E} {vs:List V} (h:run FT n (.es es) σ=some (.vs vs,σ₁)) (l:vs.length≤4000):run FT (n + 1) (.e (.tup es)) σ=some (.v (.ref σ₁.nx),{ σ₁ with hp:=(σ₁.nx,.tup vs)::σ₁.hp,nx:=σ₁.nx + 1 }):=
 (A3d (k:=fun vs σ=>if vs.length≤4000 then val (some (σ.new (.tup vs))) else none) h).trans (if_pos l)
theorem C0Z {ts:List Tg} {b:List S} {l:List V} {i:Nat} (a:assignEach ts [.int i,v] σ=some σ₁) (h:run FT n (.ss b) σ₁=some (.f .next,σ₂)) (k:run FT n (.forE (.tup ts) b l (i + 1)) σ₂=x):run FT (n + 1) (.forE (.tup ts) b (v::l) i) σ=x:=
 (A0U (f:=fun σ=>A1k (run FT n) (run FT n (.ss b) σ) fun σ=>run FT n (.forE (.tup ts) b l (i + 1)) σ) a).trans ((A6x h).trans k)
theorem C1a {tg:Tg} {e:E} {b:List S} {j:Nat} {xs:List V} {y:R} (h:run FT n (.es [e]) σ=some (.vs [.ref j],σ₁)) (g:hget σ₁.hp j=some (.list xs)) (k:run FT n (.forE tg b xs 0) { σ₁ with hp:=A0H σ₁.hp j }=some (y,σ₂)):run FT (n + 1) (.s (.for_ tg .enum [e] b)) σ=some (y,{ σ₂ with hp:=(j,.list xs)::σ₂.hp }):=by
 refine (A3d (k:=fun vs σ=>one vs fun v=>v.r fun j=>hL σ.hp j fun xs=>A0A σ j fun σ=>run FT n (.forE tg b xs 0) σ) h).trans ?_
 show hL σ₁.hp j (fun xs=>A0A σ₁ j fun σ=>run FT n (.forE tg b xs 0) σ)=_
 unfold hL A0A
 rw [g]
 exact A0U k
theorem C1b {elt:E} {tg:Tg} {acc:Nat} {l xs:List V} (a:assign tg v σ=some σ₁) (c:run FT n (.ts true []) σ₁=some (.b true,σ₁)) (h:run FT n (.e elt) σ₁=some (.v w,σ₂)) (g:hget σ₂.hp acc=some (.list xs)) (b:xs.length≤4000) (k:run FT n (.turns elt tg [] [] acc l) { σ₂ with hp:=hset σ₂.hp acc (.list (xs ++ [w])) }=x):run FT (n + 1) (.turns elt tg [] [] acc (v::l)) σ=x:=by
 refine (A0U (f:=fun σ=>B1J (run FT n (.ts true []) σ) fun b σ=>match b with
  | true=>C0U (run FT n) elt tg [] [] acc l σ
  | false=>run FT n (.turns elt tg [] [] acc l) σ) a).trans ?_
 unfold B1J
 rw [c]
 refine (A1o (k:=fun x σ=>hL σ.hp acc fun xs=>if xs.length≤4000 then run FT n (.turns elt tg [] [] acc l) { σ with hp:=hset σ.hp acc (.list (xs ++ [x])) } else none) h).trans ?_
 unfold hL
 rw [g]
 exact (if_pos b).trans k
theorem C1c {elt e:E} {m j:Nat} {tg:Tg} {ifs:List E} {gens:List (Tg×ItK×List E×List E)} {xs:List V} (h:run FT n (.e e) σ=some (.v (.ref j),σ₁)) (g:hget σ₁.hp j=some (.list xs)) (k:run FT n (.turns elt tg ifs gens σ₁.nx xs) { loc:=List.replicate m .unb,cel:=σ₁.cel,hp:=(σ₁.nx,.list [])::A0H σ₁.hp j,nx:=σ₁.nx + 1 }=some (.f .next,σ₂)):
  run FT (n + 1) (.e (.comp elt m tg .list [e] ifs gens)) σ=some (.v (.ref σ₁.nx),{ σ₂ with loc:=σ₁.loc,hp:=(j,.list xs)::σ₂.hp }):=by
 refine (A1o (k:=fun v σ=>v.r fun j=>hL σ.hp j fun l=>A0A σ j fun σ=>A7e (run FT n (.turns elt tg ifs gens σ.nx l) { loc:=List.replicate m .unb,cel:=σ.cel,hp:=(σ.nx,.list [])::σ.hp,nx:=σ.nx + 1 }) fun σ₂=>some (.v (.ref σ.nx),{ σ₂ with loc:=σ.loc })) h).trans ?_
 show hL σ₁.hp j (fun l=>A0A σ₁ j fun σ=>A7e (run FT n (.turns elt tg ifs gens σ.nx l) { loc:=List.replicate m .unb,cel:=σ.cel,hp:=(σ.nx,.list [])::σ.hp,nx:=σ.nx + 1 }) fun σ₂=>some (.v (.ref σ.nx),{ σ₂ with loc:=σ.loc }))=_
 unfold hL A0A
 rw [g]
 unfold A7e
 dsimp only
 rw [k]
 rfl
theorem C1d {tg:Tg} {e:E} {b:List S} {j:Nat} {xs:List V} {y:R} (h:run FT n (.e e) σ=some (.v (.ref j),σ₁)) (g:hget σ₁.hp j=some (.list xs)) (k:run FT n (.for_ tg b xs) { σ₁ with hp:=A0H σ₁.hp j }=some (y,σ₂)):run FT (n + 1) (.s (.for_ tg .list [e] b)) σ=some (y,{ σ₂ with hp:=(j,.list xs)::σ₂.hp }):=by
 refine (A1o (k:=fun v σ=>v.r fun j=>hL σ.hp j fun l=>A0A σ j fun σ=>run FT n (.for_ tg b l) σ) h).trans ?_
 show hL σ₁.hp j (fun l=>A0A σ₁ j fun σ=>run FT n (.for_ tg b l) σ)=_
 unfold hL A0A
 rw [g]
 exact A0U k
theorem C1e {o i e:E} {j:Nat} {k:Int} {xs:List V} (h:run FT n (.e e) σ=some (.v v,σ₁)) (ho:run FT n (.e o) σ₁=some (.v (.ref j),σ₂)) (hi:run FT n (.e i) σ₂=some (.v (.int k),σ₃)) (g:hget σ₃.hp j=some (.list xs)) (b:0≤k∧k.toNat < xs.length):run FT (n + 1) (.s (.put o i e)) σ=some (.f .next,{ σ₃ with hp:=hset σ₃.hp j (.list (lset xs k.toNat v)) }):=by
 refine (A1o (k:=fun v σ=>ev (run FT n) o σ fun o σ=>ev (run FT n) i σ fun i σ=>o.r fun j=>i.i fun i=>hL σ.hp j fun xs=>if 0≤i∧i.toNat < xs.length then some (.f .next,{ σ with hp:=hset σ.hp j (.list (lset xs i.toNat v)) }) else none) h).trans ((A1o ho).trans ((A1o hi).trans ?_))
 show hL σ₃.hp j (fun xs=>if 0≤k∧k.toNat < xs.length then some (R.f .next,{ σ₃ with hp:=hset σ₃.hp j (.list (lset xs k.toNat v)) }) else none)=_
 unfold hL
 rw [g]
 exact if_pos b
end
end Mine
end
section
namespace Mine
open PySem
structure Ctx where
 names:List (Str×NameKind)
 locs:List Str
 cels:List Str
noncomputable def A0t (l:List (Str×NameKind)):List Str:=l.filterMap fun p=>match p.2 with | .local=>some p.1 | _=>none
noncomputable def A4M (l:List (Str×NameKind)):List Str:=l.filterMap fun p=>match p.2 with | .cell=>some p.1 | .free=>some p.1 | _=>none
noncomputable def A0i (sc:Scope):Ctx:=⟨sc.names,A0t sc.names,A4M sc.names⟩
noncomputable def at? (l:List Str) (x:Str):Option Nat:=l.findIdx? (· == x)
noncomputable def B1Q:List Str:=["_law_row", "_law_file", "_law_pieces", "_law_word", "_ellipsis_match", "_substitution_cost", "_levenshtein_distance", "_check_parenthesis", "_strip_quoted_realnames"]
noncomputable def A1P (x:Str):Option V:=
 if x == "ELLIPSIS_MARKER" then some (.str [46,46,46])
 else if x == "_MAX_STRING_SIZE" then some (.int 40)
 else if x == "_MOVE_COST" then some (.int 2)
 else if x == "_CASE_COST" then some (.int 1)
 else none
noncomputable def B1R (o:PySem.Expr):Bool:=match o with | .Call ..=>false | _=>true
noncomputable def A2f (apos pos:Pos) (n:Nat) (o:PySem.Expr):Bool:=apos.endLine == pos.line && decide (n < 30) && B1R o
noncomputable def opB:Bop→Operator
 | .add=>.Add | .sub=>.Sub | .mul=>.Mult | .fdiv=>.FloorDiv | .mod=>.Mod | .pow=>.Pow
noncomputable def opC:Cop→CmpOp
 | .eq=>.Eq | .ne=>.NotEq | .lt=>.Lt | .le=>.LtE | .gt=>.Gt | .ge=>.GtE | .isin=>.In | .notin=>.NotIn | .is_=>.Is
noncomputable def opOf (isAnd:Bool):PySem.BoolOp:=if isAnd then .And else .Or
noncomputable def A8v:Me→Str
 | .append => "append" | .pop => "pop" | .index => "index" | .count => "count" | .split => "split" | .startswith => "startswith" | .endswith => "endswith" | .find => "find" | .lower => "lower" | .join => "join"
 | .getToken => "get_token" | .pushToken => "push_token" | .readChar => "_read_char" | .upper => "upper"
noncomputable def A8w:Bi→Str
 | .len => "len" | .sum => "sum" | .min => "min" | .max => "max" | .chr => "chr" | .int => "int" | .iterRead => ""
noncomputable def A7h:At→Str
 | .pushback => "pushback" | .whitespace => "whitespace" | .lineno => "lineno"
noncomputable def A3e:List Str:=["len", "sum", "min", "max", "chr", "int", "range", "list", "enumerate", "iter"]
noncomputable def A2j (f:Nat):Option Str:=match Nat.beq f 99 with
 | true=>some "_law_lexer"
 | false=>nth B1Q f
noncomputable def All2 {α β:Type} (R:α→β→Prop):List α→List β→Prop
 | [],l=>l=[]
 | x::r,l=>∃y t,l=y::t∧R x y∧All2 R r t
noncomputable def hd {α:Type} [Inhabited α]:List α→α | []=>default | x::_=>x
noncomputable def tl {α:Type}:List α→List α | []=>[] | _::r=>r
noncomputable def mkL {α β:Type} [Inhabited β] (f:α→β→β):List α→List β→List β
 | [],_=>[]
 | x::r,l=>f x (hd l)::mkL f r (tl l)
noncomputable def okL {α β:Type} [Inhabited β] (g:α→β→Bool):List α→List β→Bool
 | [],_=>true
 | x::r,l=>g x (hd l) && okL g r (tl l)
theorem both {a b:Bool} (h:(a && b)=true):a=true∧b=true:=Bool.and_eq_true_iff.mp h
theorem A1i {α β:Type} [Inhabited β] {f:α→β→β} {g:α→β→Bool} {R:α→β→Prop} (H:∀x y,f x y=y→g x y=true→R x (f x y)):∀(l:List α) (m:List β),mkL f l m=m→okL g l m=true→All2 R l (mkL f l m)
 | [],_,_,_=>rfl
 | x::r,m,h,k=>⟨_,_,rfl,H x (hd m) (congrArg hd h) (both k).1,A1i H r (tl m) (congrArg tl h) (both k).2⟩
noncomputable def litV:Const→Option V
 | .none=>some .none
 | .bool b=>some (.bool b)
 | .int i=>some (.int i)
 | .str s=>if s.cps.toList.length≤4000∧(s.cps.toList.all fun c=>Nat.blt c symB)=true then some (.str s.cps.toList) else none
 | _=>none
noncomputable def A0I (c:Ctx) (x:Str):Bool:=c.names.lookup x == some .globalImplicit
noncomputable def A0x (c:Ctx) (sc:Scope):Bool:=sc.kind == .function && sc.names.all fun p=>p.1 != ("__debug__" : Str) && (match p.2 with
 | .local=>sc.names.lookup p.1 == some .local
 | .free=>(at? c.cels p.1).isSome && (c.names.lookup p.1 == some .cell || c.names.lookup p.1 == some .free)
 | .globalImplicit=>true
 | _=>false)
namespace Ac
noncomputable def A (e:PySem.Expr):PySem.Expr:=match e with
 | .BoolOp _ _ _=>e
 | .NamedExpr _ _ _=>e
 | .BinOp x _ _ _=>x
 | .UnaryOp _ x _=>x
 | .Lambda _ _ _ _=>e
 | .IfExp x _ _ _=>x
 | .Dict _ _ _=>e
 | .Set _ _ _=>e
 | .ListComp x _ _ _=>x
 | .SetComp _ _ _ _=>e
 | .DictComp _ _ _ _ _=>e
 | .GeneratorExp _ _ _ _=>e
 | .Await _ _=>e
 | .Yield _ _=>e
 | .YieldFrom _ _=>e
 | .Compare x _ _ _=>x
 | .Call x _ _ _=>x
 | .FormattedValue _ _ _ _=>e
 | .JoinedStr _ _=>e
 | .Constant _ _ _=>e
 | .Attribute x _ _=>x
 | .Subscript x _ _=>x
 | .Starred _ _=>e
 | .Name _ _=>e
 | .List _ _=>e
 | .Tuple _ _ _=>e
 | .Slice _ _ _ _=>e
noncomputable def B (e:PySem.Expr):PySem.Expr:=match e with
 | .BoolOp _ _ _=>e
 | .NamedExpr _ _ _=>e
 | .BinOp _ _ x _=>x
 | .UnaryOp _ _ _=>e
 | .Lambda _ _ _ _=>e
 | .IfExp _ x _ _=>x
 | .Dict _ _ _=>e
 | .Set _ _ _=>e
 | .ListComp _ _ _ _=>e
 | .SetComp _ _ _ _=>e
 | .DictComp _ _ _ _ _=>e
 | .GeneratorExp _ _ _ _=>e
 | .Await _ _=>e
 | .Yield _ _=>e
 | .YieldFrom _ _=>e
 | .Compare _ _ _ _=>e
 | .Call _ _ _ _=>e
 | .FormattedValue _ _ _ _=>e
 | .JoinedStr _ _=>e
 | .Constant _ _ _=>e
 | .Attribute _ _ _=>e
 | .Subscript _ x _=>x
 | .Starred _ _=>e
 | .Name _ _=>e
 | .List _ _=>e
 | .Tuple _ _ _=>e
 | .Slice _ _ _ _=>e
noncomputable def D (e:PySem.Expr):PySem.Expr:=match e with
 | .BoolOp _ _ _=>e
 | .NamedExpr _ _ _=>e
 | .BinOp _ _ _ _=>e
 | .UnaryOp _ _ _=>e
 | .Lambda _ _ _ _=>e
 | .IfExp _ _ x _=>x
 | .Dict _ _ _=>e
 | .Set _ _ _=>e
 | .ListComp _ _ _ _=>e
 | .SetComp _ _ _ _=>e
 | .DictComp _ _ _ _ _=>e
 | .GeneratorExp _ _ _ _=>e
 | .Await _ _=>e
 | .Yield _ _=>e
 | .YieldFrom _ _=>e
 | .Compare _ _ _ _=>e
 | .Call _ _ _ _=>e
 | .FormattedValue _ _ _ _=>e
 | .JoinedStr _ _=>e
 | .Constant _ _ _=>e
 | .Attribute _ _ _=>e
 | .Subscript _ _ _=>e
 | .Starred _ _=>e
 | .Name _ _=>e
 | .List _ _=>e
 | .Tuple _ _ _=>e
 | .Slice _ _ _ _=>e
noncomputable def L (e:PySem.Expr):List PySem.Expr:=match e with
 | .BoolOp _ l _=>l
 | .NamedExpr _ _ _=>[]
 | .BinOp _ _ _ _=>[]
 | .UnaryOp _ _ _=>[]
 | .Lambda _ _ _ _=>[]
 | .IfExp _ _ _ _=>[]
 | .Dict _ _ _=>[]
 | .Set _ _ _=>[]
 | .ListComp _ _ _ _=>[]
 | .SetComp _ _ _ _=>[]
 | .DictComp _ _ _ _ _=>[]
 | .GeneratorExp _ _ _ _=>[]
 | .Await _ _=>[]
 | .Yield _ _=>[]
 | .YieldFrom _ _=>[]
 | .Compare _ _ l _=>l
 | .Call _ l _ _=>l
 | .FormattedValue _ _ _ _=>[]
 | .JoinedStr _ _=>[]
 | .Constant _ _ _=>[]
 | .Attribute _ _ _=>[]
 | .Subscript _ _ _=>[]
 | .Starred _ _=>[]
 | .Name _ _=>[]
 | .List l _=>l
 | .Tuple l _ _=>l
 | .Slice _ _ _ _=>[]
noncomputable def p (e:PySem.Expr):Pos:=match e with
 | .BoolOp _ _ p=>p
 | .NamedExpr _ _ _=>default
 | .BinOp _ _ _ p=>p
 | .UnaryOp _ _ p=>p
 | .Lambda _ _ _ _=>default
 | .IfExp _ _ _ p=>p
 | .Dict _ _ _=>default
 | .Set _ _ _=>default
 | .ListComp _ _ _ p=>p
 | .SetComp _ _ _ _=>default
 | .DictComp _ _ _ _ _=>default
 | .GeneratorExp _ _ _ _=>default
 | .Await _ _=>default
 | .Yield _ _=>default
 | .YieldFrom _ _=>default
 | .Compare _ _ _ p=>p
 | .Call _ _ _ p=>p
 | .FormattedValue _ _ _ _=>default
 | .JoinedStr _ _=>default
 | .Constant _ _ p=>p
 | .Attribute _ _ p=>p
 | .Subscript _ _ p=>p
 | .Starred _ _=>default
 | .Name _ p=>p
 | .List _ p=>p
 | .Tuple _ _ p=>p
 | .Slice _ _ _ p=>p
noncomputable def nm (e:PySem.Expr):Str:=match e with
 | .BoolOp _ _ _=>default
 | .NamedExpr _ _ _=>default
 | .BinOp _ _ _ _=>default
 | .UnaryOp _ _ _=>default
 | .Lambda _ _ _ _=>default
 | .IfExp _ _ _ _=>default
 | .Dict _ _ _=>default
 | .Set _ _ _=>default
 | .ListComp _ _ _ _=>default
 | .SetComp _ _ _ _=>default
 | .DictComp _ _ _ _ _=>default
 | .GeneratorExp _ _ _ _=>default
 | .Await _ _=>default
 | .Yield _ _=>default
 | .YieldFrom _ _=>default
 | .Compare _ _ _ _=>default
 | .Call _ _ _ _=>default
 | .FormattedValue _ _ _ _=>default
 | .JoinedStr _ _=>default
 | .Constant _ _ _=>default
 | .Attribute _ _ _=>default
 | .Subscript _ _ _=>default
 | .Starred _ _=>default
 | .Name x _=>x
 | .List _ _=>default
 | .Tuple _ _ _=>default
 | .Slice _ _ _ _=>default
noncomputable def isNm (e:PySem.Expr):Bool:=match e with
 | .BoolOp _ _ _=>false
 | .NamedExpr _ _ _=>false
 | .BinOp _ _ _ _=>false
 | .UnaryOp _ _ _=>false
 | .Lambda _ _ _ _=>false
 | .IfExp _ _ _ _=>false
 | .Dict _ _ _=>false
 | .Set _ _ _=>false
 | .ListComp _ _ _ _=>false
 | .SetComp _ _ _ _=>false
 | .DictComp _ _ _ _ _=>false
 | .GeneratorExp _ _ _ _=>false
 | .Await _ _=>false
 | .Yield _ _=>false
 | .YieldFrom _ _=>false
 | .Compare _ _ _ _=>false
 | .Call _ _ _ _=>false
 | .FormattedValue _ _ _ _=>false
 | .JoinedStr _ _=>false
 | .Constant _ _ _=>false
 | .Attribute _ _ _=>false
 | .Subscript _ _ _=>false
 | .Starred _ _=>false
 | .Name _ _=>true
 | .List _ _=>false
 | .Tuple _ _ _=>false
 | .Slice _ _ _ _=>false
noncomputable def k (e:PySem.Expr):Nat:=match e with
 | .BoolOp _ _ _=>0
 | .NamedExpr _ _ _=>0
 | .BinOp _ _ _ _=>0
 | .UnaryOp _ _ _=>0
 | .Lambda _ _ _ _=>0
 | .IfExp _ _ _ _=>0
 | .Dict _ _ _=>0
 | .Set _ _ _=>0
 | .ListComp _ _ _ _=>0
 | .SetComp _ _ _ _=>0
 | .DictComp _ _ _ _ _=>0
 | .GeneratorExp _ _ _ _=>0
 | .Await _ _=>0
 | .Yield _ _=>0
 | .YieldFrom _ _=>0
 | .Compare _ _ _ _=>0
 | .Call _ _ _ _=>0
 | .FormattedValue _ _ _ _=>0
 | .JoinedStr _ _=>0
 | .Constant _ k _=>k
 | .Attribute _ _ _=>0
 | .Subscript _ _ _=>0
 | .Starred _ _=>0
 | .Name _ _=>0
 | .List _ _=>0
 | .Tuple _ k _=>k
 | .Slice _ _ _ _=>0
noncomputable def cst (e:PySem.Expr):Const:=match e with
 | .BoolOp _ _ _=>.none
 | .NamedExpr _ _ _=>.none
 | .BinOp _ _ _ _=>.none
 | .UnaryOp _ _ _=>.none
 | .Lambda _ _ _ _=>.none
 | .IfExp _ _ _ _=>.none
 | .Dict _ _ _=>.none
 | .Set _ _ _=>.none
 | .ListComp _ _ _ _=>.none
 | .SetComp _ _ _ _=>.none
 | .DictComp _ _ _ _ _=>.none
 | .GeneratorExp _ _ _ _=>.none
 | .Await _ _=>.none
 | .Yield _ _=>.none
 | .YieldFrom _ _=>.none
 | .Compare _ _ _ _=>.none
 | .Call _ _ _ _=>.none
 | .FormattedValue _ _ _ _=>.none
 | .JoinedStr _ _=>.none
 | .Constant c _ _=>c
 | .Attribute _ _ _=>.none
 | .Subscript _ _ _=>.none
 | .Starred _ _=>.none
 | .Name _ _=>.none
 | .List _ _=>.none
 | .Tuple _ _ _=>.none
 | .Slice _ _ _ _=>.none
noncomputable def lo (e:PySem.Expr):Option PySem.Expr:=match e with
 | .BoolOp _ _ _=>none
 | .NamedExpr _ _ _=>none
 | .BinOp _ _ _ _=>none
 | .UnaryOp _ _ _=>none
 | .Lambda _ _ _ _=>none
 | .IfExp _ _ _ _=>none
 | .Dict _ _ _=>none
 | .Set _ _ _=>none
 | .ListComp _ _ _ _=>none
 | .SetComp _ _ _ _=>none
 | .DictComp _ _ _ _ _=>none
 | .GeneratorExp _ _ _ _=>none
 | .Await _ _=>none
 | .Yield _ _=>none
 | .YieldFrom _ _=>none
 | .Compare _ _ _ _=>none
 | .Call _ _ _ _=>none
 | .FormattedValue _ _ _ _=>none
 | .JoinedStr _ _=>none
 | .Constant _ _ _=>none
 | .Attribute _ _ _=>none
 | .Subscript _ _ _=>none
 | .Starred _ _=>none
 | .Name _ _=>none
 | .List _ _=>none
 | .Tuple _ _ _=>none
 | .Slice x _ _ _=>x
noncomputable def up (e:PySem.Expr):Option PySem.Expr:=match e with
 | .BoolOp _ _ _=>none
 | .NamedExpr _ _ _=>none
 | .BinOp _ _ _ _=>none
 | .UnaryOp _ _ _=>none
 | .Lambda _ _ _ _=>none
 | .IfExp _ _ _ _=>none
 | .Dict _ _ _=>none
 | .Set _ _ _=>none
 | .ListComp _ _ _ _=>none
 | .SetComp _ _ _ _=>none
 | .DictComp _ _ _ _ _=>none
 | .GeneratorExp _ _ _ _=>none
 | .Await _ _=>none
 | .Yield _ _=>none
 | .YieldFrom _ _=>none
 | .Compare _ _ _ _=>none
 | .Call _ _ _ _=>none
 | .FormattedValue _ _ _ _=>none
 | .JoinedStr _ _=>none
 | .Constant _ _ _=>none
 | .Attribute _ _ _=>none
 | .Subscript _ _ _=>none
 | .Starred _ _=>none
 | .Name _ _=>none
 | .List _ _=>none
 | .Tuple _ _ _=>none
 | .Slice _ x _ _=>x
noncomputable def sc (e:PySem.Expr):Scope:=match e with
 | .BoolOp _ _ _=>default
 | .NamedExpr _ _ _=>default
 | .BinOp _ _ _ _=>default
 | .UnaryOp _ _ _=>default
 | .Lambda _ _ _ _=>default
 | .IfExp _ _ _ _=>default
 | .Dict _ _ _=>default
 | .Set _ _ _=>default
 | .ListComp _ _ x _=>x
 | .SetComp _ _ _ _=>default
 | .DictComp _ _ _ _ _=>default
 | .GeneratorExp _ _ _ _=>default
 | .Await _ _=>default
 | .Yield _ _=>default
 | .YieldFrom _ _=>default
 | .Compare _ _ _ _=>default
 | .Call _ _ _ _=>default
 | .FormattedValue _ _ _ _=>default
 | .JoinedStr _ _=>default
 | .Constant _ _ _=>default
 | .Attribute _ _ _=>default
 | .Subscript _ _ _=>default
 | .Starred _ _=>default
 | .Name _ _=>default
 | .List _ _=>default
 | .Tuple _ _ _=>default
 | .Slice _ _ _ _=>default
noncomputable def gs (e:PySem.Expr):List Comprehension:=match e with
 | .BoolOp _ _ _=>[]
 | .NamedExpr _ _ _=>[]
 | .BinOp _ _ _ _=>[]
 | .UnaryOp _ _ _=>[]
 | .Lambda _ _ _ _=>[]
 | .IfExp _ _ _ _=>[]
 | .Dict _ _ _=>[]
 | .Set _ _ _=>[]
 | .ListComp _ x _ _=>x
 | .SetComp _ _ _ _=>[]
 | .DictComp _ _ _ _ _=>[]
 | .GeneratorExp _ _ _ _=>[]
 | .Await _ _=>[]
 | .Yield _ _=>[]
 | .YieldFrom _ _=>[]
 | .Compare _ _ _ _=>[]
 | .Call _ _ _ _=>[]
 | .FormattedValue _ _ _ _=>[]
 | .JoinedStr _ _=>[]
 | .Constant _ _ _=>[]
 | .Attribute _ _ _=>[]
 | .Subscript _ _ _=>[]
 | .Starred _ _=>[]
 | .Name _ _=>[]
 | .List _ _=>[]
 | .Tuple _ _ _=>[]
 | .Slice _ _ _ _=>[]
theorem nm_on {e:PySem.Expr} (h:isNm e=true):∃x p,e=.Name x p:=match e with
 | .Name x p=>⟨x,p,rfl⟩
 | .BoolOp .. | .NamedExpr .. | .BinOp .. | .UnaryOp .. | .Lambda .. | .IfExp .. | .Dict .. | .Set .. | .ListComp .. | .SetComp .. | .DictComp .. | .GeneratorExp .. | .Await .. | .Yield .. | .YieldFrom .. | .Compare .. | .Call .. | .FormattedValue .. | .JoinedStr .. | .Constant .. | .Attribute .. | .Subscript .. | .Starred .. | .List .. | .Tuple .. | .Slice ..=>noft h
noncomputable def oe (o:Option PySem.Expr):PySem.Expr:=match o with | some x=>x | none=>default
end Ac
open Ac
noncomputable def B1S (e:PySem.Expr):Bool:=match e with
 | .BoolOp _ _ _=>true
 | .NamedExpr _ _ _=>true
 | .BinOp _ _ _ _=>true
 | .UnaryOp _ _ _=>true
 | .Lambda _ _ _ _=>true
 | .IfExp _ _ _ _=>true
 | .Dict _ _ _=>true
 | .Set _ _ _=>true
 | .ListComp _ _ _ _=>true
 | .SetComp _ _ _ _=>true
 | .DictComp _ _ _ _ _=>true
 | .GeneratorExp _ _ _ _=>true
 | .Await _ _=>true
 | .Yield _ _=>true
 | .YieldFrom _ _=>true
 | .Compare _ _ _ _=>true
 | .Call _ _ _ _=>true
 | .FormattedValue _ _ _ _=>true
 | .JoinedStr _ _=>true
 | .Constant _ _ _=>true
 | .Attribute _ _ _=>true
 | .Subscript _ _ _=>true
 | .Starred _ _=>false
 | .Name _ _=>true
 | .List _ _=>true
 | .Tuple _ _ _=>true
 | .Slice _ _ _ _=>true
noncomputable def noSl (e:PySem.Expr):Bool:=match e with
 | .BoolOp _ _ _=>true
 | .NamedExpr _ _ _=>true
 | .BinOp _ _ _ _=>true
 | .UnaryOp _ _ _=>true
 | .Lambda _ _ _ _=>true
 | .IfExp _ _ _ _=>true
 | .Dict _ _ _=>true
 | .Set _ _ _=>true
 | .ListComp _ _ _ _=>true
 | .SetComp _ _ _ _=>true
 | .DictComp _ _ _ _ _=>true
 | .GeneratorExp _ _ _ _=>true
 | .Await _ _=>true
 | .Yield _ _=>true
 | .YieldFrom _ _=>true
 | .Compare _ _ _ _=>true
 | .Call _ _ _ _=>true
 | .FormattedValue _ _ _ _=>true
 | .JoinedStr _ _=>true
 | .Constant _ _ _=>true
 | .Attribute _ _ _=>true
 | .Subscript _ _ _=>true
 | .Starred _ _=>true
 | .Name _ _=>true
 | .List _ _=>true
 | .Tuple _ _ _=>true
 | .Slice _ _ _ _=>false
noncomputable def A8x (e:PySem.Expr):Bool:=match e with
 | .BoolOp _ _ _=>true
 | .NamedExpr _ _ _=>true
 | .BinOp _ _ _ _=>true
 | .UnaryOp _ _ _=>true
 | .Lambda _ _ _ _=>true
 | .IfExp _ _ _ _=>true
 | .Dict _ _ _=>true
 | .Set _ _ _=>false
 | .ListComp _ _ _ _=>true
 | .SetComp _ _ _ _=>true
 | .DictComp _ _ _ _ _=>true
 | .GeneratorExp _ _ _ _=>true
 | .Await _ _=>true
 | .Yield _ _=>true
 | .YieldFrom _ _=>true
 | .Compare _ _ _ _=>true
 | .Call _ _ _ _=>true
 | .FormattedValue _ _ _ _=>true
 | .JoinedStr _ _=>true
 | .Constant _ _ _=>true
 | .Attribute _ _ _=>true
 | .Subscript _ _ _=>true
 | .Starred _ _=>true
 | .Name _ _=>true
 | .List _ _=>true
 | .Tuple _ _ _=>true
 | .Slice _ _ _ _=>true
noncomputable def cc (c:Ctx) (sc:Scope):Ctx:=⟨sc.names,A0t sc.names,c.cels⟩
noncomputable abbrev Gen:=Tg×ItK×List E×List E
noncomputable abbrev RE:=E→PySem.Expr→Prop
noncomputable def kX (e:PySem.Expr):Nat:=match e with
 | .BoolOp _ _ _=>1
 | .NamedExpr _ _ _=>0
 | .BinOp _ _ _ _=>0
 | .UnaryOp _ _ _=>2
 | .Lambda _ _ _ _=>0
 | .IfExp _ _ _ _=>4
 | .Dict _ _ _=>0
 | .Set _ _ _=>0
 | .ListComp _ _ _ _=>6
 | .SetComp _ _ _ _=>7
 | .DictComp _ _ _ _ _=>7
 | .GeneratorExp _ _ _ _=>0
 | .Await _ _=>0
 | .Yield _ _=>0
 | .YieldFrom _ _=>0
 | .Compare _ _ _ _=>3
 | .Call _ _ _ _=>0
 | .FormattedValue _ _ _ _=>0
 | .JoinedStr _ _=>0
 | .Constant _ _ _=>0
 | .Attribute _ _ _=>0
 | .Subscript _ _ _=>0
 | .Starred _ _=>0
 | .Name _ _=>0
 | .List _ _=>0
 | .Tuple _ _ _=>5
 | .Slice _ _ _ _=>0
noncomputable def kE:E→Nat
 | .bool ..=>1
 | .not_ _=>2
 | .neg _=>2
 | .cmp ..=>3
 | .lineNe ..=>3
 | .ife ..=>4
 | .tup _=>5
 | .comp ..=>6
 | .lit _ | .loc _ | .cel _ | .bin .. | .idx .. | .sli .. | .lst _ | .call .. | .bi .. | .meth .. | .attr .. | .lrange _ | .iter _=>0
noncomputable def NmE (c:Ctx) (e:E) (x:Str):Prop:=match e with
 | .loc i=>c.names.lookup x=some .local∧at? c.locs x=some i
 | .cel i=>(c.names.lookup x=some .cell∨c.names.lookup x=some .free)∧at? c.cels x=some i
 | .lit v=>A0I c x=true∧A1P x=some v
 | _=>False
noncomputable def TgN (c:Ctx) (t:Tg) (x:Str):Prop:=match t with
 | .loc i=>c.names.lookup x=some .local∧at? c.locs x=some i
 | .cel i=>c.names.lookup x=some .cell∧at? c.cels x=some i
 | .tup _=>False
noncomputable def NmX (c:Ctx) (e:E) (ex:PySem.Expr):Prop:=∃x p,ex=.Name x p∧NmE c e x
noncomputable def TgX (c:Ctx) (t:Tg) (ex:PySem.Expr):Prop:=∃x p,ex=.Name x p∧TgN c t x
noncomputable def TrT:Nat→Ctx→Tg→PySem.Expr→Prop
 | 0,_,_,_=>False
 | n + 1,c,t,ex=>match t with
  | .loc i=>TgX c (.loc i) ex
  | .cel i=>TgX c (.cel i) ex
  | .tup l=>∃xs d p,ex=.Tuple xs d p∧All2 (TrT n c) l xs
noncomputable def TrL (R:RE) (es:List E) (xs:List PySem.Expr):Prop:=All2 (fun e x=>B1S x=true∧R e x) es xs
noncomputable def TrO (R:RE) (o:Option E) (x:Option PySem.Expr):Prop:=match o with
 | none=>x=none
 | some e=>∃y,x=some y∧R e y
noncomputable def A2D (R:RE) (c:Ctx) (f:Str) (es:List E) (it:PySem.Expr):Prop:=∃p xs pos,it=.Call (.Name f p) xs [] pos∧A0I c f=true∧TrL R es xs
noncomputable def TrI (R:RE) (c:Ctx) (k:ItK) (es:List E) (it:PySem.Expr):Prop:=match k with
 | .range=>A2D R c "range" es it
 | .gen=>A2D R c "_iter_escaped_chars" es it
 | .enum=>A2D R c "enumerate" es it
 | .fit=>∃e p,es=[e]∧it=.Name "fiter" p∧R e it
 | .list=>∃e,es=[e]∧A8x it=true∧R e it
noncomputable def TrG (T:Tg→PySem.Expr→Prop) (R:RE) (c:Ctx) (g:Gen) (gx:Comprehension):Prop:=∃tx it ifx,gx=⟨tx,it,ifx,0⟩∧T g.1 tx∧TrI R c g.2.1 g.2.2.1 it∧TrL R g.2.2.2 ifx
noncomputable def TrE:Nat→Ctx→E→PySem.Expr→Prop
 | 0,_,_,_=>False
 | n + 1,c,t,ex=>kX ex=kE t∧match t with
  | .lit v=>(∃k d p,ex=.Constant k d p∧litV k=some v)∨NmX c (.lit v) ex
  | .loc i=>NmX c (.loc i) ex
  | .cel i=>NmX c (.cel i) ex
  | .bin op a b=>∃x y p,ex=.BinOp x (opB op) y p∧TrE n c a x∧TrE n c b y
  | .neg a=>∃x p,ex=.UnaryOp .USub x p∧TrE n c a x
  | .not_ a=>∃x p,ex=.UnaryOp .Not x p∧TrE n c a x
  | .bool isAnd es=>∃xs p,ex=.BoolOp (opOf isAnd) xs p∧TrL (TrE n c) es xs
  | .cmp op a b=>∃x y p,ex=.Compare x [opC op] [y] p∧behindInMarks (opC op) y=false∧TrE n c a x∧TrE n c b y
  | .idx o i=>∃x y p,ex=.Subscript x y p∧noSl y=true∧TrE n c o x∧TrE n c i y
  | .sli o l u=>∃x lo up p' p,ex=.Subscript x (.Slice lo up none p') p∧TrE n c o x∧TrO (TrE n c) l lo∧TrO (TrE n c) u up
  | .lst es=>∃xs p,ex=.List xs p∧TrL (TrE n c) es xs
  | .tup es=>∃xs d p,ex=.Tuple xs d p∧TrL (TrE n c) es xs
  | .call f es=>∃x,A2j f=some x∧A2D (TrE n c) c x es ex
  | .bi b es=>b≠.iterRead∧A2D (TrE n c) c (A8w b) es ex
  | .meth m o es=>∃x xs apos pos,ex=.Call (.Attribute x (A8v m) apos) xs [] pos∧A2f apos pos xs.length x=true∧TrE n c o x∧TrL (TrE n c) es xs
  | .attr m o=>∃y p p',ex=.Attribute (.Name y p) (A7h m) p'∧TrE n c o (.Name y p)
  | .lrange es=>∃p y pos,ex=.Call (.Name "list" p) [y] [] pos∧A0I c "list" = true∧A2D (TrE n c) c "range" es y
  | .iter o=>∃y p p2 p3 p4 k pos,ex=.Call (.Name "iter" p) [.Attribute (.Name y p2) "_read_char" p3,.Constant (.str "") k p4] [] pos∧A0I c "iter" = true∧TrE n c o (.Name y p2)
  | .ife t a b=>∃x y z p,ex=.IfExp x y z p∧TrE n c t x∧TrE n c a y∧TrE n c b z
  | .lineNe o t=>∃yn zn p p1 p2 q apos pos p3 k1 k2 p4 p5,ex=.Compare (.Attribute (.Name yn p) "lineno" p1) [.NotEq] [.BinOp (.Constant (.int 1) k1 p2) .Add (.Call (.Attribute (.Name zn q) "count" apos) [.Constant (.str "\n") k2 p4] [] pos) p3] p5∧
    A2f apos pos 1 (.Name zn q)=true∧TrE n c o (.Name yn p)∧TrE n c t (.Name zn q)
  | .comp elt m tg k es ifs gens=>∃x tx it ifx gx sc p,ex=.ListComp x (⟨tx,it,ifx,0⟩::gx) sc p∧A0x c sc=true∧m=(A0t sc.names).length∧TrE n (cc c sc) elt x∧TrT n (cc c sc) tg tx∧TrI (TrE n c) c k es it∧
    TrL (TrE n (cc c sc)) ifs ifx∧All2 (TrG (TrT n (cc c sc)) (TrE n (cc c sc)) (cc c sc)) gens gx
noncomputable def mkN (e:PySem.Expr):PySem.Expr:=.Name (nm e) (Ac.p e)
noncomputable def locK (c:Ctx) (i:Nat) (e:PySem.Expr):Bool:=decide (c.names.lookup (nm e)=some .local) && decide (at? c.locs (nm e)=some i)
noncomputable def celK (c:Ctx) (i:Nat) (e:PySem.Expr):Bool:=(decide (c.names.lookup (nm e)=some .cell) || decide (c.names.lookup (nm e)=some .free)) && decide (at? c.cels (nm e)=some i)
theorem B1T {c:Ctx} {i:Nat} {e:PySem.Expr} (h:locK c i e=true):NmX c (.loc i) (mkN e):=⟨_,_,rfl,of_decide_eq_true (both h).1,of_decide_eq_true (both h).2⟩
theorem B8P {c:Ctx} {i:Nat} {e:PySem.Expr} (h:celK c i e=true):NmX c (.cel i) (mkN e):=⟨_,_,rfl,(Bool.or_eq_true_iff.mp (both h).1).imp of_decide_eq_true of_decide_eq_true,of_decide_eq_true (both h).2⟩
noncomputable def celT (c:Ctx) (i:Nat) (e:PySem.Expr):Bool:=decide (c.names.lookup (nm e)=some .cell) && decide (at? c.cels (nm e)=some i)
noncomputable def mkT:Nat→Tg→PySem.Expr→PySem.Expr
 | 0,_,e=>e
 | n + 1,t,e=>match t with
  | .loc _=>mkN e
  | .cel _=>mkN e
  | .tup l=>.Tuple (mkL (mkT n) l (L e)) (k e) (Ac.p e)
noncomputable def okT:Nat→Ctx→Tg→PySem.Expr→Bool
 | 0,_,_,_=>false
 | n + 1,c,t,e=>match t with
  | .loc i=>locK c i e
  | .cel i=>celT c i e
  | .tup l=>okL (okT n c) l (L e)
theorem A3f:∀{n:Nat} {c:Ctx} (t:Tg) (e:PySem.Expr),mkT n t e=e→okT n c t e=true→TrT n c t (mkT n t e)
 | 0,_,_,_,_,h=>noft h
 | n + 1,c,.loc i,e,_,h=>B1T h
 | n + 1,c,.cel i,e,_,h=>⟨_,_,rfl,of_decide_eq_true (both h).1,of_decide_eq_true (both h).2⟩
 | n + 1,c,.tup l,e,h,k=>⟨_,_,_,rfl,A1i A3f l (L e) (congrArg L h) k⟩
noncomputable def A4k (f:E→PySem.Expr→PySem.Expr) (x:Str) (es:List E) (e:PySem.Expr):PySem.Expr:=.Call (.Name x (Ac.p (A e))) (mkL f es (L e)) [] (Ac.p e)
noncomputable def okA (f:E→PySem.Expr→PySem.Expr) (g:E→PySem.Expr→Bool) (es:List E) (l:List PySem.Expr):Bool:=okL (fun e x=>B1S (f e x) && g e x) es l
noncomputable def A4N (f:E→PySem.Expr→PySem.Expr) (g:E→PySem.Expr→Bool) (c:Ctx) (x:Str) (es:List E) (e:PySem.Expr):Bool:=A0I c x && okA f g es (L e)
noncomputable def mkO (f:E→PySem.Expr→PySem.Expr) (o:Option E) (x:Option PySem.Expr):Option PySem.Expr:=match o with
 | none=>none
 | some e=>some (f e (oe x))
noncomputable def okO (g:E→PySem.Expr→Bool) (o:Option E) (x:Option PySem.Expr):Bool:=match o with
 | none=>true
 | some e=>g e (oe x)
noncomputable def mkI (f:E→PySem.Expr→PySem.Expr) (k:ItK) (es:List E) (it:PySem.Expr):PySem.Expr:=match k with
 | .range=>A4k f "range" es it
 | .gen=>A4k f "_iter_escaped_chars" es it
 | .enum=>A4k f "enumerate" es it
 | .fit=>match es with
  | []=>it
  | e::r=>f e it
 | .list=>match es with
  | []=>it
  | e::r=>f e it
noncomputable def okI (f:E→PySem.Expr→PySem.Expr) (g:E→PySem.Expr→Bool) (c:Ctx) (k:ItK) (es:List E) (it:PySem.Expr):Bool:=match k with
 | .range=>A4N f g c "range" es it
 | .gen=>A4N f g c "_iter_escaped_chars" es it
 | .enum=>A4N f g c "enumerate" es it
 | .fit=>match es with
  | []=>false
  | e::r=>match r with
   | []=>isNm (f e it) && (decide (nm (f e it) = "fiter") && g e it)
   | _::_=>false
 | .list=>match es with
  | []=>false
  | e::r=>match r with
   | []=>A8x (f e it) && g e it
   | _::_=>false
noncomputable def cmT:Comprehension→PySem.Expr | ⟨t,_,_,_⟩=>t
noncomputable def cmI:Comprehension→PySem.Expr | ⟨_,t,_,_⟩=>t
noncomputable def cmF:Comprehension→List PySem.Expr | ⟨_,_,t,_⟩=>t
noncomputable def mkG (n:Nat) (f:E→PySem.Expr→PySem.Expr) (g:Gen) (x:Comprehension):Comprehension:=⟨mkT n g.1 (cmT x),mkI f g.2.1 g.2.2.1 (cmI x),mkL f g.2.2.2 (cmF x),0⟩
noncomputable def okG (n:Nat) (f:E→PySem.Expr→PySem.Expr) (k:E→PySem.Expr→Bool) (c:Ctx) (g:Gen) (x:Comprehension):Bool:=okT n c g.1 (cmT x) && (okI f k c g.2.1 g.2.2.1 (cmI x) && okA f k g.2.2.2 (cmF x))
noncomputable def mkE:Nat→E→PySem.Expr→PySem.Expr
 | 0,_,e=>e
 | n + 1,t,e=>match t with
  | .lit _=>bif isNm e then mkN e else .Constant (cst e) (k e) (Ac.p e)
  | .loc _=>mkN e
  | .cel _=>mkN e
  | .bin op a b=>.BinOp (mkE n a (A e)) (opB op) (mkE n b (B e)) (Ac.p e)
  | .neg a=>.UnaryOp .USub (mkE n a (A e)) (Ac.p e)
  | .not_ a=>.UnaryOp .Not (mkE n a (A e)) (Ac.p e)
  | .bool isAnd es=>.BoolOp (opOf isAnd) (mkL (mkE n) es (L e)) (Ac.p e)
  | .cmp op a b=>.Compare (mkE n a (A e)) [opC op] [mkE n b (hd (L e))] (Ac.p e)
  | .idx o i=>.Subscript (mkE n o (A e)) (mkE n i (B e)) (Ac.p e)
  | .sli o l u=>.Subscript (mkE n o (A e)) (.Slice (mkO (mkE n) l (lo (B e))) (mkO (mkE n) u (up (B e))) none (Ac.p (B e))) (Ac.p e)
  | .lst es=>.List (mkL (mkE n) es (L e)) (Ac.p e)
  | .tup es=>.Tuple (mkL (mkE n) es (L e)) (k e) (Ac.p e)
  | .call f es=>A4k (mkE n) ((A2j f).getD default) es e
  | .bi b es=>A4k (mkE n) (A8w b) es e
  | .meth m o es=>.Call (.Attribute (mkE n o (A (A e))) (A8v m) (Ac.p (A e))) (mkL (mkE n) es (L e)) [] (Ac.p e)
  | .attr m o=>.Attribute (mkE n o (A e)) (A7h m) (Ac.p e)
  | .lrange es=>.Call (.Name "list" (Ac.p (A e))) [A4k (mkE n) "range" es (hd (L e))] [] (Ac.p e)
  | .iter o=>.Call (.Name "iter" (Ac.p (A e))) [.Attribute (mkE n o (A (hd (L e)))) "_read_char" (Ac.p (hd (L e))),.Constant (.str "") (k (hd (tl (L e)))) (Ac.p (hd (tl (L e))))] [] (Ac.p e)
  | .ife t a b=>.IfExp (mkE n t (A e)) (mkE n a (B e)) (mkE n b (D e)) (Ac.p e)
  | .lineNe o t=>.Compare (.Attribute (mkE n o (A (A e))) "lineno" (Ac.p (A e))) [.NotEq] [.BinOp (.Constant (.int 1) (k (A (hd (L e)))) (Ac.p (A (hd (L e))))) .Add
    (.Call (.Attribute (mkE n t (A (A (B (hd (L e)))))) "count" (Ac.p (A (B (hd (L e)))))) [.Constant (.str "\n") (k (hd (L (B (hd (L e)))))) (Ac.p (hd (L (B (hd (L e))))))] [] (Ac.p (B (hd (L e))))) (Ac.p (hd (L e)))] (Ac.p e)
  | .comp elt m tg k es ifs gens=>.ListComp (mkE n elt (A e)) (⟨mkT n tg (cmT (hd (gs e))),mkI (mkE n) k es (cmI (hd (gs e))),mkL (mkE n) ifs (cmF (hd (gs e))),0⟩::mkL (mkG n (mkE n)) gens (tl (gs e))) (sc e) (Ac.p e)
noncomputable def okE:Nat→Ctx→E→PySem.Expr→Bool
 | 0,_,_,_=>false
 | n + 1,c,t,e=>match t with
  | .lit v=>bif isNm e then A0I c (nm e) && decide (A1P (nm e)=some v) else decide (litV (cst e)=some v)
  | .loc i=>locK c i e
  | .cel i=>celK c i e
  | .bin op a b=>okE n c a (A e) && okE n c b (B e)
  | .neg a=>okE n c a (A e)
  | .not_ a=>okE n c a (A e)
  | .bool isAnd es=>okA (mkE n) (okE n c) es (L e)
  | .cmp op a b=>!behindInMarks (opC op) (mkE n b (hd (L e))) && (okE n c a (A e) && okE n c b (hd (L e)))
  | .idx o i=>noSl (mkE n i (B e)) && (okE n c o (A e) && okE n c i (B e))
  | .sli o l u=>okE n c o (A e) && (okO (okE n c) l (lo (B e)) && okO (okE n c) u (up (B e)))
  | .lst es=>okA (mkE n) (okE n c) es (L e)
  | .tup es=>okA (mkE n) (okE n c) es (L e)
  | .call f es=>decide (A2j f=some ((A2j f).getD default)) && A4N (mkE n) (okE n c) c ((A2j f).getD default) es e
  | .bi b es=>decide (b≠.iterRead) && A4N (mkE n) (okE n c) c (A8w b) es e
  | .meth m o es=>A2f (Ac.p (A e)) (Ac.p e) (mkL (mkE n) es (L e)).length (mkE n o (A (A e))) && (okE n c o (A (A e)) && okA (mkE n) (okE n c) es (L e))
  | .attr m o=>isNm (mkE n o (A e)) && okE n c o (A e)
  | .lrange es=>A0I c "list" && A4N (mkE n) (okE n c) c "range" es (hd (L e))
  | .iter o=>isNm (mkE n o (A (hd (L e)))) && (A0I c "iter" && okE n c o (A (hd (L e))))
  | .ife t a b=>okE n c t (A e) && (okE n c a (B e) && okE n c b (D e))
  | .lineNe o t=>isNm (mkE n o (A (A e))) && (isNm (mkE n t (A (A (B (hd (L e)))))) && (A2f (Ac.p (A (B (hd (L e))))) (Ac.p (B (hd (L e)))) 1 (mkE n t (A (A (B (hd (L e)))))) && (okE n c o (A (A e)) && okE n c t (A (A (B (hd (L e))))))))
  | .comp elt m tg k es ifs gens=>A0x c (sc e) && (decide (m=(A0t (sc e).names).length) && (okE n (cc c (sc e)) elt (A e) && (okT n (cc c (sc e)) tg (cmT (hd (gs e))) && (okI (mkE n) (okE n c) c k es (cmI (hd (gs e))) &&
    (okA (mkE n) (okE n (cc c (sc e))) ifs (cmF (hd (gs e))) && okL (okG n (mkE n) (okE n (cc c (sc e))) (cc c (sc e))) gens (tl (gs e)))))))
section
variable {f:E→PySem.Expr→PySem.Expr} {g:E→PySem.Expr→Bool} {R:RE} {c:Ctx}
theorem A4l (H:∀x y,f x y=y→g x y=true→R x (f x y)) {es:List E} {l:List PySem.Expr} (h:mkL f es l=l) (k:okA f g es l=true):TrL R es (mkL f es l):=A1i (fun x y h k=>⟨(both k).1,H x y h (both k).2⟩) es l h k
theorem A3N (H:∀x y,f x y=y→g x y=true→R x (f x y)) {x:Str} {es:List E} {e:PySem.Expr} (h:A4k f x es e=e) (k:A4N f g c x es e=true):A2D R c x es (A4k f x es e):=⟨_,_,_,rfl,(both k).1,A4l H (congrArg L h) (both k).2⟩
theorem B7U (H:∀x y,f x y=y→g x y=true→R x (f x y)) {o:Option E} {x:Option PySem.Expr} (h:mkO f o x=x) (k:okO g o x=true):TrO R o (mkO f o x):=match o with
 | none=>rfl
 | some e=>⟨_,rfl,H e (oe x) (congrArg oe h) k⟩
theorem B1U (H:∀x y,f x y=y→g x y=true→R x (f x y)) {k:ItK} {es:List E} {it:PySem.Expr} (h:mkI f k es it=it) (q:okI f g c k es it=true):TrI R c k es (mkI f k es it):=match k,es with
 | .range,_=>A3N H h q
 | .gen,_=>A3N H h q
 | .enum,_=>A3N H h q
 | .fit,[]=>noft q
 | .fit,[e]=>
  have ⟨x,p,e1⟩:=Ac.nm_on (both q).1
  have q2:=both (both q).2
  have e2:nm (f e it) = "fiter" := of_decide_eq_true q2.1
  ⟨e,p,rfl,e1.trans (by rw [e1] at e2; rw [←e2]; rfl),H e it h q2.2⟩
 | .fit,_::_::_=>noft q
 | .list,[]=>noft q
 | .list,[e]=>⟨e,rfl,(both q).1,H e it h (both q).2⟩
 | .list,_::_::_=>noft q
theorem C1f {n:Nat} (H:∀x y,f x y=y→g x y=true→R x (f x y)) {c:Ctx} (t:Gen) (x:Comprehension) (h:mkG n f t x=x) (q:okG n f g c t x=true):TrG (TrT n c) R c t (mkG n f t x):=
 ⟨_,_,_,rfl,A3f _ _ (congrArg cmT h) (both q).1,B1U H (congrArg cmI h) (both (both q).2).1,A4l H (congrArg cmF h) (both (both q).2).2⟩
end
theorem C3D (n:Nat) (t:E) (e:PySem.Expr):kX (mkE (n + 1) t e)=kE t:=match t with
 | .lit _=>by
  show kX (bif isNm e then mkN e else .Constant (cst e) (k e) (Ac.p e))=0
  cases isNm e <;> rfl
 | .bool .. | .not_ _ | .neg _ | .cmp .. | .lineNe .. | .ife .. | .tup _ | .comp .. | .loc _ | .cel _ | .bin .. | .idx .. | .sli .. | .lst _ | .call .. | .bi .. | .meth .. | .attr .. | .lrange _ | .iter _=>rfl
section
variable {R:RE} {a b d:E} {x y z:PySem.Expr} {p p1 p2 p3 p4 p5 p6:Pos} {es:List E} {xs:List PySem.Expr}
theorem C3E {c:Ctx} {v:V} {e:PySem.Expr} (q:(bif isNm e then A0I c (nm e) && decide (A1P (nm e)=some v) else decide (litV (cst e)=some v))=true):
  (∃k' d p,(bif isNm e then mkN e else .Constant (cst e) (k e) (Ac.p e))=.Constant k' d p∧litV k'=some v)∨NmX c (.lit v) (bif isNm e then mkN e else .Constant (cst e) (k e) (Ac.p e)):=by
 cases h:isNm e with
 | true=>rw [h] at q; exact .inr ⟨_,_,rfl,(both q).1,of_decide_eq_true (both q).2⟩
 | false=>rw [h] at q; exact .inl ⟨_,_,_,rfl,of_decide_eq_true q⟩
theorem C3F {op:Operator} (h:R a x) (k:R b y):∃x' y' p',PySem.Expr.BinOp x op y p=.BinOp x' op y' p'∧R a x'∧R b y':=⟨x,y,p,rfl,h,k⟩
theorem x_un {op:PySem.UnaryOp} (h:R a x):∃x' p',PySem.Expr.UnaryOp op x p=.UnaryOp op x' p'∧R a x':=⟨x,p,rfl,h⟩
theorem C1g {op:PySem.BoolOp} (h:TrL R es xs):∃x' p',PySem.Expr.BoolOp op xs p=.BoolOp op x' p'∧TrL R es x':=⟨xs,p,rfl,h⟩
theorem C3G {op:CmpOp} (g:(!behindInMarks op y)=true) (h:R a x) (k:R b y):∃x' y' p',PySem.Expr.Compare x [op] [y] p=.Compare x' [op] [y'] p'∧behindInMarks op y'=false∧R a x'∧R b y':=⟨x,y,p,rfl,(Bool.not_eq_true' _).mp g,h,k⟩
theorem C3H (g:noSl y=true) (h:R a x) (k:R b y):∃x' y' p',PySem.Expr.Subscript x y p=.Subscript x' y' p'∧noSl y'=true∧R a x'∧R b y':=⟨x,y,p,rfl,g,h,k⟩
theorem C3I {l u:Option E} {lo up:Option PySem.Expr} (h:R a x) (k:TrO R l lo) (m:TrO R u up):∃x' lo' up' p' p'',PySem.Expr.Subscript x (.Slice lo up none p1) p=.Subscript x' (.Slice lo' up' none p') p''∧R a x'∧TrO R l lo'∧TrO R u up':=⟨x,lo,up,p1,p,rfl,h,k,m⟩
theorem C3J (h:TrL R es xs):∃x' p',PySem.Expr.List xs p=.List x' p'∧TrL R es x':=⟨xs,p,rfl,h⟩
theorem C3K {n:Nat} (h:TrL R es xs):∃x' d p',PySem.Expr.Tuple xs n p=.Tuple x' d p'∧TrL R es x':=⟨xs,n,p,rfl,h⟩
theorem C1h {m:Str} (g:A2f p1 p xs.length x=true) (h:R a x) (k:TrL R es xs):∃x' xs' apos pos,PySem.Expr.Call (.Attribute x m p1) xs [] p=.Call (.Attribute x' m apos) xs' [] pos∧A2f apos pos xs'.length x'=true∧R a x'∧TrL R es xs':=⟨x,xs,p1,p,rfl,g,h,k⟩
theorem C1i {m:Str} (g:isNm x=true) (h:R a x):∃y q p',PySem.Expr.Attribute x m p=.Attribute (.Name y q) m p'∧R a (.Name y q):=by
 refine e2a1 (Ac.nm_on g) fun y q e2z=>?_
 subst e2z
 exact ⟨y,q,p,rfl,h⟩
theorem B4H {c:Ctx} (g:A0I c "list" = true) (h:A2D R c "range" es x):∃p' y pos,PySem.Expr.Call (.Name "list" p) [x] [] p1=.Call (.Name "list" p') [y] [] pos∧A0I c "list" = true∧A2D R c "range" es y:=⟨p,x,p1,rfl,g,h⟩
theorem C1j {c:Ctx} {n:Nat} (g:isNm x=true) (i:A0I c "iter" = true) (h:R a x):∃y q q2 q3 q4 k pos,PySem.Expr.Call (.Name "iter" p) [.Attribute x "_read_char" p1,.Constant (.str "") n p2] [] p3=.Call (.Name "iter" q) [.Attribute (.Name y q2) "_read_char" q3,.Constant (.str "") k q4] [] pos∧A0I c "iter" = true∧R a (.Name y q2):=by
 refine e2a1 (Ac.nm_on g) fun y q e2z=>?_
 subst e2z
 exact ⟨y,p,q,p1,p2,n,p3,rfl,i,h⟩
theorem C3L (h:R a x) (k:R b y) (m:R d z):∃x' y' z' p',PySem.Expr.IfExp x y z p=.IfExp x' y' z' p'∧R a x'∧R b y'∧R d z':=⟨x,y,z,p,rfl,h,k,m⟩
theorem C1k {k1 k2:Nat} (g:isNm x=true) (g':isNm y=true) (f:A2f p4 p5 1 y=true) (h:R a x) (k:R b y):∃yn zn q q1 q2 q' apos pos q3 k1' k2' q4 q5,PySem.Expr.Compare (.Attribute x "lineno" p1) [.NotEq] [.BinOp (.Constant (.int 1) k1 p2) .Add (.Call (.Attribute y "count" p4) [.Constant (.str "\n") k2 p3] [] p5) p6] p=
   .Compare (.Attribute (.Name yn q) "lineno" q1) [.NotEq] [.BinOp (.Constant (.int 1) k1' q2) .Add (.Call (.Attribute (.Name zn q') "count" apos) [.Constant (.str "\n") k2' q4] [] pos) q3] q5∧A2f apos pos 1 (.Name zn q')=true∧R a (.Name yn q)∧R b (.Name zn q'):=by
 refine e2a1 (Ac.nm_on g) fun yn q e2z=>?_
 subst e2z
 refine e2a1 (Ac.nm_on g') fun zn q' e2z=>?_
 subst e2z
 exact ⟨yn,zn,q,p1,p2,q',p4,p5,p6,k1,k2,p3,p,rfl,f,h,k⟩
theorem C1l {R':Scope→RE} {T:Scope→Tg→PySem.Expr→Prop} {I:ItK→List E→PySem.Expr→Prop} {G:Scope→List Gen→List Comprehension→Prop} {c:Ctx} {n:Nat} {tg:Tg} {k:ItK} {it:PySem.Expr} {sc:Scope} {gens:List Gen} {gx:List Comprehension} {ifs:List E}
  (g:A0x c sc=true) (m:n=(A0t sc.names).length) (h:R' sc a x) (t:T sc tg y) (i:I k es it) (f:TrL (R' sc) ifs xs) (j:G sc gens gx):∃x' tx it' ifx gx' sc' p',PySem.Expr.ListComp x (⟨y,it,xs,0⟩::gx) sc p=.ListComp x' (⟨tx,it',ifx,0⟩::gx') sc' p'∧A0x c sc'=true∧n=(A0t sc'.names).length∧R' sc' a x'∧T sc' tg tx∧I k es it'∧
    TrL (R' sc') ifs ifx∧G sc' gens gx':=⟨x,y,it,xs,gx,sc,p,rfl,g,m,h,t,i,f,j⟩
variable {P:PySem.Expr→Prop} {e:PySem.Expr}
theorem C3M {op:Operator} (h:∃x y p,e=PySem.Expr.BinOp x op y p∧R a x∧R b y) (H:∀x y p,R a x→R b y→P (.BinOp x op y p)):P e:=by
 obtain ⟨x,y,p,rfl,h1,h2⟩:=h; exact H x y p h1 h2
theorem y_un {op:PySem.UnaryOp} (h:∃x p,e=PySem.Expr.UnaryOp op x p∧R a x) (H:∀x p,R a x→P (.UnaryOp op x p)):P e:=by
 obtain ⟨x,p,rfl,h1⟩:=h; exact H x p h1
theorem B7V {op:PySem.BoolOp} (h:∃x p,e=PySem.Expr.BoolOp op x p∧TrL R es x) (H:∀x p,TrL R es x→P (.BoolOp op x p)):P e:=by
 obtain ⟨x,p,rfl,h1⟩:=h; exact H x p h1
theorem C1m {op:CmpOp} (h:∃x y p,e=PySem.Expr.Compare x [op] [y] p∧behindInMarks op y=false∧R a x∧R b y) (H:∀x y p,behindInMarks op y=false→R a x→R b y→P (.Compare x [op] [y] p)):P e:=by
 obtain ⟨x,y,p,rfl,h0,h1,h2⟩:=h; exact H x y p h0 h1 h2
theorem C3N (h:∃x y p,e=PySem.Expr.Subscript x y p∧noSl y=true∧R a x∧R b y) (H:∀x y p,noSl y=true→R a x→R b y→P (.Subscript x y p)):P e:=by
 obtain ⟨x,y,p,rfl,h0,h1,h2⟩:=h; exact H x y p h0 h1 h2
theorem C3O {l u:Option E} (h:∃x lo up p p',e=PySem.Expr.Subscript x (.Slice lo up none p) p'∧R a x∧TrO R l lo∧TrO R u up) (H:∀x lo up p p',R a x→TrO R l lo→TrO R u up→P (.Subscript x (.Slice lo up none p) p')):P e:=by
 obtain ⟨x,lo,up,p,p',rfl,h0,h1,h2⟩:=h; exact H x lo up p p' h0 h1 h2
theorem C3P (h:∃x p,e=PySem.Expr.List x p∧TrL R es x) (H:∀x p,TrL R es x→P (.List x p)):P e:=by
 obtain ⟨x,p,rfl,h1⟩:=h; exact H x p h1
theorem C3Q (h:∃x d p,e=PySem.Expr.Tuple x d p∧TrL R es x) (H:∀x d p,TrL R es x→P (.Tuple x d p)):P e:=by
 obtain ⟨x,d,p,rfl,h1⟩:=h; exact H x d p h1
theorem C1n {m:Str} (h:∃x xs apos pos,e=PySem.Expr.Call (.Attribute x m apos) xs [] pos∧A2f apos pos xs.length x=true∧R a x∧TrL R es xs) (H:∀x xs apos pos,A2f apos pos xs.length x=true→R a x→TrL R es xs→P (.Call (.Attribute x m apos) xs [] pos)):P e:=by
 obtain ⟨x,xs,p,q,rfl,h0,h1,h2⟩:=h; exact H x xs p q h0 h1 h2
theorem C1o {m:Str} (h:∃y p p',e=PySem.Expr.Attribute (.Name y p) m p'∧R a (.Name y p)) (H:∀y p p',R a (.Name y p)→P (.Attribute (.Name y p) m p')):P e:=by
 obtain ⟨x,p,q,rfl,h1⟩:=h; exact H x p q h1
theorem B4I {c:Ctx} (h:∃p y pos,e=PySem.Expr.Call (.Name "list" p) [y] [] pos∧A0I c "list" = true∧A2D R c "range" es y) (H:∀p y pos,A0I c "list" = true→A2D R c "range" es y→P (.Call (.Name "list" p) [y] [] pos)):P e:=by
 obtain ⟨x,p,q,rfl,h1,h2⟩:=h; exact H x p q h1 h2
theorem C1p {c:Ctx} (h:∃y p p2 p3 p4 k pos,e=PySem.Expr.Call (.Name "iter" p) [.Attribute (.Name y p2) "_read_char" p3,.Constant (.str "") k p4] [] pos∧A0I c "iter" = true∧R a (.Name y p2)) (H:∀y p p2 p3 p4 k pos,A0I c "iter" = true→R a (.Name y p2)→P (.Call (.Name "iter" p) [.Attribute (.Name y p2) "_read_char" p3,.Constant (.str "") k p4] [] pos)):P e:=by
 obtain ⟨y,p,p2,p3,p4,k,q,rfl,h1,h2⟩:=h; exact H y p p2 p3 p4 k q h1 h2
theorem C3R (h:∃x y z p,e=PySem.Expr.IfExp x y z p∧R a x∧R b y∧R d z) (H:∀x y z p,R a x→R b y→R d z→P (.IfExp x y z p)):P e:=by
 obtain ⟨x,y,z,p,rfl,h0,h1,h2⟩:=h; exact H x y z p h0 h1 h2
theorem C1q {R':Scope→RE} {T:Scope→Tg→PySem.Expr→Prop} {I:ItK→List E→PySem.Expr→Prop} {G:Scope→List Gen→List Comprehension→Prop} {c:Ctx} {n:Nat} {tg:Tg} {kd:ItK} {sc:Scope} {gens:List Gen} {gx:List Comprehension} {ifs:List E} {q:Prop}
  (h:∃x' tx it' ifx gx' sc' p',PySem.Expr.ListComp x gx sc p=.ListComp x' (⟨tx,it',ifx,0⟩::gx') sc' p'∧A0x c sc'=true∧n=(A0t sc'.names).length∧R' sc' a x'∧T sc' tg tx∧I kd es it'∧TrL (R' sc') ifs ifx∧G sc' gens gx')
  (H:∀tx it ifx gx',gx=⟨tx,it,ifx,0⟩::gx'→A0x c sc=true→n=(A0t sc.names).length→R' sc a x→T sc tg tx→I kd es it→TrL (R' sc) ifs ifx→G sc gens gx'→q):q:=by
 obtain ⟨x',tx,it,ifx,gx',sc',p',e1,hs,hm,h1,h2,h3,h4,h5⟩:=h
 refine e0a4 (PySem.Expr.ListComp.inj e1) fun e0z e e2z e3z=>?_
 subst e0z e2z e3z
 exact H _ _ _ _ e hs hm h1 h2 h3 h4 h5
theorem B7W (h:∃yn zn p p1 p2 q apos pos p3 k1 k2 p4 p5,e=PySem.Expr.Compare (.Attribute (.Name yn p) "lineno" p1) [.NotEq] [.BinOp (.Constant (.int 1) k1 p2) .Add (.Call (.Attribute (.Name zn q) "count" apos) [.Constant (.str "\n") k2 p4] [] pos) p3] p5∧A2f apos pos 1 (.Name zn q)=true∧R a (.Name yn p)∧R b (.Name zn q))
  (H:∀yn zn p p1 p2 q apos pos p3 k1 k2 p4 p5,A2f apos pos 1 (.Name zn q)=true→R a (.Name yn p)→R b (.Name zn q)→P (.Compare (.Attribute (.Name yn p) "lineno" p1) [.NotEq] [.BinOp (.Constant (.int 1) k1 p2) .Add (.Call (.Attribute (.Name zn q) "count" apos) [.Constant (.str "\n") k2 p4] [] pos) p3] p5)):P e:=by
 obtain ⟨yn,zn,p,p1,p2,q,a,p0,p3,k1,k2,p4,p5,rfl,h1,h2,h3⟩:=h; exact H yn zn p p1 p2 q a p0 p3 k1 k2 p4 p5 h1 h2 h3
end
theorem A1l {n:Nat}:∀{c:Ctx} (t:E) (e:PySem.Expr),mkE n t e=e→okE n c t e=true→TrE n c t (mkE n t e):=by
 induction n with
 | zero=>exact fun _ _ _ k=>noft k
 | succ n I=>
  intro c t e h q
  refine ⟨C3D n t e,?_⟩
  cases t with
  | lit v=>exact C3E q
  | loc i=>exact B1T q
  | cel i=>exact B8P q
  | bin op a b=>exact C3F (R:=TrE n c) (I a _ (congrArg A h) (both q).1) (I b _ (congrArg B h) (both q).2)
  | neg a=>exact x_un (R:=TrE n c) (I a _ (congrArg A h) q)
  | not_ a=>exact x_un (R:=TrE n c) (I a _ (congrArg A h) q)
  | bool i es=>exact C1g (R:=TrE n c) (A4l I (congrArg L h) q)
  | cmp op a b=>exact C3G (R:=TrE n c) (both q).1 (I a _ (congrArg A h) (both (both q).2).1) (I b _ (congrArg (fun e=>hd (L e)) h) (both (both q).2).2)
  | idx o i=>exact C3H (R:=TrE n c) (both q).1 (I o _ (congrArg A h) (both (both q).2).1) (I i _ (congrArg B h) (both (both q).2).2)
  | sli o l u=>exact C3I (R:=TrE n c) (I o _ (congrArg A h) (both q).1) (B7U I (congrArg (fun e=>lo (B e)) h) (both (both q).2).1) (B7U I (congrArg (fun e=>up (B e)) h) (both (both q).2).2)
  | lst es=>exact C3J (R:=TrE n c) (A4l I (congrArg L h) q)
  | tup es=>exact C3K (R:=TrE n c) (A4l I (congrArg L h) q)
  | call f es=>exact ⟨_,of_decide_eq_true (both q).1,A3N I h (both q).2⟩
  | bi b es=>exact ⟨of_decide_eq_true (both q).1,A3N I h (both q).2⟩
  | meth m o es=>exact C1h (R:=TrE n c) (both q).1 (I o _ (congrArg (fun e=>A (A e)) h) (both (both q).2).1) (A4l I (congrArg L h) (both (both q).2).2)
  | attr m o=>exact C1i (R:=TrE n c) (both q).1 (I o _ (congrArg A h) (both q).2)
  | lrange es=>exact B4H (R:=TrE n c) (both q).1 (A3N I (congrArg (fun e=>hd (L e)) h) (both q).2)
  | iter o=>exact C1j (R:=TrE n c) (both q).1 (both (both q).2).1 (I o _ (congrArg (fun e=>A (hd (L e))) h) (both (both q).2).2)
  | ife t a b=>exact C3L (R:=TrE n c) (I t _ (congrArg A h) (both q).1) (I a _ (congrArg B h) (both (both q).2).1) (I b _ (congrArg D h) (both (both q).2).2)
  | lineNe o t=>
   have q2:=both (both q).2
   have q3:=both q2.2
   exact C1k (R:=TrE n c) (both q).1 q2.1 q3.1 (I o _ (congrArg (fun e=>A (A e)) h) (both q3.2).1) (I t _ (congrArg (fun e=>A (A (B (hd (L e))))) h) (both q3.2).2)
  | comp elt m tg k es ifs gens=>
   have q1:=both (both q).2
   have q2:=both q1.2
   have q3:=both q2.2
   have q4:=both q3.2
   have q5:=both q4.2
   exact C1l (R':=fun sc=>TrE n (cc c sc)) (T:=fun sc=>TrT n (cc c sc)) (I:=TrI (TrE n c) c) (G:=fun sc=>All2 (TrG (TrT n (cc c sc)) (TrE n (cc c sc)) (cc c sc))) (both q).1 (of_decide_eq_true q1.1) (I elt _ (congrArg A h) q2.1) (A3f _ _ (congrArg (fun e=>cmT (hd (gs e))) h) q3.1) (B1U I (congrArg (fun e=>cmI (hd (gs e))) h) q4.1)
    (A4l I (congrArg (fun e=>cmF (hd (gs e))) h) q5.1) (A1i (C1f I) gens _ (congrArg (fun e=>tl (gs e)) h) q5.2)
namespace Ac
noncomputable def tg (e:PySem.Stmt):List PySem.Expr:=match e with
 | .FunctionDef _ _ _ _ _ _ _ _ _ _=>[]
 | .AsyncFunctionDef _ _ _ _ _ _ _ _ _ _=>[]
 | .ClassDef _ _ _ _ _ _ _ _ _ _ _=>[]
 | .Return _ _=>[]
 | .Delete l _=>l
 | .Assign l _ _=>l
 | .TypeAlias _ _ _ _ _ _ _=>[]
 | .AugAssign _ _ _ _=>[]
 | .AnnAssign _ _ _ _ _=>[]
 | .For _ _ _ _ _=>[]
 | .AsyncFor _ _ _ _ _=>[]
 | .While _ _ _ _=>[]
 | .If _ _ _ _=>[]
 | .With _ _ _=>[]
 | .AsyncWith _ _ _=>[]
 | .Match _ _ _=>[]
 | .Raise _ _ _=>[]
 | .Try _ _ _ _ _=>[]
 | .TryStar _ _ _ _ _=>[]
 | .Assert _ _ _=>[]
 | .Import _ _=>[]
 | .ImportFrom _ _ _ _=>[]
 | .Global _ _=>[]
 | .Nonlocal _ _=>[]
 | .Expr _ _=>[]
 | .Pass _=>[]
 | .Break _=>[]
 | .Continue _=>[]
noncomputable def v (e:PySem.Stmt):PySem.Expr:=match e with
 | .FunctionDef _ _ _ _ _ _ _ _ _ _=>default
 | .AsyncFunctionDef _ _ _ _ _ _ _ _ _ _=>default
 | .ClassDef _ _ _ _ _ _ _ _ _ _ _=>default
 | .Return _ _=>default
 | .Delete _ _=>default
 | .Assign _ v _=>v
 | .TypeAlias _ _ _ _ _ _ _=>default
 | .AugAssign _ _ v _=>v
 | .AnnAssign _ _ _ _ _=>default
 | .For _ v _ _ _=>v
 | .AsyncFor _ _ _ _ _=>default
 | .While v _ _ _=>v
 | .If v _ _ _=>v
 | .With _ _ _=>default
 | .AsyncWith _ _ _=>default
 | .Match _ _ _=>default
 | .Raise _ _ _=>default
 | .Try _ _ _ _ _=>default
 | .TryStar _ _ _ _ _=>default
 | .Assert v _ _=>v
 | .Import _ _=>default
 | .ImportFrom _ _ _ _=>default
 | .Global _ _=>default
 | .Nonlocal _ _=>default
 | .Expr v _=>v
 | .Pass _=>default
 | .Break _=>default
 | .Continue _=>default
noncomputable def t (e:PySem.Stmt):PySem.Expr:=match e with
 | .FunctionDef _ _ _ _ _ _ _ _ _ _=>default
 | .AsyncFunctionDef _ _ _ _ _ _ _ _ _ _=>default
 | .ClassDef _ _ _ _ _ _ _ _ _ _ _=>default
 | .Return _ _=>default
 | .Delete _ _=>default
 | .Assign _ _ _=>default
 | .TypeAlias _ _ _ _ _ _ _=>default
 | .AugAssign t _ _ _=>t
 | .AnnAssign _ _ _ _ _=>default
 | .For t _ _ _ _=>t
 | .AsyncFor _ _ _ _ _=>default
 | .While _ _ _ _=>default
 | .If _ _ _ _=>default
 | .With _ _ _=>default
 | .AsyncWith _ _ _=>default
 | .Match _ _ _=>default
 | .Raise _ _ _=>default
 | .Try _ _ _ _ _=>default
 | .TryStar _ _ _ _ _=>default
 | .Assert _ _ _=>default
 | .Import _ _=>default
 | .ImportFrom _ _ _ _=>default
 | .Global _ _=>default
 | .Nonlocal _ _=>default
 | .Expr _ _=>default
 | .Pass _=>default
 | .Break _=>default
 | .Continue _=>default
noncomputable def o (e:PySem.Stmt):Option PySem.Expr:=match e with
 | .FunctionDef _ _ _ _ _ _ _ _ _ _=>none
 | .AsyncFunctionDef _ _ _ _ _ _ _ _ _ _=>none
 | .ClassDef _ _ _ _ _ _ _ _ _ _ _=>none
 | .Return t _=>t
 | .Delete _ _=>none
 | .Assign _ _ _=>none
 | .TypeAlias _ _ _ _ _ _ _=>none
 | .AugAssign _ _ _ _=>none
 | .AnnAssign _ _ _ _ _=>none
 | .For _ _ _ _ _=>none
 | .AsyncFor _ _ _ _ _=>none
 | .While _ _ _ _=>none
 | .If _ _ _ _=>none
 | .With _ _ _=>none
 | .AsyncWith _ _ _=>none
 | .Match _ _ _=>none
 | .Raise _ _ _=>none
 | .Try _ _ _ _ _=>none
 | .TryStar _ _ _ _ _=>none
 | .Assert _ _ _=>none
 | .Import _ _=>none
 | .ImportFrom _ _ _ _=>none
 | .Global _ _=>none
 | .Nonlocal _ _=>none
 | .Expr _ _=>none
 | .Pass _=>none
 | .Break _=>none
 | .Continue _=>none
noncomputable def q (e:PySem.Stmt):Pos:=match e with
 | .FunctionDef _ _ _ _ _ _ _ _ _ _=>default
 | .AsyncFunctionDef _ _ _ _ _ _ _ _ _ _=>default
 | .ClassDef _ _ _ _ _ _ _ _ _ _ _=>default
 | .Return _ p=>p
 | .Delete _ p=>p
 | .Assign _ _ p=>p
 | .TypeAlias _ _ _ _ _ _ _=>default
 | .AugAssign _ _ _ p=>p
 | .AnnAssign _ _ _ _ _=>default
 | .For _ _ _ _ p=>p
 | .AsyncFor _ _ _ _ _=>default
 | .While _ _ _ p=>p
 | .If _ _ _ p=>p
 | .With _ _ _=>default
 | .AsyncWith _ _ _=>default
 | .Match _ _ _=>default
 | .Raise _ _ _=>default
 | .Try _ _ _ _ _=>default
 | .TryStar _ _ _ _ _=>default
 | .Assert _ _ p=>p
 | .Import _ _=>default
 | .ImportFrom _ _ _ _=>default
 | .Global _ _=>default
 | .Nonlocal _ _=>default
 | .Expr _ p=>p
 | .Pass _=>default
 | .Break p=>p
 | .Continue p=>p
noncomputable def b (e:PySem.Stmt):List PySem.Stmt:=match e with
 | .FunctionDef _ _ _ _ _ _ _ _ _ _=>[]
 | .AsyncFunctionDef _ _ _ _ _ _ _ _ _ _=>[]
 | .ClassDef _ _ _ _ _ _ _ _ _ _ _=>[]
 | .Return _ _=>[]
 | .Delete _ _=>[]
 | .Assign _ _ _=>[]
 | .TypeAlias _ _ _ _ _ _ _=>[]
 | .AugAssign _ _ _ _=>[]
 | .AnnAssign _ _ _ _ _=>[]
 | .For _ _ l _ _=>l
 | .AsyncFor _ _ _ _ _=>[]
 | .While _ l _ _=>l
 | .If _ l _ _=>l
 | .With _ _ _=>[]
 | .AsyncWith _ _ _=>[]
 | .Match _ _ _=>[]
 | .Raise _ _ _=>[]
 | .Try _ _ _ _ _=>[]
 | .TryStar _ _ _ _ _=>[]
 | .Assert _ _ _=>[]
 | .Import _ _=>[]
 | .ImportFrom _ _ _ _=>[]
 | .Global _ _=>[]
 | .Nonlocal _ _=>[]
 | .Expr _ _=>[]
 | .Pass _=>[]
 | .Break _=>[]
 | .Continue _=>[]
noncomputable def c (e:PySem.Stmt):List PySem.Stmt:=match e with
 | .FunctionDef _ _ _ _ _ _ _ _ _ _=>[]
 | .AsyncFunctionDef _ _ _ _ _ _ _ _ _ _=>[]
 | .ClassDef _ _ _ _ _ _ _ _ _ _ _=>[]
 | .Return _ _=>[]
 | .Delete _ _=>[]
 | .Assign _ _ _=>[]
 | .TypeAlias _ _ _ _ _ _ _=>[]
 | .AugAssign _ _ _ _=>[]
 | .AnnAssign _ _ _ _ _=>[]
 | .For _ _ _ _ _=>[]
 | .AsyncFor _ _ _ _ _=>[]
 | .While _ _ _ _=>[]
 | .If _ _ l _=>l
 | .With _ _ _=>[]
 | .AsyncWith _ _ _=>[]
 | .Match _ _ _=>[]
 | .Raise _ _ _=>[]
 | .Try _ _ _ _ _=>[]
 | .TryStar _ _ _ _ _=>[]
 | .Assert _ _ _=>[]
 | .Import _ _=>[]
 | .ImportFrom _ _ _ _=>[]
 | .Global _ _=>[]
 | .Nonlocal _ _=>[]
 | .Expr _ _=>[]
 | .Pass _=>[]
 | .Break _=>[]
 | .Continue _=>[]
noncomputable def C1r (e:PySem.Expr):Bool:=match e with
 | .BoolOp _ _ _=>false
 | .NamedExpr _ _ _=>false
 | .BinOp _ _ _ _=>false
 | .UnaryOp _ _ _=>false
 | .Lambda _ _ _ _=>false
 | .IfExp _ _ _ _=>false
 | .Dict _ _ _=>false
 | .Set _ _ _=>false
 | .ListComp _ _ _ _=>false
 | .SetComp _ _ _ _=>false
 | .DictComp _ _ _ _ _=>false
 | .GeneratorExp _ _ _ _=>false
 | .Await _ _=>false
 | .Yield _ _=>false
 | .YieldFrom _ _=>false
 | .Compare _ _ _ _=>false
 | .Call _ _ _ _=>true
 | .FormattedValue _ _ _ _=>false
 | .JoinedStr _ _=>false
 | .Constant _ _ _=>false
 | .Attribute _ _ _=>false
 | .Subscript _ _ _=>false
 | .Starred _ _=>false
 | .Name _ _=>false
 | .List _ _=>false
 | .Tuple _ _ _=>false
 | .Slice _ _ _ _=>false
noncomputable def C1s (e:PySem.Expr):Bool:=match e with
 | .BoolOp _ _ _=>false
 | .NamedExpr _ _ _=>false
 | .BinOp _ _ _ _=>false
 | .UnaryOp _ _ _=>false
 | .Lambda _ _ _ _=>false
 | .IfExp _ _ _ _=>false
 | .Dict _ _ _=>false
 | .Set _ _ _=>false
 | .ListComp _ _ _ _=>false
 | .SetComp _ _ _ _=>false
 | .DictComp _ _ _ _ _=>false
 | .GeneratorExp _ _ _ _=>false
 | .Await _ _=>false
 | .Yield _ _=>false
 | .YieldFrom _ _=>false
 | .Compare _ _ _ _=>false
 | .Call _ _ _ _=>false
 | .FormattedValue _ _ _ _=>false
 | .JoinedStr _ _=>false
 | .Constant _ _ _=>false
 | .Attribute _ _ _=>false
 | .Subscript _ _ _=>false
 | .Starred _ _=>false
 | .Name _ _=>false
 | .List _ _=>false
 | .Tuple _ _ _=>true
 | .Slice _ _ _ _=>false
theorem C1t {e:PySem.Expr} (h:C1r e=true):∃f xs ks p,e=.Call f xs ks p:=match e with
 | .Call f xs ks p=>⟨f,xs,ks,p,rfl⟩
 | .BoolOp .. | .NamedExpr .. | .BinOp .. | .UnaryOp .. | .Lambda .. | .IfExp .. | .Dict .. | .Set .. | .ListComp .. | .SetComp .. | .DictComp .. | .GeneratorExp .. | .Await .. | .Yield .. | .YieldFrom .. | .Compare .. | .FormattedValue .. | .JoinedStr .. | .Constant .. | .Attribute .. | .Subscript .. | .Starred .. | .Name .. | .List .. | .Tuple .. | .Slice ..=>noft h
theorem C1u {e:PySem.Expr} (h:C1s e=true):∃xs d p,e=.Tuple xs d p:=match e with
 | .Tuple xs d p=>⟨xs,d,p,rfl⟩
 | .BoolOp .. | .NamedExpr .. | .BinOp .. | .UnaryOp .. | .Lambda .. | .IfExp .. | .Dict .. | .Set .. | .ListComp .. | .SetComp .. | .DictComp .. | .GeneratorExp .. | .Await .. | .Yield .. | .YieldFrom .. | .Compare .. | .Call .. | .FormattedValue .. | .JoinedStr .. | .Constant .. | .Attribute .. | .Subscript .. | .Starred .. | .Name .. | .List .. | .Slice ..=>noft h
end Ac
noncomputable def A2k (c:Ctx) (line:Nat) (ts:List PySem.Expr):List Str:=ts.filterMap fun t=>if (isNm t && (c.names.lookup (nm t) == some .local && (Ac.p t).line == line))=true then some (nm t) else none
noncomputable def A3O (c:Ctx) (ts:List PySem.Expr) (v:PySem.Expr):Option (Option (List Str)):=match Nat.beq (kX v) 5 with
 | true=>
  if (!(ts.length == 2 || ts.length == 3) || (L v).length != ts.length)=true then some none
  else
   let names:=A2k c ((ts.head?.map (·.pos.line)).getD 0) ts
   if (names.length != ts.length || names.eraseDups.length != names.length)=true then some none
   else if (L v).all (foldedForSure 8)=true then some none
   else if (L v).all (constantsAlone 8)=true then none
   else some (some names)
 | false=>some none
noncomputable def AsgL (c:Ctx) (l:List PySem.Expr) (v:PySem.Expr):Prop:=(∃x q,l=[.Name x q])∨(∃x q y q',l=[.Name x q,.Name y q'])∨∃xs d q,l=[.Tuple xs d q]∧A3O c xs v=some none
noncomputable def isSN (o:Option (Option (List Str))):Bool:=match o with | none=>false | some o=>match o with | none=>true | some _=>false
theorem B8Q {o:Option (Option (List Str))} (h:isSN o=true):o=some none:=match o with
 | some none=>rfl
 | none | some (some _)=>noft h
noncomputable def isSS (o:Option (Option (List Str))):Bool:=match o with | none=>false | some o=>match o with | none=>false | some _=>true
theorem B8R {o:Option (Option (List Str))} (h:isSS o=true):∃l,o=some (some l):=match o with
 | some (some l)=>⟨l,rfl⟩
 | none | some none=>noft h
noncomputable def C1v (c:Ctx) (l:List PySem.Expr) (v:PySem.Expr):Bool:=match l with
 | []=>false
 | a::r=>match r with
  | []=>isNm a || (C1s a && isSN (A3O c (L a) v))
  | b::r=>r.isEmpty && (isNm a && isNm b)
theorem B4J {c:Ctx} {l:List PySem.Expr} {v:PySem.Expr} (h:C1v c l v=true):AsgL c l v:=match l with
 | []=>noft h
 | [a]=>(Bool.or_eq_true_iff.mp h).elim (fun h=>have ⟨x,p,e⟩:=nm_on h; .inl ⟨x,p,congrArg (fun a=>[a]) e⟩) fun h=>have ⟨x,d,p,e⟩:=C1u (both h).1; .inr (.inr ⟨x,d,p,congrArg (fun a=>[a]) e,by have q:=B8Q (both h).2; rw [e] at q; exact q⟩)
 | [a,b]=>have ⟨x,p,e⟩:=nm_on (both h).1; have ⟨y,p',e'⟩:=nm_on (both h).2; .inr (.inl ⟨x,p,y,p',by rw [e,e']⟩)
 | _::_::_::_=>noft h
noncomputable def TrS:Nat→Ctx→S→PySem.Stmt→Prop
 | 0,_,_,_=>False
 | n + 1,c,t,st=>match t with
  | .asg ts e=>∃l v p,st=.Assign l v p∧AsgL c l v∧All2 (TrT n c) ts l∧TrE n c e v
  | .swp ts e=>∃xs d q v p o,st=.Assign [.Tuple xs d q] v p∧A3O c xs v=some (some o)∧All2 (TrT n c) ts xs∧TrE n c e v
  | .put o i e=>∃x y q v p,st=.Assign [.Subscript x y q] v p∧noSl y=true∧TrE n c o x∧TrE n c i y∧TrE n c e v
  | .aug t op e=>∃x q v p,st=.AugAssign (.Name x q) (opB op) v p∧TrT n c t (.Name x q)∧TrE n c e v
  | .expr e=>∃f xs ks q p,st=.Expr (.Call f xs ks q) p∧TrE n c e (.Call f xs ks q)
  | .ret e=>∃v p,st=.Return (some v) p∧TrE n c e v
  | .brk=>∃p,st=.Break p
  | .cont=>∃p,st=.Continue p
  | .ifs t a b=>∃x y z p,st=.If x y z p∧TrE n c t x∧All2 (TrS n c) a y∧All2 (TrS n c) b z
  | .whl t b=>∃x y p,st=.While x y [] p∧TrE n c t x∧All2 (TrS n c) b y
  | .for_ tg k es b=>∃x it y p,st=.For x it y [] p∧TrT n c tg x∧TrI (TrE n c) c k es it∧All2 (TrS n c) b y
  | .assert t=>∃x p,st=.Assert x none p∧TrE n c t x
  | .del o i=>∃x y q p,st=.Delete [.Subscript x y q] p∧noSl y=true∧TrE n c o x∧TrE n c i y
noncomputable abbrev TrSS (n:Nat) (c:Ctx) (l:List S) (m:List PySem.Stmt):Prop:=All2 (TrS n c) l m
noncomputable def mkS:Nat→S→PySem.Stmt→PySem.Stmt
 | 0,_,s=>s
 | n + 1,t,s=>match t with
  | .asg ts e=>.Assign (mkL (mkT n) ts (tg s)) (mkE n e (v s)) (q s)
  | .swp ts e=>.Assign [.Tuple (mkL (mkT n) ts (L (hd (tg s)))) (k (hd (tg s))) (Ac.p (hd (tg s)))] (mkE n e (v s)) (q s)
  | .put o i e=>.Assign [.Subscript (mkE n o (A (hd (tg s)))) (mkE n i (B (hd (tg s)))) (Ac.p (hd (tg s)))] (mkE n e (v s)) (q s)
  | .aug a op e=>.AugAssign (mkT n a (Ac.t s)) (opB op) (mkE n e (v s)) (q s)
  | .expr e=>.Expr (mkE n e (v s)) (q s)
  | .ret e=>.Return (some (mkE n e (oe (Ac.o s)))) (q s)
  | .brk=>.Break (q s)
  | .cont=>.Continue (q s)
  | .ifs t x y=>.If (mkE n t (v s)) (mkL (mkS n) x (b s)) (mkL (mkS n) y (Ac.c s)) (q s)
  | .whl t x=>.While (mkE n t (v s)) (mkL (mkS n) x (b s)) [] (q s)
  | .for_ a k es x=>.For (mkT n a (Ac.t s)) (mkI (mkE n) k es (v s)) (mkL (mkS n) x (b s)) [] (q s)
  | .assert t=>.Assert (mkE n t (v s)) none (q s)
  | .del o i=>.Delete [.Subscript (mkE n o (A (hd (tg s)))) (mkE n i (B (hd (tg s)))) (Ac.p (hd (tg s)))] (q s)
noncomputable def okS:Nat→Ctx→S→PySem.Stmt→Bool
 | 0,_,_,_=>false
 | n + 1,c,t,s=>match t with
  | .asg ts e=>C1v c (mkL (mkT n) ts (tg s)) (mkE n e (v s)) && (okL (okT n c) ts (tg s) && okE n c e (v s))
  | .swp ts e=>isSS (A3O c (mkL (mkT n) ts (L (hd (tg s)))) (mkE n e (v s))) && (okL (okT n c) ts (L (hd (tg s))) && okE n c e (v s))
  | .put o i e=>noSl (mkE n i (B (hd (tg s)))) && (okE n c o (A (hd (tg s))) && (okE n c i (B (hd (tg s))) && okE n c e (v s)))
  | .aug a op e=>isNm (mkT n a (Ac.t s)) && (okT n c a (Ac.t s) && okE n c e (v s))
  | .expr e=>C1r (mkE n e (v s)) && okE n c e (v s)
  | .ret e=>okE n c e (oe (Ac.o s))
  | .brk=>true
  | .cont=>true
  | .ifs t x y=>okE n c t (v s) && (okL (okS n c) x (b s) && okL (okS n c) y (Ac.c s))
  | .whl t x=>okE n c t (v s) && okL (okS n c) x (b s)
  | .for_ a k es x=>okT n c a (Ac.t s) && (okI (mkE n) (okE n c) c k es (v s) && okL (okS n c) x (b s))
  | .assert t=>okE n c t (v s)
  | .del o i=>noSl (mkE n i (B (hd (tg s)))) && (okE n c o (A (hd (tg s))) && okE n c i (B (hd (tg s))))
theorem B1V:∀{n:Nat} {c:Ctx} (t:S) (s:PySem.Stmt),mkS n t s=s→okS n c t s=true→TrS n c t (mkS n t s)
 | 0,_,_,_,_,k=>noft k
 | n + 1,c,t,s,h,q=>by
  have I:∀(t:S) (s:PySem.Stmt),mkS n t s=s→okS n c t s=true→TrS n c t (mkS n t s):=B1V
  cases t with
  | asg ts e=>exact ⟨_,_,_,rfl,B4J (both q).1,A1i A3f ts _ (congrArg tg h) (both (both q).2).1,A1l e _ (congrArg v h) (both (both q).2).2⟩
  | swp ts e=>
   have ⟨l,e1⟩:=B8R (both q).1
   exact ⟨_,_,_,_,_,l,rfl,e1,A1i A3f ts _ (congrArg (fun s=>L (hd (tg s))) h) (both (both q).2).1,A1l e _ (congrArg v h) (both (both q).2).2⟩
  | put o i e=>exact ⟨_,_,_,_,_,rfl,(both q).1,A1l o _ (congrArg (fun s=>A (hd (tg s))) h) (both (both q).2).1,A1l i _ (congrArg (fun s=>B (hd (tg s))) h) (both (both (both q).2).2).1,A1l e _ (congrArg v h) (both (both (both q).2).2).2⟩
  | aug a op e=>
   have ⟨x,p,e1⟩:=nm_on (both q).1
   exact ⟨x,p,_,_,congrArg (fun a=>PySem.Stmt.AugAssign a (opB op) (mkE n e (v s)) (Ac.q s)) e1,e1▸A3f a _ (congrArg Ac.t h) (both (both q).2).1,A1l e _ (congrArg v h) (both (both q).2).2⟩
  | expr e=>
   have ⟨f,xs,ks,p,e1⟩:=C1t (both q).1
   exact ⟨f,xs,ks,p,_,congrArg (fun a=>PySem.Stmt.Expr a (Ac.q s)) e1,e1▸A1l e _ (congrArg v h) (both q).2⟩
  | ret e=>exact ⟨_,_,rfl,A1l e _ (congrArg (fun s=>oe (Ac.o s)) h) q⟩
  | brk=>exact ⟨_,rfl⟩
  | cont=>exact ⟨_,rfl⟩
  | ifs t x y=>exact ⟨_,_,_,_,rfl,A1l t _ (congrArg v h) (both q).1,A1i I x _ (congrArg b h) (both (both q).2).1,A1i I y _ (congrArg Ac.c h) (both (both q).2).2⟩
  | whl t x=>exact ⟨_,_,_,rfl,A1l t _ (congrArg v h) (both q).1,A1i I x _ (congrArg b h) (both q).2⟩
  | for_ a k es x=>exact ⟨_,_,_,_,rfl,A3f a _ (congrArg Ac.t h) (both q).1,B1U A1l (congrArg v h) (both (both q).2).1,A1i I x _ (congrArg b h) (both (both q).2).2⟩
  | assert t=>exact ⟨_,_,rfl,A1l t _ (congrArg v h) q⟩
  | del o i=>exact ⟨_,_,_,_,rfl,(both q).1,A1l o _ (congrArg (fun s=>A (hd (tg s))) h) (both (both q).2).1,A1l i _ (congrArg (fun s=>B (hd (tg s))) h) (both (both q).2).2⟩
theorem A2l {n:Nat} {c:Ctx} {l:List S} {m:List PySem.Stmt} (h:mkL (mkS n) l m=m) (k:okL (okS n c) l m=true):TrSS n c l m:=h▸A1i B1V l m h k
theorem A9I {n:Nat} {c:Ctx} {t:E} {e:PySem.Expr} (h:mkE n t e=e) (k:okE n c t e=true):TrE n c t e:=h▸A1l t e h k
noncomputable def B8S (x:Str):List PySem.Stmt→Option (Arguments×List PySem.Stmt×Scope)
 | []=>none
 | .FunctionDef n a b _ _ _ sc _ _ _::r=>if n == x then some (a,b,sc) else B8S x r
 | _::r=>B8S x r
noncomputable def prog:List PySem.Stmt:=PySem.Challenge.pw_uc0018_01.main.body
end Mine
end
section
namespace Mine
noncomputable def fnL2:List Fn:=[Fn.mk 2 6 ([.swp [.loc 2,.loc 3] (.tup [.lst [],.lit (.int 0)]),.for_ (.loc 4) (.range) [.bin (.mul) (.lit (.int 2)) (.loc 1)] [.asg [.loc 5] (.bool true [.cmp (.lt) (.bi (.sum) [.loc 2]) (.loc 1),.bool false [.cmp (.eq) (.loc 3) (.lit (.int 0)),.bool true [.cmp (.lt) (.loc 3) (.bin (.sub) (.lit (.int 6)) (.loc 1)),.cmp (.eq) (.bin (.mod) (.loc 0) (.lit (.int 2))) (.lit (.int 1))]]]),.expr (.meth (.append) (.loc 2) [.bi (.int) [.loc 5]]),.aug (.loc 3) (.add) (.bin (.sub) (.bin (.mul) (.lit (.int 2)) (.idx (.loc 2) (.loc 4))) (.lit (.int 1))),.aug (.loc 0) (.fdiv) (.lit (.int 2))],.ret (.loc 2)]),Fn.mk 99 0 ([]),Fn.mk 2 6 ([.asg [.loc 2] (.comp (.idx (.lit (.str [41,40])) (.loc 1)) 2 (.loc 1) (.list) [.loc 0] [] []),.for_ (.loc 3) (.list) [.sli (.loc 1) (some (.lit (.int 2))) (some (.lit (.int 4)))] [.asg [.loc 4] (.idx (.tup [.lit (.str [92,40]),.lit (.str [92,41]),.lit (.str [34,40,34]),.lit (.str [34,41,41,34]),.lit (.str [34,92,34,41,34]),.lit (.str [97])]) (.bin (.mod) (.loc 3) (.lit (.int 6)))),.asg [.loc 5] (.bin (.mod) (.bin (.fdiv) (.loc 3) (.lit (.int 6))) (.bi (.len) [.loc 0])),.put (.loc 2) (.loc 5) (.bin (.add) (.loc 4) (.idx (.loc 2) (.loc 5)))],.ret (.loc 2)]),Fn.mk 3 7 ([.asg [.tup [.loc 3,.loc 4,.loc 5]] (.tup [.lit (.str []),.lit (.int 0),.lit (.int 0)]),.for_ (.loc 6) (.list) [.loc 0] [.aug (.loc 3) (.add) (.ife (.cmp (.eq) (.loc 6) (.lit (.int 1))) (.idx (.loc 1) (.loc 4)) (.idx (.loc 1) (.idx (.loc 2) (.loc 5)))),.swp [.loc 4,.loc 5] (.tup [.bin (.add) (.loc 4) (.loc 6),.bin (.sub) (.bin (.add) (.loc 5) (.lit (.int 1))) (.loc 6)])],.ret (.loc 3)]),Fn.mk 2 6 ([.ifs (.cmp (.notin) (.lit (.str [46,46,46])) (.loc 0)) [.ret (.cmp (.eq) (.loc 0) (.loc 1))] [],.asg [.loc 2] (.meth (.split) (.loc 0) [.lit (.str [46,46,46])]),.assert (.cmp (.ge) (.bi (.len) [.loc 2]) (.lit (.int 2))),.swp [.loc 3,.loc 4] (.tup [.lit (.int 0),.bi (.len) [.loc 1]]),.asg [.loc 5] (.idx (.loc 2) (.lit (.int 0))),.ifs (.loc 5) [.ifs (.meth (.startswith) (.loc 1) [.loc 5]) [.asg [.loc 3] (.bi (.len) [.loc 5]),.del (.loc 2) (.lit (.int 0))] [.ret (.lit (.bool false))]] [],.asg [.loc 5] (.idx (.loc 2) (.neg (.lit (.int 1)))),.ifs (.loc 5) [.ifs (.meth (.endswith) (.loc 1) [.loc 5]) [.aug (.loc 4) (.sub) (.bi (.len) [.loc 5]),.del (.loc 2) (.neg (.lit (.int 1)))] [.ret (.lit (.bool false))]] [],.ifs (.cmp (.gt) (.loc 3) (.loc 4)) [.ret (.lit (.bool false))] [],.for_ (.loc 5) (.list) [.loc 2] [.asg [.loc 3] (.meth (.find) (.loc 1) [.loc 5,.loc 3,.loc 4]),.ifs (.cmp (.lt) (.loc 3) (.lit (.int 0))) [.ret (.lit (.bool false))] [],.aug (.loc 3) (.add) (.bi (.len) [.loc 5])],.ret (.lit (.bool true))]),Fn.mk 2 2 ([.ifs (.cmp (.eq) (.loc 0) (.loc 1)) [.ret (.lit (.int 0))] [],.ifs (.cmp (.eq) (.meth (.lower) (.loc 0) []) (.meth (.lower) (.loc 1) [])) [.ret (.lit (.int 1))] [],.ret (.lit (.int 2))]),Fn.mk 3 14 ([.ifs (.cmp (.eq) (.loc 0) (.loc 1)) [.ret (.lit (.int 0))] [],.asg [.loc 3] (.lit (.int 0)),.whl (.bool true [.sli (.loc 0) (some (.loc 3)) none,.sli (.loc 1) (some (.loc 3)) none,.cmp (.eq) (.idx (.loc 0) (.loc 3)) (.idx (.loc 1) (.loc 3))]) [.aug (.loc 3) (.add) (.lit (.int 1))],.asg [.loc 0] (.sli (.loc 0) (some (.loc 3)) none),.asg [.loc 1] (.sli (.loc 1) (some (.loc 3)) none),.asg [.loc 4] (.lit (.int 0)),.whl (.bool true [.sli (.loc 0) none (some (.bool false [.loc 4,.lit (.none)])),.sli (.loc 1) none (some (.bool false [.loc 4,.lit (.none)])),.cmp (.eq) (.idx (.loc 0) (.bin (.sub) (.loc 4) (.lit (.int 1)))) (.idx (.loc 1) (.bin (.sub) (.loc 4) (.lit (.int 1))))]) [.aug (.loc 4) (.sub) (.lit (.int 1))],.asg [.loc 0] (.sli (.loc 0) none (some (.bool false [.loc 4,.lit (.none)]))),.asg [.loc 1] (.sli (.loc 1) none (some (.bool false [.loc 4,.lit (.none)]))),.ifs (.bool false [.not_ (.loc 0),.not_ (.loc 1)]) [.ret (.bin (.mul) (.lit (.int 2)) (.bin (.add) (.bi (.len) [.loc 0]) (.bi (.len) [.loc 1])))] [],.ifs (.bool false [.cmp (.gt) (.bi (.len) [.loc 0]) (.lit (.int 40)),.cmp (.gt) (.bi (.len) [.loc 1]) (.lit (.int 40))]) [.ret (.bin (.add) (.loc 2) (.lit (.int 1)))] [],.ifs (.cmp (.lt) (.bi (.len) [.loc 1]) (.bi (.len) [.loc 0])) [.swp [.loc 0,.loc 1] (.tup [.loc 1,.loc 0])] [],.ifs (.cmp (.gt) (.bin (.mul) (.bin (.sub) (.bi (.len) [.loc 1]) (.bi (.len) [.loc 0])) (.lit (.int 2))) (.loc 2)) [.ret (.bin (.add) (.loc 2) (.lit (.int 1)))] [],.asg [.loc 5] (.lrange [.lit (.int 2),.bin (.mul) (.lit (.int 2)) (.bin (.add) (.bi (.len) [.loc 0]) (.lit (.int 1))),.lit (.int 2)]),.asg [.loc 6] (.lit (.int 0)),.for_ (.loc 7) (.range) [.bi (.len) [.loc 1]] [.asg [.loc 8] (.idx (.loc 1) (.loc 7)),.asg [.loc 9,.loc 6] (.bin (.mul) (.loc 7) (.lit (.int 2))),.asg [.loc 10] (.lit (.int 9223372036854775807)),.for_ (.loc 11) (.range) [.bi (.len) [.loc 0]] [.asg [.loc 12] (.bin (.add) (.loc 9) (.call 5 [.loc 8,.idx (.loc 0) (.loc 11)])),.asg [.loc 9] (.idx (.loc 5) (.loc 11)),.asg [.loc 13] (.bin (.add) (.bi (.min) [.loc 6,.loc 9]) (.lit (.int 2))),.asg [.loc 6] (.bi (.min) [.loc 13,.loc 12]),.put (.loc 5) (.loc 11) (.loc 6),.ifs (.cmp (.lt) (.loc 6) (.loc 10)) [.asg [.loc 10] (.loc 6)] []],.ifs (.cmp (.gt) (.loc 10) (.loc 2)) [.ret (.bin (.add) (.loc 2) (.lit (.int 1)))] []],.ret (.loc 6)]),Fn.mk 99 0 ([]),Fn.mk 99 0 ([]),Fn.mk 1 4 ([.ifs (.attr (.pushback) (.loc 0)) [.ret (.meth (.pop) (.attr (.pushback) (.loc 0)) [.lit (.int 0)])] [],.asg [.loc 1] (.lit (.str [])),.asg [.loc 2] (.iter (.loc 0)),.for_ (.loc 3) (.fit) [.loc 2] [.ifs (.cmp (.isin) (.loc 3) (.attr (.whitespace) (.loc 0))) [.cont] [],.ifs (.cmp (.eq) (.loc 3) (.lit (.str [34]))) [.for_ (.loc 3) (.fit) [.loc 2] [.ifs (.cmp (.eq) (.loc 3) (.lit (.str [34]))) [.ret (.loc 1)] [.ifs (.cmp (.eq) (.loc 3) (.lit (.str [92]))) [.asg [.loc 3] (.meth (.readChar) (.loc 0) [])] []],.aug (.loc 1) (.add) (.loc 3)]] [.ifs (.cmp (.eq) (.loc 3) (.lit (.str [92]))) [.asg [.loc 3] (.meth (.readChar) (.loc 0) [])] [],.aug (.loc 1) (.add) (.loc 3),.for_ (.loc 3) (.fit) [.loc 2] [.ifs (.cmp (.isin) (.loc 3) (.attr (.whitespace) (.loc 0))) [.ret (.loc 1)] [.ifs (.cmp (.eq) (.loc 3) (.lit (.str [92]))) [.asg [.loc 3] (.meth (.readChar) (.loc 0) [])] []],.aug (.loc 1) (.add) (.loc 3)]]],.ret (.loc 1)]),Fn.mk 2 2 ([.expr (.meth (.append) (.attr (.pushback) (.loc 0)) [.loc 1])]),Fn.mk 99 0 ([])] 
noncomputable def A3g:List S:=[.asg [.tup [.cel 2,.cel 3]] (.tup [.call 99 [.loc 3],.call 99 [.lit (.str [9,122])]]),.asg [.loc 4] (.lit (.str [])),.for_ (.loc 5) (.list) [.cel 0] [.ifs (.cmp (.eq) (.loc 5) (.lit (.int 1))) [.asg [.loc 6] (.meth (.getToken) (.cel 2) []),.expr (.meth (.pushToken) (.cel 3) [.loc 6])] [.asg [.loc 6] (.meth (.getToken) (.cel 3) [])],.aug (.loc 4) (.add) (.loc 6)],.asg [.tup [.cel 4,.cel 5,.loc 7]] (.tup [.lst [.lrange [.loc 2]],.lst [.lit (.int 0)],.lst [.loc 4]]),.ifs (.cmp (.ne) (.loc 4) (.call 3 [.cel 0,.cel 1,.idx (.cel 4) (.lit (.int 0))])) [.ret (.lit (.bool false))] [],.asg [.loc 8] (.bin (.add) (.comp (.meth (.getToken) (.cel 2) []) 2 (.loc 1) (.range) [.lit (.int 3)] [] []) (.comp (.meth (.getToken) (.cel 3) []) 2 (.loc 1) (.range) [.lit (.int 2)] [] [])),.ifs (.bool false [.cmp (.ne) (.loc 8) (.lst [.lit (.str [122,32,34,122]),.lit (.str [34,92,32]),.lit (.str []),.lit (.str [122]),.lit (.str [])]),.lineNe (.cel 2) (.loc 3)]) [.ret (.lit (.bool false))] [],.asg [.cel 6] (.comp (.loc 1) 2 (.loc 1) (.range) [.bin (.mul) (.lit (.int 2)) (.loc 2)] [.cmp (.eq) (.idx (.cel 0) (.loc 1)) (.lit (.int 0))] []),.expr (.meth (.pushToken) (.cel 3) [.loc 4]),.asg [.loc 9] (.lit (.int 0)),.whl (.cmp (.lt) (.loc 9) (.bi (.len) [.cel 4])) [.asg [.tup [.cel 7,.loc 10]] (.tup [.meth (.getToken) (.cel 3) [],.idx (.cel 4) (.loc 9)]),.ifs (.cmp (.ne) (.cel 7) (.idx (.loc 7) (.loc 9))) [.ret (.lit (.bool false))] [],.for_ (.loc 11) (.range) [.bin (.sub) (.loc 2) (.lit (.int 1))] [.swp [.loc 12,.loc 13] (.tup [.idx (.cel 1) (.idx (.loc 10) (.loc 11)),.idx (.cel 1) (.idx (.loc 10) (.bin (.add) (.loc 11) (.lit (.int 1))))]),.asg [.loc 14] (.bin (.add) (.bin (.add) (.sli (.loc 10) none (some (.loc 11))) (.lst [.idx (.loc 10) (.bin (.add) (.loc 11) (.lit (.int 1))),.idx (.loc 10) (.loc 11)])) (.sli (.loc 10) (some (.bin (.add) (.loc 11) (.lit (.int 2)))) none)),.ifs (.bool true [.call 4 [.meth (.join) (.lit (.str [46,46,46])) [.lst [.lit (.str []),.loc 12,.loc 13,.loc 12,.loc 13,.lit (.str [])]],.cel 7],.cmp (.notin) (.loc 14) (.cel 4)]) [.asg [.loc 15] (.call 3 [.cel 0,.cel 1,.loc 14]),.asg [.loc 16] (.ife (.cmp (.eq) (.meth (.lower) (.loc 12) []) (.meth (.lower) (.loc 13) [])) (.lit (.int 2)) (.lit (.int 4))),.ifs (.cmp (.ne) (.call 6 [.cel 7,.loc 15,.lit (.int 5)]) (.loc 16)) [.ret (.lit (.bool false))] [],.expr (.meth (.append) (.cel 4) [.loc 14]),.expr (.meth (.append) (.cel 5) [.bin (.add) (.idx (.cel 5) (.loc 9)) (.lit (.int 1))]),.expr (.meth (.append) (.loc 7) [.loc 15]),.expr (.meth (.pushToken) (.cel 3) [.loc 15])] []],.aug (.loc 9) (.add) (.lit (.int 1))],.asg [.cel 8] (.lst [.lit (.int 1)]),.for_ (.loc 11) (.range) [.loc 2] [.asg [.cel 9] (.bin (.sub) (.bi (.sum) [.sli (.cel 0) none (some (.idx (.cel 6) (.loc 11)))]) (.loc 11)),.asg [.cel 8] (.comp (.bi (.sum) [.sli (.cel 8) (some (.bi (.max) [.lit (.int 0),.bin (.sub) (.bin (.add) (.loc 1) (.lit (.int 1))) (.cel 9)])) (some (.bin (.add) (.loc 1) (.lit (.int 1))))]) 2 (.loc 1) (.range) [.bin (.sub) (.bin (.add) (.bi (.len) [.cel 8]) (.cel 9)) (.lit (.int 1))] [] [])],.ifs (.bool false [.cmp (.ne) (.comp (.meth (.count) (.cel 5) [.loc 1]) 2 (.loc 1) (.range) [.bi (.len) [.cel 8]] [] []) (.cel 8),.cmp (.ne) (.bi (.len) [.cel 4]) (.bi (.sum) [.cel 8])]) [.ret (.lit (.bool false))] [],.asg [.loc 17] (.call 2 [.cel 0,.loc 1]),.asg [.loc 18] (.lst []),.for_ (.loc 19) (.list) [.comp (.loc 1) 2 (.loc 1) (.range) [.bin (.mul) (.lit (.int 2)) (.loc 2)] [.cmp (.eq) (.idx (.cel 0) (.loc 1)) (.lit (.int 1))] []] [.for_ (.loc 20) (.list) [.cel 6] [.ifs (.bool true [.cmp (.gt) (.loc 20) (.loc 19),.call 7 [.meth (.join) (.lit (.str [])) [.sli (.loc 17) (some (.loc 19)) (some (.bin (.add) (.loc 20) (.lit (.int 1))))]]]) [.brk] []],.expr (.meth (.append) (.loc 18) [.loc 20])],.ifs (.cmp (.ne) (.loc 18) (.comp (.idx (.cel 6) (.meth (.index) (.idx (.cel 4) (.neg (.lit (.int 1)))) [.loc 1])) 2 (.loc 1) (.range) [.loc 2] [] [])) [.ret (.lit (.bool false))] [],.asg [.loc 21] (.bin (.add) (.lit (.int 1)) (.bin (.mod) (.idx (.loc 1) (.lit (.int 1))) (.bin (.sub) (.bin (.mul) (.lit (.int 2)) (.loc 2)) (.lit (.int 1))))),.ifs (.cmp (.ne) (.call 7 [.meth (.join) (.lit (.str [])) [.bin (.add) (.sli (.loc 17) (some (.loc 21)) none) (.sli (.loc 17) none (some (.loc 21)))]]) (.cmp (.eq) (.bin (.mul) (.lit (.int 2)) (.bi (.sum) [.sli (.cel 0) none (some (.loc 21))])) (.loc 21))) [.ret (.lit (.bool false))] [],.for_ (.loc 9) (.list) [.lst [.bin (.mod) (.idx (.loc 1) (.lit (.int 4))) (.bi (.len) [.cel 4]),.bin (.sub) (.bi (.len) [.cel 4]) (.lit (.int 1))]] [.asg [.tup [.cel 7,.loc 22]] (.tup [.idx (.loc 7) (.loc 9),.idx (.cel 1) (.idx (.idx (.cel 4) (.loc 9)) (.neg (.lit (.int 1))))]),.asg [.loc 23] (.lst [.bin (.add) (.bin (.add) (.idx (.cel 1) (.lit (.int 0))) (.lit (.str [46,46,46]))) (.loc 22),.bin (.add) (.bin (.add) (.loc 22) (.lit (.str [46,46,46]))) (.idx (.cel 1) (.lit (.int 0))),.bin (.add) (.bin (.add) (.cel 7) (.lit (.str [46,46,46]))) (.loc 22)]),.ifs (.cmp (.ne) (.comp (.call 4 [.loc 1,.cel 7]) 2 (.loc 1) (.list) [.loc 23] [] []) (.lst [.lit (.bool true),.cmp (.eq) (.loc 22) (.idx (.cel 1) (.lit (.int 0))),.lit (.bool false)])) [.ret (.lit (.bool false))] [],.asg [.loc 24] (.comp (.tup [.idx (.cel 1) (.loc 2),.idx (.cel 1) (.loc 1)]) 3 (.loc 1) (.range) [.loc 2] [] [(.loc 2,.range,[.loc 1],[])]),.asg [.loc 25] (.bi (.len) [.comp (.lit (.int 1)) 3 (.tup [.loc 1,.loc 2]) (.list) [.loc 24] [.call 4 [.meth (.join) (.lit (.str [46,46,46])) [.lst [.lit (.str []),.loc 1,.loc 2,.loc 2,.loc 1,.lit (.str [])]],.cel 7]] []]),.asg [.loc 26] (.bi (.len) [.comp (.lit (.int 1)) 3 (.tup [.loc 1,.loc 2]) (.list) [.loc 24] [.call 4 [.meth (.join) (.lit (.str [46,46,46])) [.lst [.lit (.str []),.loc 1,.loc 2,.loc 1,.loc 2,.lit (.str [])]],.cel 7]] []]),.ifs (.bool false [.cmp (.ne) (.loc 25) (.idx (.cel 5) (.loc 9)),.cmp (.ne) (.loc 26) (.bin (.sub) (.bin (.sub) (.bi (.len) [.cel 8]) (.lit (.int 1))) (.idx (.cel 5) (.loc 9)))]) [.ret (.lit (.bool false))] []],.ret (.lit (.bool true))] 
noncomputable def isN (p:Option (R×St)):Option St:=match p with | some (.f .next,σ)=>some σ | _=>none
noncomputable def rowA:Nat→Int→List Int→Int→Nat→List Int
 | 0,_,row,_,_=>row
 | n + 1,size,row,high,number=>
  let opens:=row.sum < size && (high == 0 || (high < 6 - size && number % 2 == 1))
  let b:Int:=if opens then 1 else 0
  rowA n size (row ++ [b]) (high + 2 * b - 1) (number / 2)
noncomputable def A3P (size turn:Nat):List Nat:=let l:=[symB,symB + 1,symB + 2,symB + 3].take size; l.drop turn ++ l.take turn
noncomputable def A3h (names:List Nat):List Nat:=names.map (· + 4) ++ A5x
noncomputable def A3Q (names:List Nat):List (List Nat):=names.map (fun n=>[n]) ++ [[122,32,34,122],[34,92,32]]
noncomputable def stA (size turn:Nat) (row:List Int):St:=
 ⟨[.unb,.ref 0,.int size,.str (A3h (A3P size turn))] ++ List.replicate 23 .unb,[.ref 1,.ref 2,.ref 4,.ref 9] ++ List.replicate 6 .unb,
  [(9,.tok [[122]] [9,122] 8 [10,11,12]),(8,.list []),(4,.tok (A3Q (A3P size turn)) (A3h (A3P size turn)) 3 [5,6,7]),(3,.list []),(2,.list ((A3P size turn).map fun n=>.str [n])),(1,.list (row.map .int))],13⟩
noncomputable def tA:List S:=(A3g.drop 1).take 13
noncomputable def tB:List S:=(A3g.drop 15).take 3
noncomputable def tD:List S:=(A3g.drop 19).take 1
noncomputable def A0R (row:List Int):List V:=row.zipIdx.map fun (b,i)=>.str [symB + 8 + 2 * i + b.toNat]
noncomputable def addP (row:List Int) (σ:St):St:={ σ with loc:=lset σ.loc 17 (.ref σ.nx),hp:=(σ.nx,.list (A0R row))::σ.hp,nx:=σ.nx + 1 }
noncomputable def A1m (σ:St) (v:V):St:={ σ with loc:=lset σ.loc 21 v }
noncomputable def eTg:Tg:=match nth A3g 20 with | some (.for_ tg _ _ _)=>tg | _=>.tup []
noncomputable def B4K:List S:=match nth A3g 20 with | some (.for_ _ _ _ b)=>b | _=>[]
noncomputable def tau0 (σ:St):St:={ σ with loc:=lset σ.loc 9 .unb,cel:=lset σ.cel 7 .unb,nx:=σ.nx + 1 }
noncomputable def C1w (σ:St) (t:Nat):Option St:=(assign eTg (.int t) σ).bind fun σ₁=>isN (run fnL2 399 (.ss B4K) σ₁)
noncomputable def B4L (σ:St) (t:Nat):Option (R×St):=run fnL2 400 (.for_ eTg B4K [.int t]) σ
noncomputable def ordN (o:Option V) (f:Nat→Option O):Nat:=match o with | some (.ref j)=>(match f j with | some (.list xs)=>xs.length | _=>0) | _=>0
noncomputable def A0g (σ:St):Nat:=ordN (nth σ.cel 4) (hget σ.hp)
deriving instance DecidableEq for O
end Mine
end
section
namespace Mine
open PySem PyProof.Rows
noncomputable def sv (ρ:Nat→List Nat) (s:List Nat):List Nat:=s.flatMap fun c=>if c < symB then [c] else ρ (c - symB)
noncomputable def A0b (ρ:Nat→List Nat) (s:List Nat):Str:=⟨(sv ρ s).toArray⟩
theorem A1r (ρ:Nat→List Nat) (s t:List Nat):sv ρ (s ++ t)=sv ρ s ++ sv ρ t:=by simp [sv]
theorem A7i (ρ:Nat→List Nat) (s t:List Nat):A0b ρ (s ++ t)=A0b ρ s ++ A0b ρ t:=by
 show Str.mk _=Str.mk _
 rw [A1r]; simp [A0b]
inductive VR (ρ:Nat→List Nat) (φ:Nat→Addr) (n:Nat):V→Value→Prop
 | none:VR ρ φ n .none .none
 | bool (b:Bool):VR ρ φ n (.bool b) (.bool b)
 | int (i:Int) (t:Tok):VR ρ φ n (.int i) (.int i t)
 | str (s:List Nat) (t:Tok):s.length≤4000→VR ρ φ n (.str s) (.str (A0b ρ s) t)
 | ref (i:Nat):i < n→VR ρ φ n (.ref i) (.ref (φ i))
inductive VRs (ρ:Nat→List Nat) (φ:Nat→Addr) (n:Nat):List V→List Value→Prop
 | nil:VRs ρ φ n [] []
 | cons {v x l xs}:VR ρ φ n v x→VRs ρ φ n l xs→VRs ρ φ n (v::l) (x::xs)
noncomputable def Ext (φ φ':Nat→Addr) (n:Nat):Prop:=∀i,i < n→φ' i=φ i
theorem Ext.refl (φ:Nat→Addr) (n:Nat):Ext φ φ n:=fun _ _=>rfl
theorem Ext.trans {φ φ' φ'':Nat→Addr} {n n':Nat} (a:Ext φ φ' n) (b:Ext φ' φ'' n') (h:n≤n'):Ext φ φ'' n:=
 fun i hi=>(b i (Nat.lt_of_lt_of_le hi h)).trans (a i hi)
theorem Ext.le {φ φ':Nat→Addr} {n n':Nat} (a:Ext φ φ' n') (h:n≤n'):Ext φ φ' n:=fun i hi=>a i (Nat.lt_of_lt_of_le hi h)
section
variable {ρ:Nat→List Nat} {φ φ':Nat→Addr} {n n':Nat}
theorem VR.ext {v x} (h:VR ρ φ n v x) (e:Ext φ φ' n) (hn:n≤n'):VR ρ φ' n' v x:=by
 cases h with
 | none=>exact .none
 | bool b=>exact .bool b
 | int i t=>exact .int i t
 | str s t hl=>exact .str s t hl
 | ref i hi=>rw [←e i hi]; exact .ref i (Nat.lt_of_lt_of_le hi hn)
theorem VRs.ext {l xs} (h:VRs ρ φ n l xs) (e:Ext φ φ' n) (hn:n≤n'):VRs ρ φ' n' l xs:=by
 induction h with
 | nil=>exact .nil
 | cons a _ ih=>exact .cons (a.ext e hn) ih
theorem VRs.append {l xs l' xs'} (h:VRs ρ φ n l xs) (h':VRs ρ φ n l' xs'):VRs ρ φ n (l ++ l') (xs ++ xs'):=by
 induction h with
 | nil=>exact h'
 | cons a _ ih=>exact .cons a ih
theorem VRs.length {l xs} (h:VRs ρ φ n l xs):xs.length=l.length:=by
 induction h with
 | nil=>rfl
 | cons _ _ ih=>simp [ih]
theorem VRs.nth {l xs} (h:VRs ρ φ n l xs):∀{i v},nth l i=some v→∃x,xs[i]?=some x∧VR ρ φ n v x:=by
 induction h with
 | nil=>intro i v e; cases i <;> cases e
 | cons a _ ih=>
  intro i v e
  cases i with
  | zero=>cases e; exact ⟨_,rfl,a⟩
  | succ i=>exact ih e
theorem VRs.take {l xs} (h:VRs ρ φ n l xs):∀k,VRs ρ φ n (l.take k) (xs.take k):=by
 induction h with
 | nil=>intro k; simp; exact .nil
 | cons a _ ih=>
  intro k
  cases k with
  | zero=>exact .nil
  | succ k=>exact .cons a (ih k)
theorem VRs.drop {l xs} (h:VRs ρ φ n l xs):∀k,VRs ρ φ n (l.drop k) (xs.drop k):=by
 induction h with
 | nil=>intro k; simp; exact .nil
 | cons a b ih=>
  intro k
  cases k with
  | zero=>exact .cons a b
  | succ k=>exact ih k
theorem VRs.set {l xs} (h:VRs ρ φ n l xs) {v x} (hv:VR ρ φ n v x):∀k,VRs ρ φ n (lset l k v) (xs.set k x):=by
 induction h with
 | nil=>intro k; exact .nil
 | cons a b ih=>
  intro k
  cases k with
  | zero=>exact .cons hv b
  | succ k=>exact .cons a (ih k)
theorem VRs.eraseIdx {l xs} (h:VRs ρ φ n l xs):∀k,VRs ρ φ n (l.eraseIdx k) (xs.eraseIdx k):=by
 induction h with
 | nil=>intro k; exact .nil
 | cons a b ih=>
  intro k
  cases k with
  | zero=>exact b
  | succ k=>exact .cons a (ih k)
end
noncomputable abbrev A0k (vs:List Value) (k:Nat):Obj:=⟨.type "list",none,.seq vs.toArray k,#[]⟩
noncomputable abbrev tupO (vs:List Value) (k:Nat):Obj:=⟨.type "tuple",none,.seq vs.toArray k,#[]⟩
noncomputable def OR (LX:(Nat→Addr)→Nat→Heap→Nat→O→Prop) (ρ:Nat→List Nat) (φ:Nat→Addr) (n:Nat) (h:Heap) (i:Nat):O→Prop
 | .list xs=>∃vs k,h.get? (φ i)=some (A0k vs k)∧VRs ρ φ n xs vs∧xs.length≤5000
 | .tup xs=>∃vs k,h.get? (φ i)=some (tupO vs k)∧VRs ρ φ n xs vs∧xs.length≤5000
 | o=>LX φ n h i o
noncomputable def own:O→List Nat
 | .lex _ _ _ l=>l
 | .tok _ _ _ l=>l
 | .fit _ _ l=>l
 | _=>[]
noncomputable def A0c (hp:List (Nat×O)):List Nat:=hp.flatMap fun p=>p.1::own p.2
structure Cx where
 prog:Program
 w:World
 h₀:Heap
 ρ:Nat→List Nat
 gens:Array GenState
 drawn:Drawn
 os:OsState
 mg:Str→Option Value
 mb:Str→Option Value
 LX:(Nat→Addr)→Nat→Heap→Nat→O→Prop
 fv:Nat→Addr
 fread:Addr
structure Fi where
 env:Env
 cx:Ctx
 cad:List Addr
structure A2E (fi:Fi):Prop where
 kind:fi.env.scope.kind=.function
 globals:fi.env.globals=mainGlobals
 builtins:fi.env.builtins=builtinsNs
 loc:∀x,fi.cx.names.lookup x=some .local→fi.env.kindOf x=some .local
 glob:∀x,fi.cx.names.lookup x=some .globalImplicit→fi.env.kindOf x=some .globalImplicit
 celk:∀x,fi.cx.names.lookup x=some .cell→fi.env.kindOf x=some .cell
 frek:∀x,fi.cx.names.lookup x=some .free→fi.env.kindOf x=some .cell∨fi.env.kindOf x=some .free
 cell:∀x k,(fi.cx.names.lookup x=some .cell∨fi.cx.names.lookup x=some .free)→at? fi.cx.cels x=some k→
  ∃a,fi.cad[k]?=some a∧fi.env.cells.lookup x=some a
 nclass:∀x k,at? fi.cx.cels x=some k→(x == ("__classdict__" : Str))=false
 ndebug:∀x,(fi.cx.names.lookup x).isSome=true→(x == ("__debug__" : Str))=false
noncomputable def Fi.ads (fi:Fi) (X:List (Addr×Obj)):List Addr:=fi.env.locals::fi.cad ++ X.map (·.1)
structure Inv (C:Cx) (fi:Fi) (φ:Nat→Addr) (X:List (Addr×Obj)) (σ:St) (s:Shared):Prop where
 keep:∀b o,C.h₀.get? b=some o→s.heap.get? b=some o
 inj:∀i∈A0c σ.hp,∀j∈A0c σ.hp,φ i=φ j→i=j
 live:∀i∈A0c σ.hp,C.h₀.get? (φ i)=none∧∃ob,s.heap.get? (φ i)=some ob
 env:A2E fi
 ids:(A0c σ.hp).Nodup
 low:∀i∈A0c σ.hp,i < σ.nx
 nd:(fi.env.locals::fi.cad).Nodup
 off:∀a∈fi.ads X,C.h₀.get? a=none∧∀i∈A0c σ.hp,φ i≠a
 apart:∀a∈fi.env.locals::fi.cad,a∉X.map (·.1)
 loc:∃m,s.heap.Ns fi.env.locals m∧∀x k v,at? fi.cx.locs x=some k→nth σ.loc k=some v→v≠.unb→∃rv,m x=some rv∧VR C.ρ φ σ.nx v rv
 cel:∀k a,fi.cad[k]?=some a→∃o cv,s.heap.get? a=some o∧o.data=.cell cv∧∀v,nth σ.cel k=some v→v≠.unb→∃rv,cv=some rv∧VR C.ρ φ σ.nx v rv
 hp:∀p∈σ.hp,OR C.LX C.ρ φ σ.nx s.heap p.1 p.2
 xs:∀p∈X,s.heap.get? p.1=some p.2
 gens:∃more,s.gens=C.gens ++ more∧AllBare more
 drawn:s.drawn=C.drawn
 os:s.os=C.os
structure Room (A:Around) (n:Nat):Prop where
 depth:A.depth + n < 990
 units:A.units + 8 * n < 9800
 handled:A.handled=none
structure Cx.Ok (C:Cx):Prop where
 g:C.h₀.Ns mainGlobals C.mg
 b:C.h₀.Ns builtinsNs C.mb
 nolimit:C.h₀.NoLimit
 boot:∀x:Str,x ≠ "__name__" → C.mb x=bootBuiltins x
 free:∀x:Str,A3e.contains x=true→C.mg x=none
 con:∀x v,A1P x=some v→∃rv,C.mg x=some rv∧VR C.ρ (fun _=>0) 0 v rv
 ρlen:∀i,(C.ρ i).length≤32
 ext:∀φ φ' n n' h h' i o,C.LX φ n h i o→Ext φ φ' n→n≤n'→(∀j∈i::own o,j < n)→(∀j∈i::own o,∀ob,h.get? (φ j)=some ob→h'.get? (φ j)=some ob)→C.LX φ' n' h' i o
 frz:∀φ n h i xs,C.LX φ n h i (.frz xs)→∃vs:List Value,h.IsList (φ i) vs.toArray∧VRs C.ρ φ n xs vs∧xs.length≤5000
theorem OR.ext {C:Cx} (H:C.Ok) {φ φ':Nat→Addr} {n n':Nat} {h h':Heap} {i:Nat} {o:O} (x:OR C.LX C.ρ φ n h i o) (e:Ext φ φ' n) (hn:n≤n') (hi:∀j∈i::own o,j < n)
  (hk:∀j∈i::own o,∀ob,h.get? (φ j)=some ob→h'.get? (φ j)=some ob):OR C.LX C.ρ φ' n' h' i o:=by
 cases o with
 | list xs=>
  refine e2a3 x fun vs k hg hv hl=>?_
  exact ⟨vs,k,by rw [e i (hi i (.head _))]; exact hk i (.head _) _ hg,hv.ext e hn,hl⟩
 | tup xs=>
  refine e2a3 x fun vs k hg hv hl=>?_
  exact ⟨vs,k,by rw [e i (hi i (.head _))]; exact hk i (.head _) _ hg,hv.ext e hn,hl⟩
 | tok a b c d=>exact H.ext _ _ _ _ _ _ _ _ x e hn hi hk
 | lex a b c d=>exact H.ext _ _ _ _ _ _ _ _ x e hn hi hk
 | fit a b c=>exact H.ext _ _ _ _ _ _ _ _ x e hn hi hk
 | frz a=>exact H.ext _ _ _ _ _ _ _ _ x e hn hi hk
section
variable {C:Cx} {fi:Fi} {φ φ':Nat→Addr} {X:List (Addr×Obj)} {σ σ':St} {s s':Shared}
theorem A0s {hp:List (Nat×O)} {p:Nat×O} (h:p∈hp):∀j∈p.1::own p.2,j∈A0c hp:=fun j hj=>List.mem_flatMap.mpr ⟨p,h,hj⟩
theorem Inv.lowH (I:Inv C fi φ X σ s) {p:Nat×O} (h:p∈σ.hp):∀j∈p.1::own p.2,j < σ.nx:=
 fun j hj=>I.low j (A0s h j hj)
theorem Inv.lad (I:Inv C fi φ X σ s):fi.env.locals∈fi.ads X:=by simp [Fi.ads]
theorem Inv.cadIn (I:Inv C fi φ X σ s) {a:Addr} (h:a∈fi.cad):a∈fi.ads X:=by simp [Fi.ads,h]
theorem Inv.xIn (I:Inv C fi φ X σ s) {p:Addr×Obj} (h:p∈X):p.1∈fi.ads X:=by
 unfold Fi.ads; exact List.mem_append_right _ (List.mem_map_of_mem h)
theorem Inv.adLive (I:Inv C fi φ X σ s) {a:Addr} (h:a∈fi.ads X):∃ob,s.heap.get? a=some ob:=by
 unfold Fi.ads at h
 rcases List.mem_append.mp h with h | h
 ·
  rcases List.mem_cons.mp h with rfl | h
  ·
   obtain ⟨m,⟨ob,es,ep,e1,e2⟩,_⟩:=I.loc
   exact ⟨ob,e1⟩
  ·
   obtain ⟨k,hk⟩:=List.mem_iff_getElem?.mp h
   refine e2a2 (I.cel k a hk) fun o cv h1 _=>?_
   exact ⟨o,h1⟩
 ·
  refine e1a2 (List.mem_map.mp h) fun p hp e2z=>?_
  subst e2z
  exact ⟨_,I.xs p hp⟩
theorem Inv.keepsBut (H:C.Ok) (I:Inv C fi φ X σ s) (wr:List Addr) (hw:∀b∈wr,C.h₀.get? b=none∧(∀i∈A0c σ.hp,φ i≠b)∧b∉fi.ads X)
  (hk:∀b o,b∉wr→s.heap.get? b=some o→s'.heap.get? b=some o)
  (hg:s'.gens=s.gens) (hd:s'.drawn=s.drawn) (ho:s'.os=s.os):Inv C fi φ X σ s' where
 keep:=fun b o e=>hk b o (fun h=>by have:=(hw b h).1; rw [e] at this; cases this) (I.keep b o e)
 inj:=I.inj
 live:=fun i hi=>⟨(I.live i hi).1,let ⟨ob,e⟩:=(I.live i hi).2; ⟨ob,hk _ _ (fun h=>(hw _ h).2.1 i hi rfl) e⟩⟩
 env:=I.env
 ids:=I.ids
 low:=I.low
 nd:=I.nd
 off:=I.off
 apart:=I.apart
 loc:=let ⟨m,⟨ob,es,ep,e1,e2⟩,h⟩:=I.loc; ⟨m,⟨ob,es,ep,hk _ _ (fun h=>(hw _ h).2.2 I.lad) e1,e2⟩,h⟩
 cel:=fun k a e=>let ⟨o,cv,h1,h2⟩:=I.cel k a e; ⟨o,cv,hk _ _ (fun h=>(hw _ h).2.2 (I.cadIn (List.mem_of_getElem? e))) h1,h2⟩
 hp:=fun p hp=>OR.ext H (I.hp p hp) (Ext.refl _ _) (Nat.le_refl _) (I.lowH hp) fun j hj ob e=>hk _ _ (fun h=>(hw _ h).2.1 j (A0s hp j hj) rfl) e
 xs:=fun p hp=>hk _ _ (fun h=>(hw _ h).2.2 (I.xIn hp)) (I.xs p hp)
 gens:=by rw [hg]; exact I.gens
 drawn:=hd.trans I.drawn
 os:=ho.trans I.os
theorem Inv.keeps (H:C.Ok) (I:Inv C fi φ X σ s) (hk:∀b o,s.heap.get? b=some o→s'.heap.get? b=some o)
  (hg:s'.gens=s.gens) (hd:s'.drawn=s.drawn) (ho:s'.os=s.os):Inv C fi φ X σ s':=
 I.keepsBut H [] (fun _ h=>nomatch h) (fun b o _ e=>hk b o e) hg hd ho
theorem Inv.toks (H:C.Ok) (I:Inv C fi φ X σ s) (t:Nat):Inv C fi φ X σ { s with toks:=t }:=I.keeps H (fun _ _ e=>e) rfl rfl rfl
noncomputable def putAt (φ:Nat→Addr) (n:Nat) (a:Addr):Nat→Addr:=fun i=>if i=n then a else φ i
theorem Ext.putAt (φ:Nat→Addr) (n:Nat) (a:Addr):Ext φ (Mine.putAt φ n a) n:=fun i hi=>if_neg (Nat.ne_of_lt hi)
theorem Inv.more (H:C.Ok) (I:Inv C fi φ X σ s) {n':Nat} (hn:σ.nx≤n') (e:Ext φ φ' σ.nx):Inv C fi φ' X { σ with nx:=n' } s where
 keep:=I.keep
 inj:=fun i hi j hj h=>I.inj i hi j hj (by rw [←e i (I.low i hi),←e j (I.low j hj)]; exact h)
 live:=fun i hi=>by rw [e i (I.low i hi)]; exact I.live i hi
 env:=I.env
 ids:=I.ids
 low:=fun i hi=>Nat.lt_of_lt_of_le (I.low i hi) hn
 nd:=I.nd
 off:=fun a ha=>⟨(I.off a ha).1,fun i hi=>by rw [e i (I.low i hi)]; exact (I.off a ha).2 i hi⟩
 apart:=I.apart
 loc:=by
  refine e1a2 I.loc fun m hns h=>?_
  refine ⟨m,hns,fun x k v h1 h2 h3=>?_⟩
  refine e1a2 (h x k v h1 h2 h3) fun rv h4 h5=>?_
  exact ⟨rv,h4,h5.ext e hn⟩
 cel:=fun k a hk=>by
  refine e2a3 (I.cel k a hk) fun o cv h1 h2 h3=>?_
  refine ⟨o,cv,h1,h2,fun v h4 h5=>?_⟩
  refine e1a2 (h3 v h4 h5) fun rv h6 h7=>?_
  exact ⟨rv,h6,h7.ext e hn⟩
 hp:=fun p hp=>OR.ext H (I.hp p hp) e hn (I.lowH hp) fun _ _ _ h=>h
 xs:=I.xs
 gens:=I.gens
 drawn:=I.drawn
 os:=I.os
end
end Mine
end
section
namespace Mine
open PySem PyProof.Rows
theorem A8y {a b:Nat} (h:Nat.beq a b=true):a=b:=Nat.eq_of_beq_eq_true h
theorem C1x {a b:Nat} (h:Nat.beq a b=false):a≠b:=Nat.ne_of_beq_eq_false h
theorem A0l {hp:List (Nat×O)} {i:Nat} {o:O}:hget hp i=some o→(i,o)∈hp:=by
 induction hp with
 | nil=>exact A0a
 | cons p r ih=>
  intro h
  have h:(match Nat.beq p.1 i with | true=>some p.2 | false=>hget r i)=some o:=h
  cases q:Nat.beq p.1 i with
  | true=>rw [q] at h; rw [←A8y q,←Option.some.inj h]; exact .head _
  | false=>rw [q] at h; exact .tail _ (ih h)
theorem A0f (p:Nat×O) (hp:List (Nat×O)):A0c (p::hp)=(p.1::own p.2) ++ A0c hp:=by simp [A0c]
theorem A9J {hp:List (Nat×O)} {i:Nat} {o o':O} (h:hget hp i=some o) (e:own o'=own o):A0c (hset hp i o')=A0c hp:=by
 induction hp with
 | nil=>exact A0a h
 | cons p r ih=>
  have h:(match Nat.beq p.1 i with | true=>some p.2 | false=>hget r i)=some o:=h
  show A0c (match Nat.beq p.1 i with | true=>(p.1,o')::r | false=>p::hset r i o')=_
  cases q:Nat.beq p.1 i with
  | true=>rw [q] at h; rw [A0f,A0f,e,←Option.some.inj h]
  | false=>rw [q] at h; rw [A0f,A0f,ih h]
theorem A9K {hp:List (Nat×O)} {i:Nat} {o o':O} (h:hget hp i=some o) (nd:(A0c hp).Nodup) (p:Nat×O):p∈hset hp i o'→p=(i,o')∨(p∈hp∧∀j∈p.1::own p.2,j∉i::own o):=by
 induction hp with
 | nil=>exact A0a h
 | cons x r ih=>
  have h:(match Nat.beq x.1 i with | true=>some x.2 | false=>hget r i)=some o:=h
  show p∈(match Nat.beq x.1 i with | true=>(x.1,o')::r | false=>x::hset r i o')→_
  rw [A0f] at nd
  have n:=List.nodup_append.mp nd
  cases q:Nat.beq x.1 i with
  | true=>
   rw [q] at h
   rw [←A8y q,←Option.some.inj h]
   exact fun hm=>(List.mem_cons.mp hm).imp id fun hm=>⟨.tail _ hm,fun k hk hk'=>n.2.2 k hk' k (A0s hm k hk) rfl⟩
  | false=>
   rw [q] at h
   exact fun hm=>(List.mem_cons.mp hm).elim (fun e=>.inr (by rw [e]; exact ⟨.head _,fun k hk hk'=>n.2.2 k hk k (A0s (A0l h) k hk') rfl⟩)) fun hm=>(ih h n.2.1 hm).imp id fun e=>⟨.tail _ e.1,e.2⟩
theorem A3i {l l':List (Nat×O)} (h:l.Sublist l'):(A0c l).Sublist (A0c l'):=by
 induction h with
 | slnil=>exact .slnil
 | cons p _ ih=>rw [A0f]; exact ih.trans (List.sublist_append_right ..)
 | cons_cons p _ ih=>rw [A0f,A0f]; exact List.Sublist.append_left ih _
section
variable {C:Cx} {fi:Fi} {φ φ':Nat→Addr} {X:List (Addr×Obj)} {σ σ':St} {s s':Shared}
theorem Inv.ne (I:Inv C fi φ X σ s) {i j:Nat} (hi:i∈A0c σ.hp) (hj:j∈A0c σ.hp) (h:i≠j):φ i≠φ j:=fun e=>h (I.inj i hi j hj e)
theorem A0L {hp:List (Nat×O)} {i:Nat} {o:O} (h:hget hp i=some o):i∈A0c hp:=A0s (A0l h) i (.head _)
theorem Inv.add (H:C.Ok) (I:Inv C fi φ X σ s) {i:Nat} {o:O} (hi:∀j∈i::own o,j < σ.nx) (hn:(i::own o).Nodup) (hinj:∀j∈i::own o,∀k∈i::own o,φ j=φ k→j=k)
  (hlive:∀j∈i::own o,C.h₀.get? (φ j)=none∧∃ob,s.heap.get? (φ j)=some ob) (hf:∀j∈i::own o,∀k∈A0c σ.hp,φ k≠φ j) (ha:∀j∈i::own o,φ j∉fi.ads X)
  (hO:OR C.LX C.ρ φ σ.nx s.heap i o):Inv C fi φ X { σ with hp:=(i,o)::σ.hp } s where
 keep:=I.keep
 inj:=fun j hj k hk e=>by
  rw [A0f,List.mem_append] at hj hk
  rcases hj with hj | hj <;> rcases hk with hk | hk
  ·
   exact hinj j hj k hk e
  ·
   exact absurd e.symm (hf j hj k hk)
  ·
   exact absurd e (hf k hk j hj)
  ·
   exact I.inj j hj k hk e
 live:=fun j hj=>by
  rw [A0f,List.mem_append] at hj
  exact hj.elim (hlive j) (I.live j)
 env:=I.env
 ids:=by
  rw [A0f]
  exact List.nodup_append.mpr ⟨hn,I.ids,fun a h1 b h2 e=>hf a h1 b h2 (by rw [e])⟩
 low:=fun k hk=>by
  rw [A0f,List.mem_append] at hk
  exact hk.elim (hi k) (I.low k)
 nd:=I.nd
 off:=fun a h=>⟨(I.off a h).1,fun k hk=>by
  rw [A0f,List.mem_append] at hk
  rcases hk with hk | hk
  ·
   exact fun e=>ha k hk (e▸h)
  ·
   exact (I.off a h).2 k hk⟩
 apart:=I.apart
 loc:=I.loc
 cel:=I.cel
 hp:=fun p hp=>by
  rcases List.mem_cons.mp hp with rfl | hp
  ·
   exact hO
  ·
   exact I.hp p hp
 xs:=I.xs
 gens:=I.gens
 drawn:=I.drawn
 os:=I.os
theorem Inv.newAt (H:C.Ok) (I:Inv C fi φ X σ s) {a:Addr} {o:O} (ho:own o=[]) (hk:∀b ob,s.heap.get? b=some ob→s'.heap.get? b=some ob) (hfree:s.heap.get? a=none) (hlive:∃ob,s'.heap.get? a=some ob)
  (hg:s'.gens=s.gens) (hd:s'.drawn=s.drawn) (hos:s'.os=s.os)
  (hO:OR C.LX C.ρ (putAt φ σ.nx a) (σ.nx + 1) s'.heap σ.nx o):
  Inv C fi (putAt φ σ.nx a) X { σ with hp:=(σ.nx,o)::σ.hp,nx:=σ.nx + 1 } s':=by
 have I0:Inv C fi φ X σ s':=I.keeps H hk hg hd hos
 have I1:=I0.more H (Nat.le_succ _) (Ext.putAt φ σ.nx a)
 have e0:putAt φ σ.nx a σ.nx=a:=if_pos rfl
 have hi:∀j,j∈σ.nx::own o→j=σ.nx:=fun j hj=>by simpa [ho] using hj
 refine I1.add H (i:=σ.nx) (o:=o) (fun j hj=>by rw [hi j hj]; exact Nat.lt_succ_self _) (by simp [ho]) (fun j hj k hk _=>by rw [hi j hj,hi k hk]) (fun j hj=>?_) (fun j hj k hk'=>?_) (fun j hj hm=>?_) hO
 ·
  rw [hi j hj,e0]
  refine ⟨?_,hlive⟩
  cases q:C.h₀.get? a with
  | none=>rfl
  | some ob=>have:=I.keep _ _ q; rw [hfree] at this; cases this
 ·
  rw [hi j hj,e0]
  intro e
  rw [Ext.putAt φ σ.nx a k (I.low k hk')] at e
  obtain ⟨ob,h2⟩:=(I.live k hk').2
  rw [e,hfree] at h2; cases h2
 ·
  rw [hi j hj,e0] at hm
  obtain ⟨ob,h2⟩:=I.adLive hm
  rw [hfree] at h2; cases h2
theorem A0e (h:Heap):h.get? h.objs.size=none:=by
 cases q:h.get? h.objs.size with
 | none=>rfl
 | some o=>exact absurd (Heap.lt_size q) (Nat.lt_irrefl _)
theorem A0E (φ:Nat→Addr) (n:Nat) (a:Addr):putAt φ n a n=a:=if_pos rfl
theorem Inv.newList (H:C.Ok) (I:Inv C fi φ X σ s) {xs:List V} {vs:List Value} (hv:VRs C.ρ φ σ.nx xs vs) (hlen:xs.length≤5000) {t:Nat}:
  Inv C fi (putAt φ σ.nx s.heap.objs.size) X { σ with hp:=(σ.nx,.list xs)::σ.hp,nx:=σ.nx + 1 } { s with heap:=s.heap.push (A0k vs 0),toks:=t }:=by
 have e:(s.heap.push (A0k vs 0)).get? s.heap.objs.size=some (A0k vs 0):=Heap.get?_push_size _ rfl
 exact I.newAt H rfl (fun b o e=>Heap.get?_push_of_some _ e) (A0e _) ⟨_,e⟩ rfl rfl rfl ⟨vs,0,by rw [A0E]; exact e,hv.ext (Ext.putAt _ _ _) (Nat.le_succ _),hlen⟩
theorem Inv.newListAt (H:C.Ok) (I:Inv C fi φ X σ s) {a:Addr} {xs:List V} {vs:List Value} {k:Nat} (hv:VRs C.ρ φ σ.nx xs vs) (hlen:xs.length≤5000) (hk:∀b ob,s.heap.get? b=some ob→s'.heap.get? b=some ob) (hfree:s.heap.get? a=none) (e:s'.heap.get? a=some (A0k vs k))
  (hg:s'.gens=s.gens) (hd:s'.drawn=s.drawn) (hos:s'.os=s.os):Inv C fi (putAt φ σ.nx a) X { σ with hp:=(σ.nx,.list xs)::σ.hp,nx:=σ.nx + 1 } s':=
 I.newAt H rfl hk hfree ⟨_,e⟩ hg hd hos ⟨vs,k,by rw [A0E]; exact e,hv.ext (Ext.putAt _ _ _) (Nat.le_succ _),hlen⟩
theorem Inv.newTup (H:C.Ok) (I:Inv C fi φ X σ s) {xs:List V} {vs:List Value} (hv:VRs C.ρ φ σ.nx xs vs) (hlen:xs.length≤5000) {t:Nat}:
  Inv C fi (putAt φ σ.nx s.heap.objs.size) X { σ with hp:=(σ.nx,.tup xs)::σ.hp,nx:=σ.nx + 1 } { s with heap:=s.heap.push (tupO vs 0),toks:=t }:=by
 have e:(s.heap.push (tupO vs 0)).get? s.heap.objs.size=some (tupO vs 0):=Heap.get?_push_size _ rfl
 exact I.newAt H rfl (fun b o e=>Heap.get?_push_of_some _ e) (A0e _) ⟨_,e⟩ rfl rfl rfl ⟨vs,0,by rw [A0E]; exact e,hv.ext (Ext.putAt _ _ _) (Nat.le_succ _),hlen⟩
theorem Inv.turn (H:C.Ok) (I:Inv C fi φ X σ s) {i:Nat} {o o':O} (hg:hget σ.hp i=some o) (ho:own o'=own o)
  (hk:∀b ob,(∀j∈i::own o,b≠φ j)→s.heap.get? b=some ob→s'.heap.get? b=some ob) (hlive:∀j∈i::own o,∃ob,s'.heap.get? (φ j)=some ob)
  (hO:OR C.LX C.ρ φ σ.nx s'.heap i o') (hgs:s'.gens=s.gens) (hd:s'.drawn=s.drawn) (hos:s'.os=s.os):Inv C fi φ X { σ with hp:=hset σ.hp i o' } s':=by
 have inI:∀j∈i::own o,j∈A0c σ.hp:=A0s (A0l hg)
 have off:∀k∈A0c σ.hp,k∉i::own o→∀ob,s.heap.get? (φ k)=some ob→s'.heap.get? (φ k)=some ob:=fun k hk1 hk2 ob e=>
  hk _ _ (fun j hj q=>hk2 (I.inj k hk1 j (inI j hj) q▸hj)) e
 have adOff:∀a∈fi.ads X,∀ob,s.heap.get? a=some ob→s'.heap.get? a=some ob:=fun a ha ob e=>
  hk _ _ (fun j hj q=>(I.off a ha).2 j (inI j hj) q.symm) e
 have qi:A0c (hset σ.hp i o')=A0c σ.hp:=A9J hg ho
 exact {
  keep:=fun b ob e=>hk b ob (fun j hj q=>by have:=(I.live j (inI j hj)).1; rw [←q,e] at this; cases this) (I.keep b ob e)
  inj:=fun j hj k hk'=>I.inj j (by rw [←qi]; exact hj) k (by rw [←qi]; exact hk')
  live:=fun k hk'=>by
   have hk2:k∈A0c σ.hp:=by rw [←qi]; exact hk'
   refine ⟨(I.live k hk2).1,?_⟩
   by_cases q:k∈i::own o
   ·
    exact hlive k q
   ·
    obtain ⟨ob,e⟩:=(I.live k hk2).2
    exact ⟨ob,off k hk2 q ob e⟩
  env:=I.env
  ids:=by show (A0c (hset σ.hp i o')).Nodup; rw [qi]; exact I.ids
  low:=fun k hk'=>I.low k (by rw [←qi]; exact hk')
  nd:=I.nd
  off:=fun a ha=>⟨(I.off a ha).1,fun k hk'=>(I.off a ha).2 k (by rw [←qi]; exact hk')⟩
  apart:=I.apart
  loc:=by
   obtain ⟨m,⟨ob,es,ep,e1,e2⟩,h⟩:=I.loc
   exact ⟨m,⟨ob,es,ep,adOff _ I.lad _ e1,e2⟩,h⟩
  cel:=fun k a hc=>by
   refine e2a2 (I.cel k a hc) fun ob cv e1 e2=>?_
   exact ⟨ob,cv,adOff _ (I.cadIn (List.mem_of_getElem? hc)) _ e1,e2⟩
  hp:=fun p hp=>by
   rcases A9K hg I.ids p hp with rfl | ⟨hm,hd⟩
   ·
    exact hO
   ·
    exact OR.ext H (I.hp p hm) (Ext.refl _ _) (Nat.le_refl _) (I.lowH hm) fun j hj ob e=>off j (A0s hm j hj) (hd j hj) ob e
  xs:=fun p hp=>adOff _ (I.xIn hp) _ (I.xs p hp)
  gens:=by rw [hgs]; exact I.gens
  drawn:=hd.trans I.drawn
  os:=hos.trans I.os }
theorem Inv.turnList (H:C.Ok) (I:Inv C fi φ X σ s) {i:Nat} {xs ys:List V} {vs:List Value} {k:Nat} (hg:hget σ.hp i=some (.list xs)) (hS:Heap.SameBut (φ i) s.heap s'.heap) (e:s'.heap.get? (φ i)=some (A0k vs k)) (hv:VRs C.ρ φ σ.nx ys vs) (hl:ys.length≤5000)
  (hgs:s'.gens=s.gens) (hd:s'.drawn=s.drawn) (hos:s'.os=s.os):Inv C fi φ X { σ with hp:=hset σ.hp i (.list ys) } s':=by
 refine I.turn H hg rfl (fun b ob hb x=>?_) (fun j hj=>?_) ⟨vs,k,e,hv,hl⟩ hgs hd hos
 ·
  exact hS.extBut b ob (hb i (.head _)) x
 ·
  rw [List.mem_singleton.mp hj]; exact ⟨_,e⟩
theorem Inv.drop (I:Inv C fi φ X σ s) {hp:List (Nat×O)} (hs:hp.Sublist σ.hp):Inv C fi φ X { σ with hp:=hp } s:=by
 have hids:(A0c hp).Sublist (A0c σ.hp):=A3i hs
 exact {
  keep:=I.keep,inj:=fun i hi j hj=>I.inj i (hids.subset hi) j (hids.subset hj),live:=fun i hi=>I.live i (hids.subset hi),env:=I.env
  ids:=I.ids.sublist hids
  low:=fun i hi=>I.low i (hids.subset hi)
  nd:=I.nd
  off:=fun a ha=>⟨(I.off a ha).1,fun i hi=>(I.off a ha).2 i (hids.subset hi)⟩
  apart:=I.apart
  loc:=I.loc,cel:=I.cel
  hp:=fun p h=>I.hp p (hs.subset h)
  xs:=I.xs,gens:=I.gens,drawn:=I.drawn,os:=I.os }
theorem Inv.get (I:Inv C fi φ X σ s) {i:Nat} {o:O} (h:hget σ.hp i=some o):OR C.LX C.ρ φ σ.nx s.heap i o:=I.hp _ (A0l h)
theorem B7X (H:C.Ok) (I:Inv C fi φ X σ s) {j:Nat} {xs:List V} (h:B4C (hget σ.hp j)=some xs):∃vs:List Value,s.heap.IsList (φ j) vs.toArray∧VRs C.ρ φ σ.nx xs vs∧xs.length≤5000:=by
 cases hg:hget σ.hp j with
 | none=>rw [hg] at h; cases h
 | some o=>
  rw [hg] at h
  have x:=I.get hg
  cases o with
  | list ys=>cases h; obtain ⟨vs,k,e,r⟩:=x; exact ⟨vs,⟨_,e,rfl,k,rfl⟩,r⟩
  | frz ys=>cases h; exact H.frz _ _ _ _ _ x
  | _=>cases h
end
end Mine
end
section
namespace Mine
open PySem PySem.Builtin PySem.Builtin.Str PySem.StrLaws
structure A0n (ρ:Nat→List Nat):Prop where
 one:∀i,i < 4→∃x,ρ i=[x]
 inj:∀i j,i < 4→j < 4→ρ i=ρ j→i=j
 pun:∀i x,i < 4→ρ i=[x]→A3I x=false
 low:∀i x,i < 4→ρ i=[x]→∃y,lowC (symB + i)=some y∧y < symB + 4∧symB≤y∧∀z,ρ (y - symB)=[z]→Txt.lower ⟨#[x]⟩=⟨#[z]⟩
noncomputable def ch (ρ:Nat→List Nat) (c:Nat):Nat:=if c < symB then c else (ρ (c - symB)).headD 0
theorem A2P {α:Type} {p:α→Bool} {l:List α} (h:l.all p=true):∀x∈l,p x=true:=fun x hx=>List.all_eq_true.mp h x hx
section
variable {ρ:Nat→List Nat}
theorem A2b {a b:Nat} (h:Nat.blt a b=true):a < b:=Nat.le_of_ble_eq_true h
theorem B7Y (S:A0n ρ) {c:Nat} (h:c < symB + 4):(if c < symB then [c] else ρ (c - symB))=[ch ρ c]:=by
 unfold ch
 by_cases hc:c < symB
 ·
  rw [if_pos hc,if_pos hc]
 ·
  rw [if_neg hc,if_neg hc]
  obtain ⟨x,hx⟩:=S.one (c - symB) (by lia)
  rw [hx]; rfl
theorem A2Q (S:A0n ρ):∀{s:List Nat},flat s=true→sv ρ s=s.map (ch ρ)
 | [],_=>rfl
 | c::s,h=>by
  have h1:Nat.blt c (symB + 4)=true∧flat s=true:=by unfold flat at h; rw [List.all_cons,Bool.and_eq_true] at h; exact h
  show (if c < symB then [c] else ρ (c - symB)) ++ sv ρ s=_
  rw [B7Y S (A2b h1.1),A2Q S h1.2]
  rfl
theorem A7j {c:Nat} (h:A3I c=true):c < 100:=by
 unfold A3I at h
 refine e1a2 (List.any_eq_true.mp h) fun x hx e=>?_
 have e:=Nat.eq_of_beq_eq_true e
 subst e
 simp at hx
 lia
theorem A1e {c:Nat}:A5u c=true↔symB≤c∧c < symB + 4:=by
 unfold A5u
 rw [Bool.and_eq_true]
 exact ⟨fun h=>⟨Nat.le_of_ble_eq_true h.1,A2b h.2⟩,fun h=>⟨Nat.ble_eq_true_of_le h.1,Nat.ble_eq_true_of_le h.2⟩⟩
noncomputable def B0I (c:Nat):Prop:=A3I c=true∨A5u c=true
theorem A9L {c:Nat} (h:(A3I c || A5u c)=true):B0I c:=by rwa [Bool.or_eq_true] at h
theorem A5G {c:Nat} (h:c < symB):ch ρ c=c:=if_pos h
theorem A7k {c:Nat} (h:A3I c=true):ch ρ c=c:=A5G (Nat.lt_trans (A7j h) (by decide))
theorem A7l (S:A0n ρ) {c:Nat} (h:A5u c=true):ρ (c - symB)=[ch ρ c]:=by
 obtain ⟨h1,h2⟩:=A1e.mp h
 obtain ⟨x,hx⟩:=S.one (c - symB) (by lia)
 unfold ch
 rw [if_neg (by lia),hx]; rfl
theorem B1W (S:A0n ρ) {c d:Nat} (hc:B0I c) (hd:B0I d) (e:ch ρ c=ch ρ d):c=d:=by
 rcases hc with hc | hc <;> rcases hd with hd | hd
 ·
  rwa [A7k hc,A7k hd] at e
 ·
  have:=S.pun _ _ (by have:=A1e.mp hd; lia) (A7l S hd)
  rw [←e,A7k hc,hc] at this; cases this
 ·
  have:=S.pun _ _ (by have:=A1e.mp hc; lia) (A7l S hc)
  rw [e,A7k hd,hd] at this; cases this
 ·
  have h1:=A1e.mp hc
  have h2:=A1e.mp hd
  have:=S.inj (c - symB) (d - symB) (by lia) (by lia) (by rw [A7l S hc,A7l S hd,e])
  lia
noncomputable def B7Z (ρ:Nat→List Nat) (s w:List Nat):Prop:=∀c d,c∈s→d∈w→ch ρ c=ch ρ d→c=d
theorem A4O {s w:List Nat} (h:A0F s w=true):((∀c∈s,c < symB)∧∀c∈w,c < symB)∨((∀c∈s,B0I c)∧∀c∈w,B0I c)∨((∀c∈w,A3I c=true)∧∀c∈s,c < symB + 4):=by
 unfold A0F at h
 rw [Bool.or_eq_true,Bool.or_eq_true,Bool.and_eq_true,Bool.and_eq_true,Bool.and_eq_true] at h
 rcases h with (⟨h1,h2⟩ | ⟨h1,h2⟩) | ⟨h1,h2⟩
 ·
  exact .inl ⟨fun c hc=>A2b (A2P h1 c hc),fun c hc=>A2b (A2P h2 c hc)⟩
 ·
  exact .inr (.inl ⟨fun c hc=>A9L (A2P h1 c hc),fun c hc=>A9L (A2P h2 c hc)⟩)
 ·
  exact .inr (.inr ⟨fun c hc=>A2P h1 c hc,fun c hc=>A2b (A2P h2 c hc)⟩)
theorem A5H {c:Nat} (h:A3I c=true):c < symB:=Nat.lt_trans (A7j h) (by decide)
theorem B8a (S:A0n ρ) {s w:List Nat} (h:A0F s w=true):B7Z ρ s w:=by
 rcases A4O h with ⟨h1,h2⟩ | ⟨h1,h2⟩ | ⟨h1,h2⟩
 ·
  intro c d hc hd e
  rwa [A5G (h1 c hc),A5G (h2 d hd)] at e
 ·
  intro c d hc hd e
  exact B1W S (h1 c hc) (h2 d hd) e
 ·
  intro c d hc hd e
  by_cases q:c < symB
  ·
   rwa [A5G q,A7k (h1 d hd)] at e
  ·
   have hs:A5u c=true:=A1e.mpr ⟨by lia,h2 c hc⟩
   exact B1W S (.inr hs) (.inl (h1 d hd)) e
theorem A3R {c:Nat} (h:B0I c):Nat.blt c (symB + 4)=true:=by
 refine Nat.ble_eq_true_of_le ?_
 rcases h with h | h
 ·
  have:=A5H h; lia
 ·
  exact (A1e.mp h).2
theorem A0j {s w:List Nat} (h:A0F s w=true):flat s=true∧flat w=true:=by
 unfold flat
 rcases A4O h with ⟨h1,h2⟩ | ⟨h1,h2⟩ | ⟨h1,h2⟩
 ·
  exact ⟨List.all_eq_true.mpr fun c hc=>Nat.ble_eq_true_of_le (by have:=h1 c hc; show c + 1≤_; lia),List.all_eq_true.mpr fun c hc=>Nat.ble_eq_true_of_le (by have:=h2 c hc; show c + 1≤_; lia)⟩
 ·
  exact ⟨List.all_eq_true.mpr fun c hc=>A3R (h1 c hc),List.all_eq_true.mpr fun c hc=>A3R (h2 c hc)⟩
 ·
  exact ⟨List.all_eq_true.mpr fun c hc=>Nat.ble_eq_true_of_le (h2 c hc),List.all_eq_true.mpr fun c hc=>A3R (.inl (h1 c hc))⟩
theorem A6y {s w:List Nat} (h:B7Z ρ s w):∀(a b:List Nat),(∀c∈a,c∈s)→(∀c∈b,c∈w)→(a.map (ch ρ) == b.map (ch ρ))=(a == b)
 | [],[],_,_=>rfl
 | [],_::_,_,_=>rfl
 | _::_,[],_,_=>rfl
 | c::a,d::b,ha,hb=>by
  have ih:=A6y h a b (fun c hc=>ha c (.tail _ hc)) (fun c hc=>hb c (.tail _ hc))
  rw [List.map_cons,List.map_cons,List.cons_beq_cons,List.cons_beq_cons,ih]
  congr 1
  rw [Bool.eq_iff_iff,beq_iff_eq,beq_iff_eq]
  exact ⟨fun e=>h c d (ha c (.head _)) (hb d (.head _)) e,fun e=>by rw [e]⟩
theorem A9M:∀a b:List Nat,seq a b=(a == b)
 | [],[]=>rfl
 | [],_::_=>rfl
 | _::_,[]=>rfl
 | c::a,d::b=>by
  unfold seq
  rw [List.cons_beq_cons,←A9M a b]
  cases q:Nat.beq c d with
  | true=>rw [Nat.eq_of_beq_eq_true q]; simp
  | false=>have:=Nat.ne_of_beq_eq_false q; simp [this]
theorem A9N:∀w s:List Nat,pre w s=(s.take w.length == w)
 | [],s=>by simp [pre]
 | _::_,[]=>rfl
 | c::w,d::s=>by
  unfold pre
  rw [List.length_cons,List.take_succ_cons,List.cons_beq_cons,←A9N w s]
  cases q:Nat.beq c d with
  | true=>rw [Nat.eq_of_beq_eq_true q]; simp
  | false=>have:=Nat.ne_of_beq_eq_false q; simp [Ne.symm this]
theorem A1c (S:A0n ρ) {s:List Nat} (h:flat s=true):(A0b ρ s).cps.toList=s.map (ch ρ):=by
 show (sv ρ s).toArray.toList=_
 rw [A2Q S h]
theorem A0d (S:A0n ρ) {s:List Nat} (h:flat s=true):(A0b ρ s).length=s.length:=by
 show (sv ρ s).toArray.size=_
 rw [A2Q S h]; simp
theorem C1y (S:A0n ρ) {a b:List Nat} (h:A0F a b=true):((A0b ρ a).cps.toList == (A0b ρ b).cps.toList)=seq a b:=by
 obtain ⟨fa,fb⟩:=A0j h
 rw [A1c S fa,A1c S fb,A9M]
 exact A6y (B8a S h) a b (fun _ h=>h) (fun _ h=>h)
theorem A4P (S:A0n ρ) {s w:List Nat} (h:A0F s w=true) (i:Nat):subAt (A0b ρ s) (A0b ρ w) i=pre w (s.drop i):=by
 obtain ⟨fs,fw⟩:=A0j h
 rw [subAt_eq,A1c S fs,A1c S fw,A0d S fw,A9N]
 have:=A6y (B8a S h) ((s.drop i).take w.length) w (fun c hc=>List.mem_of_mem_drop (List.mem_of_mem_take hc)) (fun _ h=>h)
 rw [←this,←List.map_drop,←List.map_take]
theorem A8z:∀{w s:List Nat},pre w s=true→w.length≤s.length
 | [],_,_=>Nat.zero_le _
 | _::_,[],h=>by cases h
 | c::w,d::s,h=>by
  unfold pre at h
  cases q:Nat.beq c d with
  | true=>rw [q] at h; exact Nat.succ_le_succ (A8z h)
  | false=>rw [q] at h; cases h
theorem A5y (S:A0n ρ) {s w:List Nat} (h:A0F s w=true):Txt.startswith (A0b ρ s) (A0b ρ w)=pre w s:=by
 obtain ⟨fs,fw⟩:=A0j h
 unfold Txt.startswith
 rw [A4P S h,A0d S fs,A0d S fw,List.drop_zero]
 cases q:pre w s with
 | true=>have:=A8z q; simp; exact this
 | false=>simp
theorem B1X {w s:List Nat} (h:s.length=w.length):pre w s=seq w s:=by
 rw [A9N,A9M,←h,List.take_length]
 rw [Bool.eq_iff_iff,beq_iff_eq,beq_iff_eq]; exact ⟨Eq.symm,Eq.symm⟩
theorem A7m (S:A0n ρ) {s w:List Nat} (h:A0F s w=true):
  Txt.endswith (A0b ρ s) (A0b ρ w)=(match Nat.blt s.length w.length with | true=>false | false=>seq w (s.drop (s.length - w.length))):=by
 obtain ⟨fs,fw⟩:=A0j h
 unfold Txt.endswith
 rw [A4P S h,A0d S fs,A0d S fw]
 cases q:Nat.blt s.length w.length with
 | true=>have:=A2b q; simp; lia
 | false=>
  have hle:w.length≤s.length:=by
   apply Nat.le_of_not_lt; intro hlt
   have:Nat.blt s.length w.length=true:=Nat.ble_eq_true_of_le hlt
   rw [this] at q; cases q
  rw [B1X (by rw [List.length_drop]; lia)]
  simp [hle]
theorem A2F (S:A0n ρ) {s w:List Nat} (h:A0F s w=true) {hi i:Nat} (hh:hi≤s.length):PySem.StrLaws.At (A0b ρ s) (A0b ρ w) hi i↔(i + w.length≤hi∧pre w (s.drop i)=true):=by
 unfold PySem.StrLaws.At
 rw [A4P S h,A0d S (A0j h).2]
theorem A3S (w:List Nat):∀(k:Nat) (s:List Nat) (lo:Nat),
  (A5v w k s lo=none∧∀i,i < k→i≤s.length→pre w (s.drop i)=false)∨(∃i,A5v w k s lo=some (lo + i)∧i < k∧pre w (s.drop i)=true∧∀j,j < i→pre w (s.drop j)=false)
 | 0,s,lo=>.inl ⟨rfl,fun i hi=>absurd hi (Nat.not_lt_zero _)⟩
 | k + 1,s,lo=>by
  unfold A5v
  cases q:pre w s with
  | true=>exact .inr ⟨0,rfl,Nat.succ_pos _,q,fun j hj=>absurd hj (Nat.not_lt_zero _)⟩
  | false=>
   cases s with
   | nil=>exact .inl ⟨rfl,fun i _ hi=>by simpa using q⟩
   | cons c s=>
    show (A5v w k s (lo + 1)=none∧_)∨(∃i,A5v w k s (lo + 1)=some (lo + i)∧_)
    rcases A3S w k s (lo + 1) with ⟨h1,h2⟩ | ⟨i,h1,h2,h3,h4⟩
    ·
     refine .inl ⟨h1,fun i hi hl=>?_⟩
     cases i with
     | zero=>exact q
     | succ i=>exact h2 i (by lia) (by simpa using hl)
    ·
     refine .inr ⟨i + 1,by rw [h1]; congr 1; lia,by lia,h3,fun j hj=>?_⟩
     cases j with
     | zero=>exact q
     | succ j=>exact h4 j (by lia)
theorem A9O (S:A0n ρ) {s w:List Nat} (h:A0F s w=true) {lo hi:Nat} (hl:lo≤hi) (hh:hi≤s.length):
  (match occurrences (A0b ρ s) (A0b ρ w) lo hi 1 with | i::_=>(i:Int) | []=>-1)=A4s s w lo hi:=by
 rw [occ_eq]
 have key:=occ_first (A0b ρ s) (A0b ρ w) hi 1 (Nat.le_refl 1) (List.range' lo (hi + 1 - lo)) lo (fun i hi'=>(List.mem_range'_1.mp hi').1)
 unfold A4s
 rcases key with ⟨h0,hn⟩ | ⟨pr,a,post,e,h0,ha,hn⟩
 ·
  rw [h0]
  show (-1:Int)=_
  cases q:Nat.blt hi (lo + w.length) with
  | true=>rfl
  | false=>
   rcases A3S w (hi + 1 - (lo + w.length)) (s.drop lo) lo with ⟨h1,h2⟩ | ⟨i,h1,h2,h3,h4⟩
   ·
    simp only [h1]
   ·
    exfalso
    refine hn (lo + i) (List.mem_range'_1.mpr ⟨by lia,by lia⟩) ((A2F S h hh).mpr ⟨by lia,?_⟩)
    rwa [List.drop_drop] at h3
 ·
  have ha':=(A2F S h hh).mp ha
  have hma:a∈List.range' lo (hi + 1 - lo):=by rw [e]; simp
  have hlo:=(List.mem_range'_1.mp hma).1
  have hq:Nat.blt hi (lo + w.length)=false:=by
   cases q:Nat.blt hi (lo + w.length) with
   | false=>rfl
   | true=>have:=A2b q; lia
  have first:∀k,lo≤k→k < a→¬PySem.StrLaws.At (A0b ρ s) (A0b ρ w) hi k:=by
   intro k h1 h2
   refine hn k ?_
   have hs:=congrArg List.length e
   have hpl:pr.length=a - lo:=by
    have h3:(List.range' lo (hi + 1 - lo))[pr.length]?=some a:=by rw [e]; simp
    rw [List.getElem?_range'] at h3
    ·
     simp at h3; lia
    ·
     have:=(List.getElem?_eq_some_iff.mp h3).1; simpa using this
   have h4:(List.range' lo (hi + 1 - lo))[k - lo]?=pr[k - lo]?:=by rw [e,List.getElem?_append_left (by lia)]
   rw [List.getElem?_range'] at h4
   ·
    have h5:pr[k - lo]?=some k:=by rw [←h4]; simp; lia
    exact List.mem_of_getElem? h5
   ·
    have:=(List.mem_range'_1.mp hma).2; lia
  rw [hq]
  have hres:(forIn (List.range' lo (hi + 1 - lo)) ((#[]:Array Nat),lo) (occBody (A0b ρ s) (A0b ρ w) hi 1)).run.fst.toList=a::((forIn (List.range' lo (hi + 1 - lo)) ((#[]:Array Nat),lo) (occBody (A0b ρ s) (A0b ρ w) hi 1)).run.fst.toList).tail:=by
   generalize (forIn (List.range' lo (hi + 1 - lo)) ((#[]:Array Nat),lo) (occBody (A0b ρ s) (A0b ρ w) hi 1)).run.fst=arr at h0
   have h1:arr.toList[0]?=some a:=by simpa using h0
   cases hL:arr.toList with
   | nil=>rw [hL] at h1; cases h1
   | cons b t=>rw [hL] at h1; simp at h1; rw [h1]; rfl
  rw [hres]
  show (a:Int)=_
  rcases A3S w (hi + 1 - (lo + w.length)) (s.drop lo) lo with ⟨h1,h2⟩ | ⟨i,h1,h2,h3,h4⟩
  ·
   have:=h2 (a - lo) (by lia) (by rw [List.length_drop]; lia)
   rw [List.drop_drop,show lo + (a - lo)=a by lia,ha'.2] at this; cases this
  ·
   simp only [h1]
   rw [List.drop_drop] at h3
   have hi1:¬lo + i < a:=fun hlt=>first (lo + i) (by lia) hlt ((A2F S h hh).mpr ⟨by lia,h3⟩)
   have hi2:¬a < lo + i:=fun hlt=>by
    have:=h4 (a - lo) (by lia)
    rw [List.drop_drop,show lo + (a - lo)=a by lia,ha'.2] at this; cases this
   show (a:Int)=((lo + i:Nat):Int)
   congr 1; lia
end
end Mine
end
section
namespace Mine
open PySem PyProof.Rows
section
variable {β γ:Type} {ρ:Nat→List Nat} {φ:Nat→Addr} {n:Nat} {v:V} {rv:Value} {r:β} {p:Value→Prop} {q:Prop}
theorem i_ok {k:Int→Option β} (hv:VR ρ φ n v rv) (h:v.i k=some r) (H:∀x t,k x=some r→p (.int x t)):p rv:=by
 cases hv with
 | int x t=>exact H x t h
 | _=>exact A0a h
theorem s_ok {k:List Nat→Option β} (hv:VR ρ φ n v rv) (h:v.s k=some r) (H:∀x t,x.length≤4000→k x=some r→p (.str (A0b ρ x) t)):p rv:=by
 cases hv with
 | str x t hl=>exact H x t hl h
 | _=>exact A0a h
theorem r_ok {k:Nat→Option β} (hv:VR ρ φ n v rv) (h:v.r k=some r) (H:∀j,j < n→k j=some r→p (.ref (φ j))):p rv:=by
 cases hv with
 | ref j hj=>exact H j hj h
 | _=>exact A0a h
theorem s_on {k:List Nat→Option β} (h:v.s k=some r) (H:∀x,v=.str x→k x=some r→q):q:=by
 induction v with
 | str x=>exact H x rfl h
 | _=>exact A0a h
theorem r_on {k:Nat→Option β} (h:v.r k=some r) (H:∀x,v=.ref x→k x=some r→q):q:=by
 induction v with
 | ref x=>exact H x rfl h
 | _=>exact A0a h
theorem A3j {hp:List (Nat×O)} {j:Nat} {k:List V→Option β} (h:hL hp j k=some r) (H:∀xs,hget hp j=some (.list xs)→k xs=some r→q):q:=by
 unfold hL at h
 cases e:hget hp j with
 | none=>rw [e] at h; exact A0a h
 | some o=>
  rw [e] at h
  induction o with
  | list xs=>exact H xs e h
  | _=>exact A0a h
theorem A1D {b:Bool} {k:Option β} (h:gd b k=some r) (H:b=true→k=some r→q):q:=by
 induction b with
 | true=>exact H rfl h
 | false=>exact A0a h
theorem A1p {c:Prop} [i:Decidable c] {k:Option β} (h:(if c then k else none)=some r) (H:c→k=some r→q):q:=by
 induction i with
 | isTrue hc=>exact H hc h
 | isFalse _=>exact A0a h
theorem A2G {f:γ→β} {o:Option γ} (h:o.map f=some r) (H:∀y,o=some y→some (f y)=some r→q):q:=by
 induction o with
 | none=>exact A0a h
 | some y=>exact H y rfl h
theorem n_ok {k:Option β} (hv:VR ρ φ n v rv) (h:v.n k=some r) (H:k=some r→p .none):p rv:=by
 cases hv with
 | none=>exact H h
 | _=>exact A0a h
theorem t_on {t:Tg} {k:List Tg→Option β} (h:t.t k=some r) (H:∀l,t=.tup l→k l=some r→q):q:=by
 cases t with
 | tup l=>exact H l rfl h
 | loc _ | cel _=>exact A0a h
theorem A9P {l:List γ} {k:γ→Option β} (h:one l k=some r) (H:∀x,l=[x]→k x=some r→q):q:=by
 match l with
 | [x]=>exact H x rfl h
 | [] | _::_::_=>exact A0a h
theorem A0p {f:γ→Option β} {o:Option γ} (h:o.bind f=some r) (H:∀y,o=some y→f y=some r→q):q:=by
 induction o with
 | none=>exact A0a h
 | some y=>exact H y rfl h
theorem A1I {vs:List V} {rvs:List Value} {k:V→Option β} {p:List Value→Prop} (hv:VRs ρ φ n vs rvs) (h:one vs k=some r) (H:∀v x,VR ρ φ n v x→k v=some r→p [x]):p rvs:=by
 cases hv with
 | nil=>exact A0a h
 | cons a b=>cases b with
  | nil=>exact H _ _ a h
  | cons=>exact A0a h
theorem B1Y {vs:List V} {rvs:List Value} {k:V→V→Option β} {p:List Value→Prop} (hv:VRs ρ φ n vs rvs) (h:two vs k=some r) (H:∀v x w y,VR ρ φ n v x→VR ρ φ n w y→k v w=some r→p [x,y]):p rvs:=by
 cases hv with
 | nil=>exact A0a h
 | cons a b=>exact A1I (p:=fun l=>p (_::l)) b h fun w y c h=>H _ _ w y a c h
theorem B8b {vs:List V} {rvs:List Value} {k:Option (V×St)} {r:V×St} {p:List Value→Prop} (hv:VRs ρ φ n vs rvs) (h:nil0 vs k=some r) (H:k=some r→p []):p rvs:=by
 cases hv with
 | nil=>exact H h
 | cons=>exact A0a h
theorem A8A {s:List Nat} {k:Nat→Option (V×St)} {r:V×St} (h:B1F s k=some r) (H:∀c,s=[c]→k c=some r→q):q:=by
 induction s with
 | nil=>exact A0a h
 | cons c s=>cases s with
  | nil=>exact H c rfl h
  | cons=>exact A0a h
end
section
variable {ρ:Nat→List Nat} {φ:Nat→Addr} {n:Nat} {rv:Value} {xs:List Value}
theorem B1Z {i:Int} (h:VR ρ φ n (.int i) rv):∃t,rv=.int i t:=by cases h with
 | int _ t=>exact ⟨t,rfl⟩
theorem A5I {s:List Nat} (h:VR ρ φ n (.str s) rv):∃t,rv=.str (A0b ρ s) t:=by cases h with
 | str _ t=>exact ⟨t,rfl⟩
theorem A1a {j:Nat} (h:VR ρ φ n (.ref j) rv):rv=.ref (φ j):=by cases h; rfl
theorem B4M {p:List Value→Prop} (h:VRs ρ φ n [] xs) (H:p []):p xs:=by cases h; exact H
theorem C1z {v:V} {l:List V} {p:List Value→Prop} (h:VRs ρ φ n (v::l) xs) (H:∀x r,VR ρ φ n v x→VRs ρ φ n l r→p (x::r)):p xs:=by cases h with
 | cons a b=>exact H _ _ a b
theorem C1A {v:V} {p:List Value→Prop} (h:VRs ρ φ n [v] xs) (H:∀x,VR ρ φ n v x→p [x]):p xs:=C1z h fun x r a b=>B4M b (p:=fun r=>p (x::r)) (H x a)
end
theorem A6z {n:Nat}:∀{k:Nat} {v:V},nth (List.replicate n V.unb) k=some v→v=.unb:=by
 induction n with
 | zero=>intro k v h; exact A0a h
 | succ n ih=>
  intro k v h
  cases k with
  | zero=>exact (Option.some.inj h).symm
  | succ k=>exact ih h
noncomputable def Up {α:Type} (n:Nat) (p:Option (α×St)):Prop:=match p with
 | none=>True
 | some x=>n≤x.2.nx
theorem B8c {α γ:Type} {a c:α} {b d:γ} {p:α→γ→Prop} (h:some (a,b)=some (c,d)) (q:p c d):p a b:=by
 obtain ⟨rfl,rfl⟩:=Prod.mk.inj (Option.some.inj h); exact q
theorem Up.out {α:Type} {n:Nat} {p:Option (α×St)} {x:α} {σ:St} (h:Up n p) (e:p=some (x,σ)):n≤σ.nx:=by
 rw [e] at h; exact h
theorem C1B {α:Type} {n:Nat} {p:Option (α×St)} (h:∀x σ,p=some (x,σ)→n≤σ.nx):Up n p:=by
 cases p with
 | none=>trivial
 | some x=>exact h x.1 x.2 rfl
section
variable {α γ:Type} {n:Nat}
theorem Up.le {m:Nat} {p:Option (α×St)} (h:Up m p) (e:n≤m):Up n p:=by
 cases p with
 | none=>trivial
 | some x=>exact Nat.le_trans e h
theorem up_i {v:V} {k:Int→Option (α×St)} (H:∀x,Up n (k x)):Up n (v.i k):=by
 induction v with
 | int x=>exact H x
 | _=>trivial
theorem up_s {v:V} {k:List Nat→Option (α×St)} (H:∀x,Up n (k x)):Up n (v.s k):=by
 induction v with
 | str x=>exact H x
 | _=>trivial
theorem up_r {v:V} {k:Nat→Option (α×St)} (H:∀x,Up n (k x)):Up n (v.r k):=by
 induction v with
 | ref x=>exact H x
 | _=>trivial
theorem A1y {o:Option γ} {k:γ→Option (α×St)} (H:∀x,Up n (k x)):Up n (o.bind k):=by
 induction o with
 | none=>trivial
 | some y=>exact H y
theorem A3k {hp:List (Nat×O)} {j:Nat} {k:List V→Option (α×St)} (H:∀xs,Up n (k xs)):Up n (hL hp j k):=by
 unfold hL
 cases hget hp j with
 | none=>trivial
 | some o=>cases o with
  | list xs=>exact H xs
  | _=>trivial
theorem A2g {b:Bool} {k:Option (α×St)} (H:Up n k):Up n (gd b k):=by
 induction b with
 | true=>exact H
 | false=>trivial
theorem A2R {c:Prop} [i:Decidable c] {k l:Option (α×St)} (H:Up n k) (H':Up n l):Up n (if c then k else l):=by
 induction i with
 | isTrue hc=>exact H
 | isFalse _=>exact H'
theorem A7n {f:γ→α×St} {o:Option γ} (H:∀y,n≤(f y).2.nx):Up n (o.map f):=by
 induction o with
 | none=>trivial
 | some y=>exact H y
theorem A0V {vs:List γ} {k:γ→Option (α×St)} (H:∀x,Up n (k x)):Up n (one vs k):=by
 induction vs with
 | nil=>trivial
 | cons v r=>cases r with
  | nil=>exact H v
  | cons=>trivial
theorem B8d {vs:List V} {k:V→V→Option (α×St)} (H:∀x y,Up n (k x y)):Up n (two vs k):=by
 induction vs with
 | nil=>trivial
 | cons v r=>exact A0V (H v)
theorem A9Q {vs:List V} {k:Option (V×St)} (H:Up n k):Up n (nil0 vs k):=by
 induction vs with
 | nil=>exact H
 | cons=>trivial
theorem B8T {v:V} {k:Option (α×St)} (H:Up n k):Up n (v.n k):=by
 induction v with
 | none=>exact H
 | _=>trivial
theorem C1C {t:Tg} {k:List Tg→Option (α×St)} (H:∀l,Up n (k l)):Up n (t.t k):=by
 match t with
 | .tup l=>exact H l
 | .loc _ | .cel _=>trivial
theorem A8B {s:List Nat} {k:Nat→Option (V×St)} (H:∀x,Up n (k x)):Up n (B1F s k):=by
 induction s with
 | nil=>trivial
 | cons v r=>cases r with
  | nil=>exact H v
  | cons=>trivial
end
section
variable {σ:St} {v:V} {vs:List V}
theorem B8U {b:V}:Up σ.nx (bAdd σ v b):=by
 induction v with
 | int x=>cases b with
  | int=>exact Nat.le_refl _
  | bool=>exact Nat.le_refl _
  | _=>trivial
 | str x=>exact up_s fun y=>A2R (Nat.le_refl _) trivial
 | ref i=>exact up_r fun j=>A3k fun xs=>A3k fun ys=>A2R (Nat.le_succ _) trivial
 | _=>trivial
theorem A9R {op:Bop} {b:V}:Up σ.nx (A1x op σ v b):=by
 induction op with
 | add=>exact B8U
 | sub=>exact up_i fun x=>up_i fun y=>Nat.le_refl _
 | _=>exact up_i fun x=>up_i fun y=>A2R (Nat.le_refl _) trivial
theorem C1D {i:Int}:Up σ.nx (chrV σ i):=by
 induction i with
 | ofNat=>exact A2g (Nat.le_refl _)
 | negSucc=>trivial
theorem C1E:Up σ.nx (lenV σ v):=by
 induction v with
 | str s=>exact A2g (Nat.le_refl _)
 | ref j=>exact A1y fun _=>Nat.le_refl σ.nx
 | _=>trivial
theorem B8V {j:Nat}:Up σ.nx (B4D σ j):=by
 unfold B4D
 cases hget σ.hp j with
 | none=>trivial
 | some o=>cases o with
  | lex=>exact Nat.le_add_right _ _
  | _=>trivial
theorem A5J {b:Bi}:Up σ.nx (builtin b σ vs):=by
 induction b with
 | len=>exact A0V fun _=>C1E
 | sum=>exact A0V fun _=>up_r fun j=>A3k fun xs=>A7n fun _=>Nat.le_refl _
 | int=>exact A0V fun v=>by cases v <;> first | exact Nat.le_refl _ | trivial
 | chr=>exact A0V fun v=>up_i fun i=>C1D
 | iterRead=>exact A0V fun v=>up_r fun j=>B8V
 | _=>exact B8d fun a b=>up_i fun x=>up_i fun y=>Nat.le_refl _
theorem C1F {j:Nat} {i:Int} {xs:List V}:Up σ.nx (popV σ j i xs):=by
 induction xs with
 | nil=>trivial
 | cons=>exact A2R (Nat.le_refl _) trivial
theorem B4N {xs:List V}:Up σ.nx (B1E σ v xs):=A1y fun _=>A7n fun _=>Nat.le_refl σ.nx
theorem B4O {o:V}:Up σ.nx (B1G σ o v):=by
 induction o with
 | ref j=>exact A3k fun xs=>A7n fun _=>Nat.le_refl _
 | str s=>exact up_s fun w=>A8B fun c=>A2g (Nat.le_refl _)
 | _=>trivial
theorem B4P {s w:List Nat}:Up σ.nx (B1H σ s w):=by
 induction w with
 | nil=>trivial
 | cons=>exact Nat.le_succ _
theorem B8W {s w:List Nat} {lo hi:Int}:Up σ.nx (B4E σ s w lo hi):=by
 induction lo with
 | negSucc=>trivial
 | ofNat=>cases hi with
  | negSucc=>trivial
  | ofNat=>exact A2g (A2g (Nat.le_refl _))
theorem B4Q {s:List Nat}:Up σ.nx (match (motive:=List V→Option (V×St)) vs with | []=>none | v::vs=>v.s fun w=>two vs fun a b=>a.i fun lo=>b.i fun hi=>B4E σ s w lo hi):=by
 induction vs with
 | nil=>trivial
 | cons=>exact up_s fun w=>B8d fun a b=>up_i fun lo=>up_i fun hi=>B8W
theorem B8X {s:List Nat} {xs:List V}:Up σ.nx (B8H σ s xs):=A1y fun _=>A2R (Nat.le_refl σ.nx) trivial
theorem B2a {m:Me} {o:V}:Up σ.nx (A1G m σ o vs):=by
 induction m with
 | append=>exact up_r fun j=>A0V fun v=>A3k fun xs=>A2R (Nat.le_refl _) trivial
 | pop=>exact up_r fun j=>A0V fun v=>up_i fun i=>A3k fun xs=>C1F
 | index=>exact up_r fun j=>A0V fun v=>A3k fun xs=>B4N
 | count=>exact A0V fun v=>B4O
 | split=>exact up_s fun s=>A0V fun v=>up_s fun w=>A2g B4P
 | find=>exact up_s fun s=>B4Q
 | lower=>exact up_s fun s=>A9Q (A8B fun c=>A7n fun _=>Nat.le_refl _)
 | upper=>exact up_s fun s=>A9Q (A8B fun c=>A2R (Nat.le_refl _) trivial)
 | join=>exact up_s fun s=>A0V fun v=>up_r fun j=>A3k fun xs=>B8X
 | readChar=>exact up_r fun j=>A9Q (A7n fun _=>Nat.le_refl _)
 | getToken=>trivial
 | pushToken=>trivial
 | _=>exact up_s fun s=>A0V fun v=>up_s fun w=>A2g (Nat.le_refl _)
end
end Mine
end
section
namespace Mine
open PySem PyProof.Rows PySem.StrLaws PySem.Builtin.Str
noncomputable def Post (C:Cx) (fi:Fi) (φ:Nat→Addr) (X:List (Addr×Obj)) (σ σ':St) (v:V) (Q:Value→Shared→Prop):Prop:=
 ∀φ' s' rv,Ext φ φ' σ.nx→Inv C fi φ' X σ' s'→VR C.ρ φ' σ'.nx v rv→Q rv s'
theorem A9S {x:Int} (h:0≤x∧x≤10):x.natAbs < 2 ^ 64:=Nat.lt_of_le_of_lt (show x.natAbs≤10 by lia) (by decide)
section
variable {C:Cx} {fi:Fi} {φ φ':Nat→Addr} {X:List (Addr×Obj)} {σ σ':St} {s s':Shared} {A:Around} {E:Value→Shared→Prop} {Q:Value→Shared→Prop}
theorem A5K {ρ:Nat→List Nat} (h:∀i,(ρ i).length≤32):∀l:List Nat,(sv ρ l).length≤32 * l.length
 | []=>Nat.le_refl _
 | c::l=>by
  show ((if c < symB then [c] else ρ (c - symB)) ++ sv ρ l).length≤_
  have:=A5K h l
  have h2:=h (c - symB)
  rw [List.length_append,List.length_cons]
  by_cases q:c < symB
  ·
   rw [if_pos q]; simp only [List.length_cons,List.length_nil]; lia
  ·
   rw [if_neg q]; lia
theorem A2m (H:C.Ok) {l:List Nat} (h:l.length≤4000):(A0b C.ρ l).length≤128000:=by
 show (sv C.ρ l).toArray.size≤_
 have:=A5K H.ρlen l
 simp only [List.size_toArray]
 lia
theorem VRs.get {ρ:Nat→List Nat} {n:Nat} {l:List V} {xs:List Value} (h:VRs ρ φ n l xs):∀{i:Nat} (hi:i < l.length) (hx:i < xs.length),VR ρ φ n l[i] xs[i]:=by
 induction h with
 | nil=>intro i hi; cases hi
 | cons a b ih=>
  intro i hi hx
  cases i with
  | zero=>exact a
  | succ i=>exact ih (Nat.lt_of_succ_lt_succ hi) (Nat.lt_of_succ_lt_succ hx)
theorem Post.fin {τ:St} {v w:V} (h:some (w,τ)=some (v,σ')) (q:Post C fi φ X σ σ' v Q):Post C fi φ X σ τ w Q:=B8c (p:=fun w τ=>Post C fi φ X σ τ w Q) h q
theorem A0h (H:C.Ok) (I:Inv C fi φ X σ s) {i:Int} (q:Post C fi φ X σ σ (.int i) Q) {t u:Nat}:Q (.int i t) { s with toks:=u }:=
 q φ _ _ (Ext.refl _ _) (I.toks H _) (.int _ _)
theorem A1Q (H:C.Ok) (I:Inv C fi φ X σ s) {l:List Nat} (q:Post C fi φ X σ σ (.str l) Q) {t u:Nat} (hl:l.length≤4000):Q (.str (A0b C.ρ l) t) { s with toks:=u }:=
 q φ _ _ (Ext.refl _ _) (I.toks H _) (.str _ _ hl)
theorem A3l (I:Inv C fi φ X σ s) {b:Bool} (q:Post C fi φ X σ σ (.bool b) Q):Q (.bool b) s:=
 q φ _ _ (Ext.refl _ _) I (.bool _)
theorem A3m {ρ:Nat→List Nat} (x:List Nat) (h:((A0b ρ x).length == 0)=true):sv ρ x=[]:=by
 have h:(A0b ρ x).length=0:=by simpa using h
 have h:(sv ρ x).toArray.size=0:=h
 simpa using h
set_option tactic.hygienic true in
theorem A5L (H:C.Ok) (I:Inv C fi φ X σ s) {x y:List Nat} (hx:x.length≤4000) (hy:y.length≤4000) (hl:x.length + y.length≤4000) {t u:Tok}
  (q:Post C fi φ X σ σ (.str (x ++ y)) Q):(if (A0b C.ρ x).length == 0 then Made.val (.str (A0b C.ρ y) u) else if (A0b C.ρ y).length == 0 then Made.val (.str (A0b C.ρ x) t) else Made.str (A0b C.ρ x ++ A0b C.ρ y)).post Q s:=by
 have hxy:(x ++ y).length≤4000:=by rw [List.length_append]; exact hl
 split
 ·
  rename_i h
  have e:A0b C.ρ y=A0b C.ρ (x ++ y):=by
   unfold A0b; rw [A1r,A3m x h,List.nil_append]
  show Q _ s
  rw [e]
  exact q φ _ _ (Ext.refl _ _) I (.str _ _ hxy)
 ·
  split
  ·
   rename_i h
   have e:A0b C.ρ x=A0b C.ρ (x ++ y):=by
    unfold A0b; rw [A1r,A3m y h,List.append_nil]
   show Q _ s
   rw [e]
   exact q φ _ _ (Ext.refl _ _) I (.str _ _ hxy)
  ·
   rw [←A7i]
   exact ⟨Nat.le_trans (A2m H hxy) (by decide),A1Q H I q hxy⟩
theorem A5M {x y:Int} (h:x.natAbs < 1000000∧y.natAbs < 1000000):Builtin.Int.intBits x≤64:=intBits_le_64 (by omega) (by omega)
theorem A4Q {x y:Int} (h:0 < y∧y < 1000000):Builtin.divisionGoesByPylong x y=false:=PyProof.noPylong_small (by omega)
theorem A8C (H:C.Ok) {i j:Nat} {xs ys:List V} (h1:hget σ.hp i=some (.list xs)) (h2:hget σ.hp j=some (.list ys)) (hl:xs.length + ys.length≤4000) (I:Inv C fi φ X σ s)
  (q:Post C fi φ X σ (σ.new (.list (xs ++ ys))).2 (.ref σ.nx) Q):wpAny (model C.prog C.w) A (binaryOp .Add (.ref (φ i)) (.ref (φ j))) Q E s:=by
 refine e2a3 (I.get h1) fun vs k g1 r1 l1=>?_
 refine e2a3 (I.get h2) fun ws k' g2 r2 l2=>?_
 have hl':(xs ++ ys).length≤5000:=Nat.le_trans (by rw [List.length_append]; exact hl) (by decide)
 have r:=I.newList H (r1.append r2) hl' (t:=s.toks)
 refine P.add_list g1 g2 ?_ (by have:=r1.length; have:=r2.length; simp only [List.size_toArray]; unfold sizeLine; lia)
 have e:vs.toArray ++ ws.toArray=(vs ++ ws).toArray:=by simp
 rw [e]
 refine q _ _ _ (Ext.putAt _ _ _) r ?_
 have:=VR.ref (ρ:=C.ρ) (φ:=putAt φ σ.nx s.heap.objs.size) (n:=σ.nx + 1) σ.nx (Nat.lt_succ_self _)
 rwa [A0E] at this
theorem A9T (H:C.Ok) {b:Bop} {a c v:V} {ra rc:Value} (h:A1x b σ a c=some (v,σ')) (I:Inv C fi φ X σ s)
  (ha:VR C.ρ φ σ.nx a ra) (hc:VR C.ρ φ σ.nx c rc) (q:Post C fi φ X σ σ' v Q):wpAny (model C.prog C.w) A (binaryOp (opB b) ra rc) Q E s:=by
 induction b with
 | add=>
  induction ha with
  | int x t=>induction hc with
   | int y u=>exact P.add_int (A0h H I (q.fin h))
   | bool y=>exact add_int_bool (A0h H I (q.fin h))
   | _=>exact A0a h
  | str x t hx=>
   apply s_ok hc h; intro y u hy h
   refine A1p h fun hl h=>?_
   exact P.add_str (A5L H I hx hy hl (q.fin h))
  | ref i hi=>
   apply r_ok hc h; intro j hj h
   refine A3j h fun xs h1 h=>?_
   refine A3j h fun ys h2 h=>?_
   refine A1p h fun hl h=>?_
   exact A8C H h1 h2 hl I (q.fin h)
  | _=>exact A0a h
 | sub=>
  apply i_ok ha h; intro x t h
  apply i_ok hc h; intro y u h
  exact P.sub_int (A0h H I (q.fin h))
 | mul=>
  apply i_ok ha h; intro x t h
  apply i_ok hc h; intro y u h
  refine A1p h fun hm h=>?_
  exact P.mul_int (A0h H I (q.fin h)) (IntMulOk.of_left (A5M hm))
 | fdiv=>
  apply i_ok ha h; intro x t h
  apply i_ok hc h; intro y u h
  refine A1p h fun hm h=>?_
  exact floordiv_int (Int.ne_of_gt hm.1) (A0h H I (q.fin h)) (Or.inl (A4Q hm))
 | mod=>
  apply i_ok ha h; intro x t h
  apply i_ok hc h; intro y u h
  refine A1p h fun hm h=>?_
  exact mod_int (Int.ne_of_gt hm) (A0h H I (q.fin h))
 | pow=>
  apply i_ok ha h; intro x t h
  apply i_ok hc h; intro y u h
  refine A1p h fun hm h=>?_
  exact pow_int_small hm.2.1 (Int.le_trans (Int.le_of_lt hm.2.2) (by decide)) (A9S hm.1) (A0h H I (q.fin h))
theorem A5N (H:C.Ok) {b:Bop} {a c v:V} {ra rc:Value} (hr:A4G a=false) (h:A1x b σ a c=some (v,σ')) (I:Inv C fi φ X σ s)
  (ha:VR C.ρ φ σ.nx a ra) (hc:VR C.ρ φ σ.nx c rc) (q:Post C fi φ X σ σ' v Q):wpAny (model C.prog C.w) A (inplaceOp (opB b) ra rc) Q E s:=by
 induction b with
 | add=>
  induction ha with
  | int x t=>induction hc with
   | int y u=>exact P.iadd_int (A0h H I (q.fin h))
   | bool y=>exact iadd_int_bool (A0h H I (q.fin h))
   | _=>exact A0a h
  | str x t hx=>
   apply s_ok hc h; intro y u hy h
   refine A1p h fun hl h=>?_
   exact P.iadd_str (A5L H I hx hy hl (q.fin h))
  | ref i hi=>exact notf hr
  | _=>exact A0a h
 | sub=>
  apply i_ok ha h; intro x t h
  apply i_ok hc h; intro y u h
  exact P.isub_int (A0h H I (q.fin h))
 | mul=>
  apply i_ok ha h; intro x t h
  apply i_ok hc h; intro y u h
  refine A1p h fun hm h=>?_
  exact P.imul_int (A0h H I (q.fin h)) (IntMulOk.of_left (A5M hm))
 | fdiv=>
  apply i_ok ha h; intro x t h
  apply i_ok hc h; intro y u h
  refine A1p h fun hm h=>?_
  exact ifloordiv_int (Int.ne_of_gt hm.1) (A0h H I (q.fin h)) (Or.inl (A4Q hm))
 | mod=>
  apply i_ok ha h; intro x t h
  apply i_ok hc h; intro y u h
  refine A1p h fun hm h=>?_
  exact imod_int (Int.ne_of_gt hm) (A0h H I (q.fin h))
 | pow=>
  apply i_ok ha h; intro x t h
  apply i_ok hc h; intro y u h
  refine A1p h fun hm h=>?_
  exact ipow_int_small hm.2.1 (Int.le_trans (Int.le_of_lt hm.2.2) (by decide)) (A9S hm.1) (A0h H I (q.fin h))
end
end Mine
end
section
namespace Mine
open PySem PyProof.Rows PySem.StrLaws PySem.Builtin.Str PySem.SeqAt PySem.MeetsSeq
noncomputable def R0:Value→Value→Bool
 | .int a _,.int b _=>a == b
 | .bool a,.bool b=>a == b
 | .str a _,.str b _=>a == b
 | _,_=>false
noncomputable def RL (xs ys:List Value):Bool:=(List.range xs.length).all fun j=>R0 (xs.getD j .none) (ys.getD j .none)
noncomputable def RH (h:Heap):Value→Value→Bool
 | .ref a,.ref b=>match h.get? a,h.get? b with
  | some oa,some ob=>match oa.data,ob.data with
   | .seq xs _,.seq ys _=>xs.size == ys.size && RL xs.toList ys.toList
   | _,_=>false
  | _,_=>false
 | x,y=>R0 x y
structure EqOk (s:Shared) (x y:Value) (r:Bool):Prop where
 eq:∀A:Around,A.units + 1 < cLine→EqAt A s x y r
 rc:∀A:Around,A.units + 1 < cLine→RcAt A s x y r
 ne:∀A:Around,A.units + 1 < cLine→RcNeAt A s x y (!r)
section
variable {C:Cx} {fi:Fi} {φ φ':Nat→Addr} {X:List (Addr×Obj)} {σ σ':St} {s s':Shared} {A:Around} {E:Value→Shared→Prop} {Q:Value→Shared→Prop} {n:Nat}
theorem B8Y (S:A0n C.ρ) {a b:List Nat} (h:A0F a b=true):(A0b C.ρ a == A0b C.ρ b)=seq a b:=by
 rw [←str_beq]; exact C1y S h
structure B4R (s:Shared) (x y:Value) (r:Bool):Prop where
 eq:∀A:Around,EqAt A s x y r
 rc:∀A:Around,RcAt A s x y r
 ne:∀A:Around,RcNeAt A s x y (!r)
theorem B2b {x y:Value} {r:Bool} (e:r=R0 x y) (h:B4R s x y (R0 x y)):r=R0 x y∧B4R s x y r:=⟨e,e▸h⟩
theorem B2c (S:A0n C.ρ) {a b:V} {ra rb:Value} {r:Bool} (ha:VR C.ρ φ n a ra) (hb:VR C.ρ φ n b rb) (h:veq0 a b=some r):r=R0 ra rb∧B4R s ra rb r:=by
 cases ha with
 | int i t=>cases hb with
  | int j u=>exact B2b ((Option.some.inj h).symm.trans (Bool.beq_eq_decide_eq i j).symm) ⟨fun A=>EqAt.int_int _ _ _ _,fun A=>RcAt.int_int _ _ _ _,fun A=>RcNeAt.int_int _ _ _ _⟩
  | _=>exact A0a h
 | bool i=>cases hb with
  | bool j=>exact B2b (Option.some.inj h).symm ⟨fun A=>EqAt.bool_bool _ _,fun A=>RcAt.bool_bool _ _,fun A=>RcNeAt.bool_bool _ _⟩
  | _=>exact A0a h
 | str x t hx=>cases hb with
  | str y u hy=>
   have h:(match A0F x y with | true=>some (seq x y) | false=>none)=some r:=h
   cases hs:A0F x y with
   | true=>rw [hs] at h; exact B2b ((Option.some.inj h).symm.trans (B8Y S hs).symm) ⟨fun A=>EqAt.str_str _ _ _ _,fun A=>RcAt.str_str _ _ _ _,fun A=>RcNeAt.str_str _ _ _ _⟩
   | false=>rw [hs] at h; exact A0a h
  | _=>exact A0a h
 | _=>exact A0a h
theorem B2d {f:V→V→Option Bool} {a b:V} {l t:List V} {r:Bool} (h:veqs f (a::l) (b::t)=some r):∃x y,f a b=some x∧veqs f l t=some y∧r=(x && y):=by
 have h:(match f a b,veqs f l t with | some x,some y=>some (x && y) | _,_=>none)=some r:=h
 cases e1:f a b with
 | none=>rw [e1] at h; exact A0a h
 | some x=>
  rw [e1] at h
  cases e2:veqs f l t with
  | none=>rw [e2] at h; exact A0a h
  | some y=>rw [e2] at h; exact ⟨x,y,rfl,rfl,(Option.some.inj h).symm⟩
theorem B8Z (S:A0n C.ρ) {xs:List V} {vs:List Value} (hx:VRs C.ρ φ n xs vs):∀{ys:List V} {ws:List Value} {r:Bool},VRs C.ρ φ n ys ws→veqs veq0 xs ys=some r→
  r=RL vs ws∧∀j (h1:j < vs.length) (h2:j < ws.length),B4R s vs[j] ws[j] (R0 (vs.getD j .none) (ws.getD j .none)):=by
 induction hx with
 | nil=>
  intro ys ws r hy h
  cases hy with
  | nil=>exact ⟨(Option.some.inj h).symm,fun j h1=>nomatch h1⟩
  | cons=>exact A0a h
 | cons a _ ih=>
  intro ys ws r hy h
  cases hy with
  | nil=>exact A0a h
  | cons b hy=>
   obtain ⟨r1,r2,e1,e2,e⟩:=B2d h
   have i:=ih hy e2
   have j:=B2c S a b e1 (s:=s)
   refine ⟨e.trans ?_,fun k h1 h2=>?_⟩
   ·
    rw [i.1,j.1]
    unfold RL
    rw [List.length_cons,List.range_succ_eq_map,List.all_cons,List.all_map]
    rfl
   ·
    cases k with
    | zero=>exact j.1▸j.2
    | succ k=>exact i.2 k (Nat.lt_of_succ_lt_succ h1) (Nat.lt_of_succ_lt_succ h2)
theorem A6A (S:A0n C.ρ) {a b:V} {ra rb:Value} {r:Bool} (ha:VR C.ρ φ n a ra) (hb:VR C.ρ φ n b rb) (h:veq0 a b=some r) (e:RH s.heap ra rb=R0 ra rb):r=RH s.heap ra rb∧EqOk s ra rb r:=
 have i:=B2c S ha hb h (s:=s)
 ⟨i.1.trans e.symm,⟨fun A _=>i.2.eq A,fun A _=>i.2.rc A,fun A _=>i.2.ne A⟩⟩
theorem B4S {hp:List (Nat×O)} {i j:Nat} {r:Bool} (h:veq hp (.ref i) (.ref j)=some r):i≠j∧∃xs ys,hget hp i=some (.list xs)∧hget hp j=some (.list ys)∧(xs.length=ys.length∧veqs veq0 xs ys=some r∨xs.length≠ys.length∧r=false):=by
 have h:(match Nat.beq i j with
  | true=>none
  | false=>match hget hp i,hget hp j with
   | some (.list xs),some (.list ys)=>match Nat.beq xs.length ys.length with
    | true=>veqs veq0 xs ys
    | false=>some false
   | _,_=>none)=some r:=h
 cases hij:Nat.beq i j with
 | true=>rw [hij] at h; exact A0a h
 | false=>
  rw [hij] at h
  refine ⟨C1x hij,?_⟩
  cases h1:hget hp i with
  | none=>rw [h1] at h; exact A0a h
  | some o=>cases o with
   | list xs=>
    rw [h1] at h
    cases h2:hget hp j with
    | none=>rw [h2] at h; exact A0a h
    | some o=>cases o with
     | list ys=>
      rw [h2] at h
      refine ⟨xs,ys,rfl,rfl,?_⟩
      have h:(match Nat.beq xs.length ys.length with
       | true=>veqs veq0 xs ys
       | false=>some false)=some r:=h
      cases hl:Nat.beq xs.length ys.length with
      | true=>rw [hl] at h; exact .inl ⟨A8y hl,h⟩
      | false=>rw [hl] at h; exact .inr ⟨C1x hl,(Option.some.inj h).symm⟩
     | _=>rw [h2] at h; exact A0a h
   | _=>rw [h1] at h; exact A0a h
theorem A5O {a b:Addr} {r:Bool} (hne:a≠b) (e:∀A:Around,A.units < cLine→RcAt A s (.ref a) (.ref b) r) (n:∀A:Around,A.units < cLine→RcNeAt A s (.ref a) (.ref b) (!r)):EqOk s (.ref a) (.ref b) r:=
 ⟨fun A hu=>EqAt.of_refs hne (e _ (Nat.lt_of_succ_lt hu)),fun A hu=>e A (Nat.lt_of_succ_lt hu),fun A hu=>n A (Nat.lt_of_succ_lt hu)⟩
theorem A5P (S:A0n C.ρ) (I:Inv C fi φ X σ s) {a b:V} {ra rb:Value} {r:Bool} (ha:VR C.ρ φ σ.nx a ra) (hb:VR C.ρ φ σ.nx b rb) (h:veq σ.hp a b=some r):r=RH s.heap ra rb∧EqOk s ra rb r:=by
 cases ha with
 | none=>exact A6A S .none hb h rfl
 | bool x=>exact A6A S (.bool x) hb h rfl
 | int x t=>exact A6A S (.int x t) hb h rfl
 | str x t l=>exact A6A S (.str x t l) hb h rfl
 | ref i hi=>cases hb with
  | ref j hj=>
   obtain ⟨hij,xs,ys,h1,h2,h⟩:=B4S h
   have hne:φ i≠φ j:=I.ne (A0L h1) (A0L h2) hij
   obtain ⟨vs,k,g1,r1,l1⟩:=I.get h1
   obtain ⟨ws,k',g2,r2,l2⟩:=I.get h2
   have L1:s.heap.IsList (φ i) vs.toArray:=IsL.isList g1
   have L2:s.heap.IsList (φ j) ws.toArray:=IsL.isList g2
   have hR:RH s.heap (.ref (φ i)) (.ref (φ j))=(vs.length == ws.length && RL vs ws):=by
    show (match s.heap.get? (φ i),s.heap.get? (φ j) with | some oa,some ob=>(match oa.data,ob.data with | .seq xs _,.seq ys _=>xs.size == ys.size && RL xs.toList ys.toList | _,_=>false) | _,_=>false)=_
    rw [g1,g2]
    rfl
   rw [hR]
   rcases h with ⟨hl,h⟩ | ⟨hl,h⟩
   ·
    have e:=B8Z S (s:=s) r1 r2 h
    have hsz:vs.length=ws.length:=r1.length.trans (hl.trans r2.length.symm)
    refine ⟨by rw [e.1,hsz,beq_self_eq_true,Bool.true_and],?_⟩
    rw [e.1]
    exact A5O hne (fun A hu=>RcAt.lists L1 L2 hsz hu fun j h1 h2=>(e.2 j h1 h2).eq _) fun A hu=>RcNeAt.lists L1 L2 hsz hu fun j h1 h2=>(e.2 j h1 h2).eq _
   ·
    have hsz:vs.length≠ws.length:=fun e=>hl (r1.length.symm.trans (e.trans r2.length))
    have hz:(vs.toArray.size != ws.toArray.size)=true:=bne_iff_ne.mpr hsz
    rw [h]
    exact ⟨by rw [beq_false_of_ne hsz,Bool.false_and],A5O hne (fun A hu=>RcAt.lists_lengths L1 L2 hz hu) fun A hu=>RcNeAt.lists_lengths L1 L2 hz hu⟩
  | _=>exact A0a h
end
end Mine
end
section
namespace Mine
open PySem PyProof.Rows PySem.StrLaws PySem.Builtin.Str PySem.SeqAt PySem.MeetsSeq
section
variable {C:Cx} {fi:Fi} {φ φ':Nat→Addr} {X:List (Addr×Obj)} {σ σ':St} {s s':Shared} {A:Around} {E:Value→Shared→Prop} {Q:Value→Shared→Prop} {n:Nat}
noncomputable def A8D (C:Cx) (fi:Fi) (φ:Nat→Addr) (X:List (Addr×Obj)) (σ σ':St) (b:Bool) (Q:Bool→Shared→Prop):Prop:=
 ∀φ' s',Ext φ φ' σ.nx→Inv C fi φ' X σ' s'→Q b s'
theorem C1G (S:A0n C.ρ) {l:List Nat} (h:∀i,0 < (C.ρ i).length):l≠[]→0 < (sv C.ρ l).length:=by
 intro hne
 cases l with
 | nil=>exact absurd rfl hne
 | cons c l=>
  show 0 < ((if c < symB then [c] else C.ρ (c - symB)) ++ sv C.ρ l).length
  rw [List.length_append]
  by_cases q:c < symB
  ·
   rw [if_pos q]; simp only [List.length_cons,List.length_nil]; lia
  ·
   rw [if_neg q]; have:=h (c - symB); lia
set_option tactic.hygienic true in
theorem A2y (H:C.Ok) (S:A0n C.ρ) (hρ:∀i,0 < (C.ρ i).length) {v:V} {rv:Value} {b:Bool} (h:A4H σ.hp v=some b) (I:Inv C fi φ X σ s) (hv:VR C.ρ φ σ.nx v rv) {Q:Bool→Shared→Prop} (q:A8D C fi φ X σ σ b Q):
  wpAny (model C.prog C.w) A (truthy rv) Q E s:=by
 have g:∀t,Q b { s with toks:=t }:=fun t=>q φ _ (Ext.refl _ _) (I.toks H t)
 unfold A4H at h
 split at h
 ·
  cases h; cases hv
  exact fun _ _ _=>g s.toks
 ·
  cases h; cases hv
  exact wpAny_truthy_bool (g s.toks)
 ·
  cases h; cases hv
  refine P.truthy_int ?_
  rename_i i _
  have e:(i != 0)=!decide (i=0):=by rw [Bool.eq_iff_iff]; simp
  rw [e]; exact g s.toks
 ·
  cases h; cases hv
  rename_i l _ hl
  refine P.truthy_str (by have:=A2m H hl; clear q g; lia) ?_
  have e:(((A0b C.ρ l).length:Int) != 0)=!l.isEmpty:=by
   cases l with
   | nil=>rfl
   | cons c l=>
    have:=C1G S hρ (l:=c::l) (by simp)
    have e2:(A0b C.ρ (c::l)).length=(sv C.ρ (c::l)).length:=by show (sv C.ρ (c::l)).toArray.size=_; simp
    rw [e2]
    have e3:(((sv C.ρ (c::l)).length:Int) != 0)=true:=by simp only [bne_iff_ne,ne_eq]; lia
    rw [e3]; rfl
  rw [e]; exact g _
 ·
  split at h
  ·
   rename_i xs h1
   cases h; cases hv
   refine e2a3 (I.get h1) fun vs k g1 r1 l1=>?_
   have e:(!vs.toArray.isEmpty)=!xs.isEmpty:=by
    have:=r1.length
    cases xs <;> cases vs <;> simp_all
   refine wpAny_truthy_list (IsL.isList g1) (by have:=r1.length; simp only [List.size_toArray]; lia) ?_
   rw [e]; exact g _
  ·
   cases h
 ·
  cases h
theorem C1H (S:A0n C.ρ) {s w:List Nat} (h:A0F s w=true):(!(occurrences (A0b C.ρ s) (A0b C.ρ w) 0 (A0b C.ρ s).length 1).isEmpty)=!decide (A4s s w 0 s.length < 0):=by
 rw [A0d S (A0j h).1]
 have:=A9O S h (Nat.zero_le s.length) (Nat.le_refl _)
 rw [←this]
 cases q:occurrences (A0b C.ρ s) (A0b C.ρ w) 0 s.length 1 with
 | nil=>rfl
 | cons i r=>
  have:¬((i:Int) < 0):=by lia
  simp [this]
theorem A8E {α:Type}:∀{l:List α} {i:Nat} {x:α},nth l i=some x→l[i]?=some x
 | [],i,_,h=>by cases i <;> cases h
 | _::_,0,_,h=>by cases h; rfl
 | _::l,i + 1,_,h=>by simpa using A8E (l:=l) h
set_option tactic.hygienic true in
theorem A4w {i:Int} {n k:Nat} (h:A3J i n=some k):k < n∧seqIndex? i n=some k∧(0≤i∧k=i.toNat∨i < 0∧-(n:Int)≤i∧k=(i + n).toNat):=by
 unfold A3J at h
 cases i with
 | ofNat m=>
  simp only at h
  split at h
  ·
   rename_i hm
   cases h
   refine ⟨hm,?_,.inl ⟨Int.natCast_nonneg _,rfl⟩⟩
   have h1:¬((k:Int) < 0):=by omega
   have h2:((k:Int) < (n:Int)):=by omega
   simp [seqIndex?,h1,h2]
  ·
   cases h
 | negSucc m=>
  simp only at h
  split at h
  ·
   rename_i hm
   cases h
   have e:(Int.negSucc m + (n:Int))=((n - (m + 1):Nat):Int):=by omega
   refine ⟨by omega,?_,.inr ⟨Int.negSucc_lt_zero _,by omega,by rw [e]; rfl⟩⟩
   have h1:Int.negSucc m < 0:=Int.negSucc_lt_zero _
   have h2:(((n - (m + 1):Nat):Int) < (n:Int)):=by omega
   have h3:((0:Int)≤((n - (m + 1):Nat):Int)):=by omega
   simp only [seqIndex?,if_pos h1,e,h2,h3,decide_true,Bool.and_self,if_true,Int.toNat_natCast]
  ·
   cases h
set_option tactic.hygienic true in
theorem B4T (H:C.Ok) (S:A0n C.ρ) {o i v:V} {ro ri:Value} (h:index σ.hp o i=some v) (I:Inv C fi φ X σ s) (ho:VR C.ρ φ σ.nx o ro) (hi:VR C.ρ φ σ.nx i ri) (q:Post C fi φ X σ σ v Q)
  {value A2C:PySem.Expr} (hs:∀o i,subscripted A2C false o i=operate [o,i] (getItem o i)):wpAny (model C.prog C.w) A (subscriptTail value A2C ro ri) Q E s:=by
 induction ho with
 | ref j hj=>
  apply i_ok hi h; intro i t h
  unfold B7R at h
  split at h
  ·
   rename_i xs h1
   refine e2a3 (I.get h1) fun vs k g1 r1 l1=>?_
   have hL:s.heap.IsList (φ j) vs.toArray:=IsL.isList g1
   have hlen:=r1.length
   refine A0p h fun k hk h=>?_
   refine e1a2 (r1.nth h) fun x hx rx=>?_
   refine e0a3 (A4w hk) fun p1 p2 p3=>?_
   have fin:=q φ s x (Ext.refl _ _) I rx
   refine tail_any hL.typeIs slot_list_getitem.lookup ?_ (hs _ _)
   rcases p3 with ⟨p3,rfl⟩ | ⟨p3,p4,rfl⟩
   ·
    exact wpAny_getItem_list hL p3 (by lia) (by simpa using hx) fin
   ·
    refine wpAny_getItem_list_neg hL p3 (by simp only [List.size_toArray]; lia) (by lia) ?_ fin
    simpa [hlen] using hx
  ·
   rename_i xs h1
   refine e2a3 (I.get h1) fun vs k0 g1 r1 l1=>?_
   have hT:IsTup s.heap (φ j) vs.toArray:=⟨_,g1,rfl,k0,rfl⟩
   have hlen:=r1.length
   refine A0p h fun k hk h=>?_
   refine e1a2 (r1.nth h) fun x hx rx=>?_
   refine e0a3 (A4w hk) fun p1 p2 p3=>?_
   have fin:=q φ s x (Ext.refl _ _) I rx
   refine tail_any hT.typeIs slot_tuple_getitem.lookup (getItem_tuple hT (by lia) (by lia) ?_ (by simpa using hx) fin) (hs _ _)
   simpa [hlen] using p2
  ·
   exact A0a h
 | str l t hl=>
  apply i_ok hi h; intro i u h
  refine A1D h fun hf h=>A0p h fun k hk h=>A2G h fun c hc e=>?_
  refine e0a3 (A4w hk) fun p1 p2 p3=>?_
  have hc':=A8E hc
  have hcs:c < symB + 4:=A2b (List.all_eq_true.mp hf c (List.mem_of_getElem? hc'))
  have e2:Str.mk #[ch C.ρ c]=A0b C.ρ [c]:=by
   unfold A0b
   show _=Str.mk ((if c < symB then [c] else C.ρ (c - symB)) ++ []).toArray
   rw [B7Y S hcs]; rfl
  refine tail_any (typeIs_str s _ _) F.slot_str_getitem.lookup (P.getItem_str (c:=ch C.ρ c) (by simp; lia) ?_ ?_) (hs _ _)
  ·
   rw [A0d S hf,p2]
   show (sv C.ρ l).toArray[k]?=_
   rw [A2Q S hf]
   simp [hc']
  ·
   rw [e2]
   rw [←Option.some.inj e] at q
   exact A1Q H I q (by simp)
 | _=>exact A0a h
noncomputable def VO (ρ:Nat→List Nat) (φ:Nat→Addr) (n:Nat):Option V→Value→Prop
 | none,rv=>rv=.none
 | some v,rv=>VR ρ φ n v rv
set_option tactic.hygienic true in
theorem A2z {l:Option V} {d m lo:Nat} {vl:Value} (h:B0D l d m=some lo) (hv:VO C.ρ φ n l vl):∃o,IsPart vl o∧lo=o.elim d (clipAt m)∧∃p,vl=partValue p∧p.map (·.1)=o:=by
 unfold B0D at h
 split at h
 ·
  cases h; cases hv; exact ⟨none,.none,rfl,none,rfl,rfl⟩
 ·
  cases h; cases hv; exact ⟨none,.none,rfl,none,rfl,rfl⟩
 ·
  cases h
  rename_i i
  cases hv with
  | int _ t=>
   refine ⟨some i,.int i t,?_,some (i,t),rfl,rfl⟩
   show clip i m=clipAt m i
   unfold clip
   split
   ·
    rename_i k; rw [Int.ofNat_eq_natCast,clipAt_nat]
   ·
    rename_i k; rw [show Int.negSucc k=-((k + 1:Nat):Int) from rfl,clipAt_neg _ _ (by lia)]
 ·
  cases h
theorem A8F {α:Type} (xs:List α) (lo hi:Nat):cutL xs lo hi=(xs.drop lo).take (hi - lo):=by unfold cutL; rw [List.drop_take]
theorem B0J (lo hi:Option Int) (n:Nat) {α:Type} (xs:Array α) (hn:n=xs.size):(strSliceIndices lo hi 1 n).filterMap (xs[·]?)=(xs.toList.drop (lo.elim 0 (clipAt n))).take (hi.elim n (clipAt n) - lo.elim 0 (clipAt n)):=by
 subst hn
 have e:strSliceIndices lo hi 1 xs.size=sliceRange (sliceBounds lo hi none xs.size).1 (sliceBounds lo hi none xs.size).2.1 1:=rfl
 rw [e,sliceBounds_plain]
 simp only [sliceRange_one,pick_run]
theorem B2e (n:Nat) (i:Int):clipAt n i≤n:=by
 have:=clipAt_cast n i
 omega
theorem A8G (lo hi:Option Int) (n:Nat):(strSliceIndices lo hi 1 n).length=hi.elim n (clipAt n) - lo.elim 0 (clipAt n):=by
 have e:strSliceIndices lo hi 1 n=sliceRange (sliceBounds lo hi none n).1 (sliceBounds lo hi none n).2.1 1:=rfl
 rw [e,sliceBounds_plain]
 simp only [sliceRange_one,List.length_map,List.length_range]
theorem B2f {α:Type} (xs:List α) (lo hi:Nat):(cutL xs lo hi).length≤xs.length:=by
 unfold cutL; rw [List.length_drop,List.length_take]; exact Nat.le_trans (Nat.sub_le _ _) (Nat.min_le_right _ _)
theorem B0K {α:Type} (xs:List α) {lo hi:Nat} (h1:hi≤xs.length) (h2:hi - lo=xs.length):xs=cutL xs lo hi:=by
 rw [A8F]
 by_cases h:xs.length=0
 ·
  rw [List.length_eq_zero_iff.mp h]; simp
 ·
  have h0:lo=0:=by lia
  subst h0
  simp [show hi=xs.length by lia]
set_option tactic.hygienic true in
theorem A7o (H:C.Ok) (S:A0n C.ρ) {x:List Nat} {p1 p2:Option (Int×Tok)} {t:Tok} {b:Addr} (hf:flat x=true) (hx:x.length≤4000) (I:Inv C fi φ X σ s)
  (q:Post C fi φ X σ σ (.str (cutL x ((p1.map (·.1)).elim 0 (clipAt x.length)) ((p2.map (·.1)).elim x.length (clipAt x.length)))) Q) (hb:∃o,s.heap.get? b=some o∧o.cls=.type "slice" ∧ o.data=.fields #[partValue p1,partValue p2,.none])
  {value:PySem.Expr} {lower upper:Option PySem.Expr} {p:Pos}:wpAny (model C.prog C.w) A (subscriptTail value (.Slice lower upper none p) (.str (A0b C.ρ x) t) (.ref b)) Q E s:=by
 refine tail_any (typeIs_str _ _ _) F.slot_str_getitem.lookup (wpAny_getItem_str_slice (l:=p1) (u:=p2) (st:=none) hb rfl ?_) rfl
 have hlen:=A0d S hf
 have hpick:(slicePicked (A0b C.ρ x) p1 p2 none).filterMap ((A0b C.ρ x).cps[·]?)=sv C.ρ (cutL x ((p1.map (·.1)).elim 0 (clipAt x.length)) ((p2.map (·.1)).elim x.length (clipAt x.length))):=by
  show (strSliceIndices (p1.map (·.1)) (p2.map (·.1)) 1 (A0b C.ρ x).length).filterMap _=_
  refine (B0J (p1.map (·.1)) (p2.map (·.1)) (A0b C.ρ x).length (A0b C.ρ x).cps rfl).trans ?_
  rw [hlen,A1c S hf,A8F,A2Q S ?_,List.map_take,List.map_drop]
  exact List.all_eq_true.mpr fun c hc=>List.all_eq_true.mp hf c (List.mem_of_mem_drop (List.mem_of_mem_take hc))
 have hcl:(cutL x ((p1.map (·.1)).elim 0 (clipAt x.length)) ((p2.map (·.1)).elim x.length (clipAt x.length))).length≤4000:=Nat.le_trans (B2f _ _ _) hx
 unfold sliceMade
 split
 ·
  rename_i hc
  have hn:(slicePicked (A0b C.ρ x) p1 p2 none).length=(A0b C.ρ x).length:=by
   rw [Bool.and_eq_true] at hc; exact beq_iff_eq.mp hc.2
  have e:x=cutL x ((p1.map (·.1)).elim 0 (clipAt x.length)) ((p2.map (·.1)).elim x.length (clipAt x.length)):=by
   refine B0K x ?_ ?_
   ·
    cases p2 with
    | none=>exact Nat.le_refl _
    | some p=>exact B2e _ _
   ·
    have h3:(slicePicked (A0b C.ρ x) p1 p2 none).length=(p2.map (·.1)).elim (A0b C.ρ x).length (clipAt (A0b C.ρ x).length) - (p1.map (·.1)).elim 0 (clipAt (A0b C.ρ x).length):=A8G (p1.map Prod.fst) (p2.map Prod.fst) (A0b C.ρ x).length
    rw [hn,hlen] at h3
    exact h3.symm
  refine q φ _ _ (Ext.refl _ _) I ?_
  rw [←e]
  exact .str _ _ hx
 ·
  rw [hpick]
  exact ⟨Nat.le_trans (A2m H hcl) (by decide),A1Q H I q hcl⟩
theorem B4U (H:C.Ok) (S:A0n C.ρ) {o v:V} {l u:Option V} {ro vl vu:Value} (h:A2C σ o l u=some (v,σ')) (I:Inv C fi φ X σ s) (ho:VR C.ρ φ σ.nx o ro) (hl:VO C.ρ φ σ.nx l vl) (hu:VO C.ρ φ σ.nx u vu)
  (q:Post C fi φ X σ σ' v Q) {value:PySem.Expr} {lower upper:Option PySem.Expr} {p:Pos}:
  wpAny (model C.prog C.w) A (subscriptTail value (.Slice lower upper none p) ro (.ref s.heap.objs.size)) Q E { s with heap:=s.heap.push { cls:=.type "slice",data:=.fields #[vl,vu,.none] } }:=by
 have I1:Inv C fi φ X σ { s with heap:=s.heap.push { cls:=.type "slice",data:=.fields #[vl,vu,.none] } }:=
  I.keeps H (fun _ _ e=>Heap.get?_push_of_some _ e) rfl rfl rfl
 induction ho with
 | str x t hx=>
  refine A1D h fun hf h=>A0p h fun lo hlo h=>A0p h fun hi hhi h=>?_
  obtain ⟨ol,pl,rfl,p1,rfl,rfl⟩:=A2z hlo hl
  obtain ⟨ou,pu,rfl,p2,rfl,rfl⟩:=A2z hhi hu
  exact A7o H S hf hx I1 (q.fin h) ⟨_,Heap.get?_push_size _ rfl,rfl,rfl⟩
 | ref j hj=>
  refine A0p h fun xs h1 h=>A0p h fun lo hlo h=>A0p h fun hi hhi h=>?_
  refine e1a3 (B7X H I h1) fun vs hL r1 l1=>?_
  have hlen:=r1.length
  obtain ⟨ol,pl,rfl,p1,rfl,rfl⟩:=A2z hlo hl
  obtain ⟨ou,pu,rfl,p2,rfl,rfl⟩:=A2z hhi hu
  refine tail_any (Heap.IsList.typeIs (hL.push _)) slot_list_getitem.lookup (wpAny_getItem_list_slice (hL.push _) (Heap.IsSliceOf.new ..) pl pu .none (by simp) ?_ (by simp only [List.size_toArray]; unfold sizeLine; omega)) rfl
  have e:slicePick vs.toArray (p1.map (·.1)) (p2.map (·.1)) none=(cutL vs ((p1.map (·.1)).elim 0 (clipAt xs.length)) ((p2.map (·.1)).elim xs.length (clipAt xs.length))).toArray:=by
   rw [slicePick_plain,A8F]; simp [hlen]
  rw [e]
  have r:=I1.newList H ((r1.take _).drop _) (Nat.le_trans (B2f xs ((p1.map (·.1)).elim 0 (clipAt xs.length)) ((p2.map (·.1)).elim xs.length (clipAt xs.length))) l1) (t:=s.toks)
  refine (q.fin h) _ _ _ (Ext.putAt _ _ _) r ?_
  have:=VR.ref (ρ:=C.ρ) (φ:=putAt φ σ.nx (s.heap.push { cls:=.type "slice",data:=.fields #[partValue p1,partValue p2,.none] }).objs.size) (n:=σ.nx + 1) σ.nx (Nat.lt_succ_self _)
  rwa [A0E] at this
 | _=>exact A0a h
set_option tactic.hygienic true in
theorem A9U (S:A0n C.ρ) (I:Inv C fi φ X σ s) {c:V} {rc:Value} (hc:VR C.ρ φ σ.nx c rc):∀{xs:List V} {vs:List Value} {r:Bool},VRs C.ρ φ σ.nx xs vs→A9F σ.hp c xs=some r→
  r=vs.any (fun y=>RH s.heap y rc)∧∀y∈vs,EqOk s y rc (RH s.heap y rc)
 | [],_,r,.nil,h=>by cases h; exact ⟨rfl,fun y hy=>nomatch hy⟩
 | x::xs,_,r,.cons a b,h=>by
  unfold A9F at h
  split at h
  ·
   rename_i r1 r2 e1 e2
   cases h
   obtain ⟨i1,i2⟩:=A9U S I hc b e2
   obtain ⟨j1,j2⟩:=A5P S I a hc e1
   subst i1 j1
   refine ⟨by rw [List.any_cons],fun y hy=>?_⟩
   rcases List.mem_cons.mp hy with rfl | hy
   ·
    exact j2
   ·
    exact i2 y hy
  ·
   cases h
theorem A9V (S:A0n C.ρ) {x y:List Nat} {b:Bool} (h:B4B x y=some b):(!(occurrences (A0b C.ρ y) (A0b C.ρ x) 0 (A0b C.ρ y).length 1).isEmpty)=b:=by
 unfold B4B at h
 cases q:A0F y x with
 | true=>rw [q] at h; exact (C1H S q).trans (Option.some.inj h)
 | false=>rw [q] at h; exact A0a h
theorem B4V (S:A0n C.ρ) {a c:V} {b:Bool} {ra rc:Value} (h:C0O σ.hp a c=some b) (I:Inv C fi φ X σ s) (hu:A.units + 3 < cLine)
  (ha:VR C.ρ φ σ.nx a ra) (hc:VR C.ρ φ σ.nx c rc) (q:Q (.bool b) s):wpAny (model C.prog C.w) A (compareOp .NotIn ra rc) Q E s:=by
 induction hc with
 | str y u hy=>
  apply s_ok ha h; intro x t hx h
  refine A2G h fun r hr e=>P.notIn_str ?_
  rw [A9V S hr,Option.some.inj e]; exact q
 | ref j hj=>
  refine A3j h fun xs h1 h=>A2G h fun r hr e=>?_
  refine e2a3 (I.get h1) fun vs k g1 r1 l1=>?_
  obtain ⟨e1,e2⟩:=A9U S I ha r1 hr
  refine notIn_listAt (fun y=>RH s.heap y ra) (IsL.isList g1) (fun y hy=>(e2 y (by simpa using hy)).eq _ (Nat.lt_of_succ_lt hu)) ?_
  rw [←Option.some.inj e,e1] at q
  simpa using q
 | _=>exact A0a h
theorem A6B (H:C.Ok) (S:A0n C.ρ) {k:Cop} {a c:V} {b:Bool} {ra rc:Value} (h:A5w k σ.hp a c=some b) (I:Inv C fi φ X σ s) (hu:A.units + 3 < cLine)
  (ha:VR C.ρ φ σ.nx a ra) (hc:VR C.ρ φ σ.nx c rc) (q:Post C fi φ X σ σ (.bool b) Q):wpAny (model C.prog C.w) A (compareOp (opC k) ra rc) Q E s:=by
 have hu1:A.units + 1 < cLine:=Nat.lt_of_succ_lt (Nat.lt_of_succ_lt hu)
 have q:=A3l I q
 induction k with
 | eq=>exact (A5P S I ha hc h).2.rc A hu1 _ _ _ _ q
 | ne=>exact A2G h fun r hr e=>(A5P S I ha hc hr).2.ne A hu1 _ _ _ _ ((Option.some.inj e).symm▸q)
 | lt=>apply i_ok ha h; intro x t h; apply i_ok hc h; intro y u h; exact P.lt_int ((Option.some.inj h).symm▸q)
 | le=>apply i_ok ha h; intro x t h; apply i_ok hc h; intro y u h; exact P.le_int ((Option.some.inj h).symm▸q)
 | gt=>apply i_ok ha h; intro x t h; apply i_ok hc h; intro y u h; exact P.gt_int ((Option.some.inj h).symm▸q)
 | ge=>apply i_ok ha h; intro x t h; apply i_ok hc h; intro y u h; exact P.ge_int ((Option.some.inj h).symm▸q)
 | isin=>apply s_ok ha h; intro x t hx h; apply s_ok hc h; intro y u hy h; exact P.in_str ((A9V S h).symm▸q)
 | notin=>exact B4V S h I hu ha hc q
 | is_=>induction hc with
  | none=>induction ha with
   | none=>rw [←Option.some.inj h] at q; exact is_none q
   | int x t=>rw [←Option.some.inj h] at q; exact is_int_none q
   | _=>exact A0a h
  | _=>exact A0a h
end
end Mine
end
section
namespace Mine
open PySem PyProof.Rows PySem.StrLaws PySem.Builtin.Str PySem.Builtin
section
variable {ρ:Nat→List Nat}
theorem A3T (S:A0n ρ) {s:List Nat} (hf:flat s=true) {i j:Nat}:strSub (A0b ρ s) i j=A0b ρ ((s.drop i).take (j - i)):=by
 have hf':flat ((s.drop i).take (j - i))=true:=List.all_eq_true.mpr fun c hc=>List.all_eq_true.mp hf c (List.mem_of_mem_drop (List.mem_of_mem_take hc))
 show Str.mk _=Str.mk _
 rw [A2Q S hf']
 congr 1
 apply Array.ext'
 show ((sv ρ s).toArray.extract i j).toList=_
 rw [A2Q S hf]
 simp [List.extract_eq_drop_take]
theorem A7p {α:Type} {s:List α} {i:Nat} {c:α} {r:List α} (h:s.drop i=c::r):i < s.length∧s.drop (i + 1)=r:=by
 refine ⟨?_,?_⟩
 ·
  have:=congrArg List.length h
  rw [List.length_drop,List.length_cons] at this
  omega
 ·
  rw [←List.drop_drop,h]; rfl
set_option tactic.hygienic true in
theorem A2A (S:A0n ρ) {s w:List Nat} (h:A0F s w=true) (hw:1≤w.length):∀(k a i:Nat) (acc:List Nat) (cuts:List Nat) (f:Nat),a≤i→i≤s.length→s.length - i < k→
  acc.reverse=(s.drop a).take (i - a)→ChainG (A0b ρ s) (A0b ρ w) s.length a cuts f→(∀j,f≤j→¬PySem.StrLaws.At (A0b ρ s) (A0b ρ w) s.length j)→
  (∀j,a≤j→j < i→¬PySem.StrLaws.At (A0b ρ s) (A0b ρ w) s.length j)→
  partsFrom (A0b ρ s) w.length a cuts=(A1B w k (s.drop i) acc).map (A0b ρ)
 | 0,a,i,acc,cuts,f,_,_,hk,_,_,_,_=>absurd hk (Nat.not_lt_zero _)
 | k + 1,a,i,acc,cuts,f,hai,hi,hk,hacc,hc,hfree,hno=>by
  have fs:=(A0j h).1
  have hwl:(A0b ρ w).length=w.length:=A0d S (A0j h).2
  unfold A1B
  cases q:pre w (s.drop i) with
  | true=>
   have hlen:=A8z q
   rw [List.length_drop] at hlen
   have hAt:PySem.StrLaws.At (A0b ρ s) (A0b ρ w) s.length i:=(A2F S h (Nat.le_refl _)).mpr ⟨by lia,q⟩
   cases cuts with
   | nil=>
    have:f=a:=hc
    exact absurd hAt (hfree i (by rw [this]; exact hai))
   | cons c r=>
    refine e0a4 hc fun h1 h2 h3 h4=>?_
    have hci:c=i:=by
     rcases Nat.lt_trichotomy c i with hlt | heq | hgt
     ·
      exact absurd h2 (hno c h1 hlt)
     ·
      exact heq
     ·
      exact absurd hAt (h3 i hai hgt)
    subst hci
    rw [hwl] at h4
    show strSub (A0b ρ s) a c::partsFrom (A0b ρ s) w.length (c + w.length) r=_
    rw [A3T S fs,←hacc,List.drop_drop,A2A S h hw k (c + w.length) (c + w.length) [] r f (Nat.le_refl _) (by lia) (by lia) (by simp) h4 hfree (fun j h1 h2=>absurd h1 (by lia))]
    rfl
  | false=>
   simp only
   have nAt:¬PySem.StrLaws.At (A0b ρ s) (A0b ρ w) s.length i:=fun hAt=>by
    have:=((A2F S h (Nat.le_refl _)).mp hAt).2
    rw [q] at this; cases this
   split
   ·
    rename_i hd
    have hil:i=s.length:=by
     have:=congrArg List.length hd
     rw [List.length_drop,List.length_nil] at this
     lia
    cases cuts with
    | nil=>
     show [strSub (A0b ρ s) a (A0b ρ s).length]=_
     rw [A3T S fs,A0d S fs,←hil,←hacc]; rfl
    | cons c r=>
     refine e0a4 hc fun h1 h2 h3 h4=>?_
     have:=((A2F S h (Nat.le_refl _)).mp h2).1
     exact absurd h2 (hno c h1 (by lia))
   ·
    rename_i c0 rest hd
    obtain ⟨hlt,hd'⟩:=A7p hd
    rw [←hd']
    refine A2A S h hw k a (i + 1) (c0::acc) cuts f (by lia) (by lia) (by lia) ?_ hc hfree fun j h1 h2=>?_
    ·
     rw [List.reverse_cons,hacc,show i + 1 - a=(i - a) + 1 by lia,List.take_add_one,List.getElem?_drop,show a + (i - a)=i by lia]
     have:s[i]?=some c0:=by
      have h5:(s.drop i)[0]?=some c0:=by rw [hd]; rfl
      rw [List.getElem?_drop] at h5
      simpa using h5
     rw [this]; rfl
    ·
     rcases Nat.lt_or_ge j i with h5 | h5
     ·
      exact hno j h1 h5
     ·
      rw [show j=i by lia]; exact nAt
theorem A4R (S:A0n ρ) {s:List Nat} (hf:flat s=true):strSub (A0b ρ s) 0 s.length=A0b ρ s:=by
 rw [A3T S hf]; simp
theorem B2g {x y:Str} (h:∀c∈y.cps.toList,c∈x.cps.toList):Builtin.Str.strKind y≤Builtin.Str.strKind x:=by
 unfold Builtin.Str.strKind
 have a1:x.cps.all (· < 256)=true→y.cps.all (· < 256)=true:=fun q=>by
  rw [←Array.all_toList,List.all_eq_true] at q ⊢
  exact fun c hc=>q c (h c hc)
 have a2:x.cps.all (· < 65536)=true→y.cps.all (· < 65536)=true:=fun q=>by
  rw [←Array.all_toList,List.all_eq_true] at q ⊢
  exact fun c hc=>q c (h c hc)
 split <;> split <;> (try split) <;> (try split) <;> first | omega | simp_all
set_option tactic.hygienic true in
theorem B2h (S:A0n ρ) {s w:List Nat} (h:A0F s w=true) (hw:1≤w.length):Txt.split (A0b ρ s) (A0b ρ w)=(A1B w (s.length + 1) s []).map (A0b ρ):=by
 have fs:=(A0j h).1
 have fw:=(A0j h).2
 have hwl:(A0b ρ w).length=w.length:=A0d S fw
 have hsl:(A0b ρ s).length=s.length:=A0d S fs
 have whole:(∀j,¬PySem.StrLaws.At (A0b ρ s) (A0b ρ w) s.length j)→[A0b ρ s]=(A1B w (s.length + 1) s []).map (A0b ρ):=fun hn=>by
  have:=A2A S h hw (s.length + 1) 0 0 [] [] 0 (Nat.le_refl _) (Nat.zero_le _) (by lia) (by simp) (show (0:Nat)=0 from rfl) (fun j _=>hn j) (fun j _ h2=>absurd h2 (Nat.not_lt_zero _))
  rw [List.drop_zero] at this
  rw [←this]
  show _=[strSub (A0b ρ s) 0 (A0b ρ s).length]
  rw [hsl,A4R S fs]
 unfold Txt.split
 split
 ·
  rename_i hc
  refine whole fun j hAt=>?_
  have hAt':=(A2F S h (Nat.le_refl _)).mp hAt
  rw [Bool.or_eq_true,decide_eq_true_eq,decide_eq_true_eq,hsl,hwl] at hc
  rcases hc with hc | hc
  ·
   lia
  ·
   have:Builtin.Str.strKind (A0b ρ w)≤Builtin.Str.strKind (A0b ρ s):=by
    refine B2g fun c hc=>?_
    rw [A1c S fw] at hc
    rw [A1c S fs]
    have h5:=hAt'.2
    rw [A9N,beq_iff_eq] at h5
    rw [←h5] at hc
    refine e1a2 (List.mem_map.mp hc) fun d hd e2z=>?_
    subst e2z
    exact List.mem_map.mpr ⟨d,List.mem_of_mem_drop (List.mem_of_mem_take hd),rfl⟩
   lia
 ·
  obtain ⟨f,hc,hfree⟩:=occ_tight (A0b ρ s) (A0b ρ w) (by rw [hwl]; exact hw)
  rw [hsl] at hc hfree
  have main:=A2A S h hw (s.length + 1) 0 0 [] _ f (Nat.le_refl _) (Nat.zero_le _) (by lia) (by simp) hc hfree (fun j _ h2=>absurd h2 (Nat.not_lt_zero _))
  rw [List.drop_zero] at main
  rw [hsl]
  split
  ·
   rename_i he
   rw [←main]
   have:occurrences (A0b ρ s) (A0b ρ w) 0 s.length (s.length + 1)=[]:=List.isEmpty_iff.mp he
   rw [this]
   show _=[strSub (A0b ρ s) 0 (A0b ρ s).length]
   rw [hsl,A4R S fs]
  ·
   rw [partsBetween_eq,hwl]; exact main
theorem A3U (S:A0n ρ) {s:List Nat} {c:Nat} (h:A0F s [c]=true):∀(k a i:Nat) (cuts:List Nat) (f:Nat),a≤i→i≤s.length→s.length - i=k → 
  ChainG (A0b ρ s) (A0b ρ [c]) s.length a cuts f→(∀j,f≤j→¬PySem.StrLaws.At (A0b ρ s) (A0b ρ [c]) s.length j)→
  (∀j,a≤j→j < i→¬PySem.StrLaws.At (A0b ρ s) (A0b ρ [c]) s.length j)→cuts.length=A0w c (s.drop i)
 | 0,a,i,cuts,f,hai,hi,hk,hc,hfree,hno=>by
  rw [List.drop_of_length_le (by lia)]
  cases cuts with
  | nil=>rfl
  | cons d r=>
   refine e0a4 hc fun h1 h2 h3 h4=>?_
   have:=((A2F S h (Nat.le_refl _)).mp h2).1
   simp only [List.length_cons,List.length_nil] at this
   exact absurd h2 (hno d h1 (by lia))
 | k + 1,a,i,cuts,f,hai,hi,hk,hc,hfree,hno=>by
  have hwl:(A0b ρ [c]).length=1:=A0d S (A0j h).2
  cases hd:s.drop i with
  | nil=>have:=congrArg List.length hd; rw [List.length_drop,List.length_nil] at this; lia
  | cons d rest=>
   obtain ⟨hlt,hd'⟩:=A7p hd
   unfold A0w
   cases q:Nat.beq c d with
   | true=>
    have e:=Nat.eq_of_beq_eq_true q
    subst e
    have hAt:PySem.StrLaws.At (A0b ρ s) (A0b ρ [c]) s.length i:=(A2F S h (Nat.le_refl _)).mpr ⟨by simp; lia,by rw [hd]; unfold pre; rw [q]; rfl⟩
    cases cuts with
    | nil=>
     have:f=a:=hc
     exact absurd hAt (hfree i (by rw [this]; exact hai))
    | cons e r=>
     refine e0a4 hc fun h1 h2 h3 h4=>?_
     have hci:e=i:=by
      rcases Nat.lt_trichotomy e i with hlt | heq | hgt
      ·
       exact absurd h2 (hno e h1 hlt)
      ·
       exact heq
      ·
       exact absurd hAt (h3 i hai hgt)
     subst hci
     rw [hwl] at h4
     show r.length + 1=A0w c rest + 1
     rw [←hd',A3U S h k (e + 1) (e + 1) r f (Nat.le_refl _) (by lia) (by lia) h4 hfree (fun j h1 h2=>absurd h1 (by lia))]
   | false=>
    rw [←hd']
    refine A3U S h k a (i + 1) cuts f (by lia) (by lia) (by lia) hc hfree fun j h1 h2=>?_
    rcases Nat.lt_or_ge j i with h5 | h5
    ·
     exact hno j h1 h5
    ·
     rw [show j=i by lia]
     intro hAt
     have:=((A2F S h (Nat.le_refl _)).mp hAt).2
     rw [hd] at this
     unfold pre at this
     rw [q] at this; cases this
theorem A7q (S:A0n ρ) {s:List Nat} {c:Nat} (h:A0F s [c]=true):Txt.count (A0b ρ s) (A0b ρ [c])=(A0w c s:Nat):=by
 unfold Txt.count
 have hsl:(A0b ρ s).length=s.length:=A0d S (A0j h).1
 have hwl:(A0b ρ [c]).length=1:=A0d S (A0j h).2
 obtain ⟨f,hc,hfree⟩:=occ_tight (A0b ρ s) (A0b ρ [c]) (by rw [hwl]; exact Nat.le_refl _)
 rw [hsl] at hc hfree ⊢
 rw [A3U S h s.length 0 0 _ f (Nat.le_refl _) (Nat.zero_le _) (by lia) hc hfree (fun j _ h2=>absurd h2 (Nat.not_lt_zero _)),List.drop_zero]
theorem A5Q (sep x:List Nat) (r:List (List Nat)):A3b sep (x::r)=x ++ (r.flatMap fun y=>sep ++ y):=by
 induction r generalizing x with
 | nil=>exact (List.append_nil x).symm
 | cons y r ih=>
  show x ++ sep ++ A3b sep (y::r)=x ++ ((sep ++ y) ++ (r.flatMap fun y=>sep ++ y))
  rw [ih y,List.append_assoc,List.append_assoc]
theorem A7r (ρ:Nat→List Nat) (sep:List Nat):∀(r:List (List Nat)) (acc:List Nat),(r.map (A0b ρ)).foldl (fun (acc:Array Nat) (p:Str)=>acc ++ (A0b ρ sep).cps ++ p.cps) (sv ρ acc).toArray=(sv ρ (acc ++ (r.flatMap fun y=>sep ++ y))).toArray
 | [],acc=>by simp
 | y::r,acc=>by
  rw [List.map_cons,List.foldl_cons]
  have e:(sv ρ acc).toArray ++ (A0b ρ sep).cps ++ (A0b ρ y).cps=(sv ρ (acc ++ sep ++ y)).toArray:=by
   rw [A1r,A1r]; simp [A0b]
  rw [e,A7r ρ sep r]
  simp
theorem B4W (sep:List Nat) (l:List (List Nat)):Txt.join (A0b ρ sep) (l.map (A0b ρ))=A0b ρ (A3b sep l):=by
 unfold Txt.join glued
 cases l with
 | nil=>rfl
 | cons x r=>
  show Str.mk ((r.map (A0b ρ)).foldl _ (A0b ρ x).cps)=_
  rw [A5Q]
  have:=A7r ρ sep r x
  unfold A0b at this ⊢
  exact congrArg Str.mk this
end
end Mine
end
section
namespace Mine
open PySem PyProof.Rows PySem.StrLaws PySem.SeqAt PySem.MeetsSeq
noncomputable def C3S:Me→String
 | .append => "list.append" | .pop => "list.pop" | .index => "list.index" | .split => "str.split" | .startswith => "str.startswith" | .endswith => "str.endswith" | .find => "str.find" | .lower => "str.lower" | .upper => "str.upper" | .join => "str.join" | _ => ""
noncomputable def C1I:V→Bool | .str _=>true | _=>false
noncomputable def midV (m:Me) (o:V):String:=match m with
 | .count=>match C1I o with | true => "str.count" | false => "list.count"
 | m=>C3S m
section
variable {C:Cx} {fi:Fi} {φ φ':Nat→Addr} {X:List (Addr×Obj)} {σ σ':St} {s s':Shared} {A:Around} {E:Value→Shared→Prop} {Q:Value→Shared→Prop} {n:Nat}
theorem A4x {a:Addr} {o:O} (q:Post C fi φ X σ { σ with hp:=(σ.nx,o)::σ.hp,nx:=σ.nx + 1 } (.ref σ.nx) Q) (I:Inv C fi (putAt φ σ.nx a) X { σ with hp:=(σ.nx,o)::σ.hp,nx:=σ.nx + 1 } s):Q (.ref a) s:=by
 refine q _ _ _ (Ext.putAt _ _ _) I ?_
 have:=VR.ref (ρ:=C.ρ) (φ:=putAt φ σ.nx a) (n:=σ.nx + 1) σ.nx (Nat.lt_succ_self _)
 rwa [A0E] at this
theorem B9a {xs:List V} {vs:List Value} (hx:VRs C.ρ φ n xs vs):∀{l:List (List Nat)},B0E xs=some l→∃p:List (Str×Tok),vs=strValues p∧p.map (·.1)=l.map (A0b C.ρ):=by
 induction hx with
 | nil=>exact fun h=>Option.some.inj h▸⟨[],rfl,rfl⟩
 | cons a b ih=>
  intro l h
  cases a with
  | str x t hl=>
   refine A2G h fun r hr e=>?_
   refine e1a2 (ih hr) fun p e1 e2=>?_
   rw [←Option.some.inj e,e1]
   exact ⟨(A0b C.ρ _,t)::p,rfl,congrArg (List.cons _) e2⟩
  | _=>exact A0a h
theorem B2i (H:C.Ok) (sep:List Nat):∀(l:List (List Nat)) (a:Nat),((l.map (A0b C.ρ)).foldl (fun a (p:Str)=>a + p.length + (A0b C.ρ sep).length) a)≤a + 32 * (A3b sep l).length + 32 * sep.length
 | [],a=>by simp only [List.map_nil,List.foldl_nil]; lia
 | [x],a=>by
  have h1:=A5K H.ρlen x
  have h2:=A5K H.ρlen sep
  have e1:(A0b C.ρ x).length=(sv C.ρ x).length:=by show (sv C.ρ x).toArray.size=_; simp
  have e2:(A0b C.ρ sep).length=(sv C.ρ sep).length:=by show (sv C.ρ sep).toArray.size=_; simp
  rw [show A3b sep [x]=x from rfl]
  simp only [List.map_cons,List.map_nil,List.foldl_cons,List.foldl_nil]
  lia
 | x::y::r,a=>by
  have h1:=A5K H.ρlen x
  have h2:=A5K H.ρlen sep
  have e1:(A0b C.ρ x).length=(sv C.ρ x).length:=by show (sv C.ρ x).toArray.size=_; simp
  have e2:(A0b C.ρ sep).length=(sv C.ρ sep).length:=by show (sv C.ρ sep).toArray.size=_; simp
  have ih:=B2i H sep (y::r) (a + (A0b C.ρ x).length + (A0b C.ρ sep).length)
  rw [List.map_cons,List.foldl_cons]
  have e3:(A3b sep (x::y::r)).length=x.length + sep.length + (A3b sep (y::r)).length:=by
   show (x ++ sep ++ A3b sep (y::r)).length=_
   rw [List.length_append,List.length_append]
  lia
theorem B9b {xs:List V} {vs:List Value} (hx:VRs C.ρ φ n xs vs):∀{a r:Int},sumV xs a=some r→∃p:List (Int×Tok),vs=p.map (fun p=>.int p.1 p.2)∧r=a + (p.map (·.1)).sum:=by
 induction hx with
 | nil=>exact fun h=>⟨[],rfl,(Option.some.inj h).symm.trans (Int.add_zero _).symm⟩
 | cons x0 b ih=>
  intro a r h
  cases x0 with
  | int i t=>
   refine e1a2 (ih (a:=a + i) h) fun p e1 e2=>?_
   rw [e2,e1]
   exact ⟨(i,t)::p,rfl,(Int.add_assoc a i _).trans (congrArg (a + ·) List.sum_cons.symm)⟩
  | _=>exact A0a h
theorem A7s (p:List (Int×Tok)):∀j,j≤p.length→preSum (numAt p.toArray) j=((p.map (·.1)).take j).sum
 | 0,_=>rfl
 | j + 1,hj=>by
  have hlt:j < p.length:=hj
  have e:numAt p.toArray j=p[j].1:=by unfold numAt; simp [hlt]
  have e2:preSum (numAt p.toArray) (j + 1)=preSum (numAt p.toArray) j + p[j].1:=by show _ + numAt _ _=_; rw [e]
  rw [e2,A7s p j (by lia),List.take_add_one,List.sum_append]
  simp [hlt]
noncomputable def B9c:Bi→Value
 | .len=>.builtin "len" | .sum=>.builtin "sum" | .min=>.builtin "min" | .max=>.builtin "max" | .int=>.type "int" | .chr=>.builtin "chr" | _=>.none
theorem B8e {c:Prop} [d:Decidable c] {x y:Int} {τ:St} {v:V} (h:some (V.int (if c then x else y),τ)=some (v,σ')) (q:Post C fi φ X σ σ' v Q) {t u:Tok} {s':Shared} (I:Inv C fi φ X τ s'):Q (if c then .int x t else .int y u) s':=by
 have q:=q.fin h
 cases d with
 | isTrue hc=>exact q φ _ _ (Ext.refl _ _) I (.int _ _)
 | isFalse hc=>exact q φ _ _ (Ext.refl _ _) I (.int _ _)
theorem C1J (H:C.Ok) (S:A0n C.ρ) {o v:V} {ro:Value} (h:lenV σ o=some (v,σ')) (I:Inv C fi φ X σ s) (hv:VR C.ρ φ σ.nx o ro) (q:Post C fi φ X σ σ' v Q):
  wpAny (model C.prog C.w) A (call (.builtin "len") [ro]) Q E s:=by
 induction hv with
 | str l t hl=>
  refine A1D h fun hf h=>P.len_str (by have:=A2m H hl; lia) ?_
  rw [A0d S hf]
  exact A0h H I (q.fin h)
 | ref j hj=>
  refine A0p h fun xs h1 h=>?_
  refine e1a3 (B7X H I h1) fun vs g1 r1 l1=>?_
  have hlen:=r1.length
  refine Calls.call_len_list g1 (by simp only [List.size_toArray]; lia) ?_
  rw [List.size_toArray,hlen]
  exact A0h H I (q.fin h)
 | _=>exact A0a h
theorem C1K (H:C.Ok) (hh:A.handled=none) {j:Nat} {xs:List V} {v:V} (h1:hget σ.hp j=some (.list xs)) (h:((sumV xs 0).map fun i=>(V.int i,σ))=some (v,σ')) (I:Inv C fi φ X σ s) (q:Post C fi φ X σ σ' v Q):
  wpAny (model C.prog C.w) A (call (.builtin "sum") [.ref (φ j)]) Q E s:=by
 refine A2G h fun i hi e=>?_
 have q:=q.fin e
 refine e2a3 (I.get h1) fun vs k g1 r1 l1=>?_
 refine e1a2 (B9b r1 hi) fun p e1 e2=>?_
 have e4:vs.toArray=intItems p.toArray:=by rw [e1]; simp [intItems]
 refine sum_intListG (xs:=p.toArray) hh (e4▸IsL.isList g1) fun h' tk t' hk=>?_
 have e5:=A7s p p.length (Nat.le_refl _)
 rw [List.size_toArray,e5,show (p.map (·.1)).take p.length=p.map (·.1) from List.take_of_length_le (by simp),show (p.map (·.1)).sum=i by lia]
 exact q φ _ _ (Ext.refl _ _) (I.keeps H hk rfl rfl rfl) (.int _ _)
theorem B2j {c:Nat} (h:c < symB):A0b C.ρ [c]=⟨#[c]⟩:=by
 unfold A0b
 have:sv C.ρ [c]=[c]:=by
  show (if c < symB then [c] else _) ++ []=_
  rw [if_pos h]; rfl
 rw [this]
theorem C1L (H:C.Ok) {i:Int} {t:Tok} {v:V} (h:chrV σ i=some (v,σ')) (I:Inv C fi φ X σ s) (q:Post C fi φ X σ σ' v Q):wpAny (model C.prog C.w) A (call (.builtin "chr") [.int i t]) Q E s:=by
 cases i with
 | negSucc=>exact A0a h
 | ofNat k=>
  refine A1D h fun hi h=>?_
  have hi:=Nat.blt_eq.mp hi
  refine P.chr_of_int (by simp only [Bool.or_eq_false_iff,decide_eq_false_iff_not]; exact ⟨by have:(0:Int)≤Int.ofNat k:=Int.natCast_nonneg k; lia,by have:(Int.ofNat k)=(k:Int):=rfl; lia⟩) ?_
  have e:A0b C.ρ [k]=⟨#[(Int.ofNat k).toNat]⟩:=B2j (Nat.lt_trans hi (by decide))
  rw [←e]
  exact A1Q H I (q.fin h) (by simp)
theorem B0L (H:C.Ok) (S:A0n C.ρ) (hh:A.handled=none) {b:Bi} (hb:b≠.iterRead) {vs:List V} {v:V} {rvs:List Value} (h:builtin b σ vs=some (v,σ')) (I:Inv C fi φ X σ s) (hv:VRs C.ρ φ σ.nx vs rvs) (q:Post C fi φ X σ σ' v Q):
  wpAny (model C.prog C.w) A (call (B9c b) rvs) Q E s:=by
 induction b with
 | len=>apply A1I hv h; intro o x a h; exact C1J H S h I a q
 | sum=>apply A1I hv h; intro o x a h; apply r_ok a h; intro j hj h; exact A3j h fun xs h1 h=>C1K H hh h1 h I q
 | min=>
  apply B1Y hv h; intro o x o' x' a a' h; apply i_ok a h; intro m t h; apply i_ok a' h; intro m' t' h
  exact min_two_ints hh fun h' tk hk=>B8e h q (I.keeps H hk rfl rfl rfl)
 | max=>
  apply B1Y hv h; intro o x o' x' a a' h; apply i_ok a h; intro m t h; apply i_ok a' h; intro m' t' h
  exact max_two_ints hh fun h' tk hk=>B8e h q (I.keeps H hk rfl rfl rfl)
 | int=>
  apply A1I hv h; intro o x a h
  induction a with
  | bool b=>exact call_int_bool (A0h H I (q.fin h))
  | _=>exact A0a h
 | chr=>apply A1I hv h; intro o x a h; apply i_ok a h; intro i t h; exact C1L H h I q
 | iterRead=>exact absurd rfl hb
theorem A3n (n k:Nat):fromIndex n (k:Int)=k:=by unfold fromIndex; rw [if_neg (by lia)]; lia
theorem A8H (x y:Str) {lo hi:Nat} (hh:hi≤x.length) (t u v w:Tok) {r:Int} (hr:(match Builtin.Str.occurrences x y lo hi 1 with | k::_=>(k:Int) | []=>-1)=r):Gives (Builtin.«str.find» ⟨[.str x t,.str y u,.int (lo:Nat) v,.int (hi:Nat) w],[]⟩) (.int r):=by
 subst hr
 show Gives (match Builtin.Str.occurrences x y (fromIndex x.length lo) (min (fromIndex x.length hi) x.length) 1 with | k::_=>retInt k | []=>(do rule "str.find.not-found"; retInt (-1))) _
 rw [A3n,A3n,Nat.min_eq_left hh]
 cases Builtin.Str.occurrences x y lo hi 1 with
 | nil=>exact .rule (.of_eq rfl)
 | cons k _=>exact .of_eq rfl
theorem B0M {hp:List (Nat×O)} {c x:V} {xs:List V} {r:Nat} (h:A3c hp c (x::xs)=some r):∃b m,veq hp x c=some b∧A3c hp c xs=some m∧r=m + (if b=true then 1 else 0):=by
 have h:(match veq hp x c,A3c hp c xs with
  | some true,some n=>some (n + 1)
  | some false,some n=>some n
  | _,_=>none)=some r:=h
 cases e1:veq hp x c with
 | none=>rw [e1] at h; exact A0a h
 | some b=>
  rw [e1] at h
  cases e2:A3c hp c xs with
  | none=>
   rw [e2] at h
   cases b with
   | true=>exact A0a h
   | false=>exact A0a h
  | some m=>
   rw [e2] at h
   refine ⟨b,m,rfl,rfl,?_⟩
   cases b with
   | true=>exact (Option.some.inj h).symm
   | false=>exact (Option.some.inj h).symm
theorem A9W (S:A0n C.ρ) (I:Inv C fi φ X σ s) {c:V} {rc:Value} (hc:VR C.ρ φ σ.nx c rc) {xs:List V} {vs:List Value} (hx:VRs C.ρ φ σ.nx xs vs):∀{r:Nat},A3c σ.hp c xs=some r→
  r=vs.countP (fun y=>RH s.heap y rc)∧∀y∈vs,EqOk s y rc (RH s.heap y rc):=by
 induction hx with
 | nil=>exact fun h=>⟨(Option.some.inj h).symm,fun y hy=>nomatch hy⟩
 | cons a b ih=>
  intro r h
  refine e2a3 (B0M h) fun m k e1 e2 e=>?_
  have i:=ih e2
  have j:=A5P S I a hc e1
  exact ⟨by rw [List.countP_cons,←j.1,←i.1]; exact e,List.forall_mem_cons.mpr ⟨j.1▸j.2,i.2⟩⟩
theorem B0N {hp:List (Nat×O)} {c x:V} {xs:List V} {r i:Nat} (h:A5D hp c (x::xs) i=some r):veq hp x c=some true∧i=r∨veq hp x c=some false∧A5D hp c xs (i + 1)=some r:=by
 have h:(match veq hp x c with
  | some true=>some i
  | some false=>A5D hp c xs (i + 1)
  | none=>none)=some r:=h
 cases e1:veq hp x c with
 | none=>rw [e1] at h; exact A0a h
 | some b=>
  rw [e1] at h
  cases b with
  | true=>exact .inl ⟨rfl,Option.some.inj h⟩
  | false=>exact .inr ⟨rfl,h⟩
theorem B2k (S:A0n C.ρ) (I:Inv C fi φ X σ s) {c:V} {rc:Value} (hc:VR C.ρ φ σ.nx c rc) {xs:List V} {vs:List Value} (hx:VRs C.ρ φ σ.nx xs vs):∀{r i:Nat},A5D σ.hp c xs i=some r→
  ∃j,r=i + j∧∃hj:j < vs.length,RH s.heap vs[j] rc=true∧∀m (hm:m < vs.length),m < j→RH s.heap vs[m] rc=false:=by
 induction hx with
 | nil=>exact A0a
 | cons a b ih=>
  intro r i h
  rcases B0N h with ⟨e1,e⟩ | ⟨e1,h⟩
  ·
   exact ⟨0,e.symm,Nat.succ_pos _,(A5P S I a hc e1).1.symm,fun m hm h0=>absurd h0 (Nat.not_lt_zero _)⟩
  ·
   obtain ⟨j,e2,hj,h2,h3⟩:=ih h
   refine ⟨j + 1,e2.trans (Nat.succ_add_eq_add_succ i j),Nat.succ_lt_succ hj,h2,fun m hm hlt=>?_⟩
   cases m with
   | zero=>exact (A5P S I a hc e1).1.symm
   | succ m=>exact h3 m (Nat.lt_of_succ_lt_succ hm) (Nat.lt_of_succ_lt_succ hlt)
set_option tactic.hygienic true in
theorem A3V (w:List Nat):∀(k:Nat) (s acc:List Nat),(A1B w k s acc).length≤k∧∀p∈A1B w k s acc,p.length≤acc.length + s.length
 | 0,s,acc=>⟨Nat.le_refl _,fun p hp=>nomatch hp⟩
 | k + 1,s,acc=>by
  unfold A1B
  split
  ·
   obtain ⟨i1,i2⟩:=A3V w k (s.drop w.length) []
   refine ⟨Nat.succ_le_succ i1,fun p hp=>?_⟩
   rcases List.mem_cons.mp hp with rfl | hp
   ·
    rw [List.length_reverse]; lia
   ·
    have:=i2 p hp
    rw [List.length_drop,List.length_nil] at this
    lia
  ·
   split
   ·
    refine ⟨Nat.succ_le_succ (Nat.zero_le _),fun p hp=>?_⟩
    simp only [List.mem_singleton] at hp
    subst hp
    rw [List.length_reverse]; lia
   ·
    rename_i c r _
    obtain ⟨i1,i2⟩:=A3V w k r (c::acc)
    refine ⟨Nat.le_succ_of_le i1,fun p hp=>?_⟩
    have:=i2 p hp
    simp only [List.length_cons] at this ⊢
    lia
theorem B4X (p:List (Str×Tok)):∀(l:List (List Nat)),p.map (·.1)=l.map (A0b C.ρ)→(∀x∈l,x.length≤4000)→VRs C.ρ φ n (l.map V.str) (strValues p):=by
 induction p with
 | nil=>intro l h _; cases l with | nil=>exact .nil | cons=>cases h
 | cons a p ih=>
  intro l h hl
  cases l with
  | nil=>cases h
  | cons x l=>
   rw [List.map_cons,List.map_cons] at h
   injection h with h1 h2
   refine .cons ?_ (ih l h2 fun y hy=>hl y (.tail _ hy))
   show VR C.ρ φ n (.str x) (.str a.1 a.2)
   rw [h1]
   exact .str _ _ (hl x (.head _))
theorem A6C:((List.range 26).all fun k=>Txt.upper ⟨#[97 + k]⟩ == (⟨#[65 + k]⟩:Str))=true:=by decide +kernel
theorem A7t {c:Nat} (h1:97≤c) (h2:c≤122):Txt.upper ⟨#[c]⟩=⟨#[c - 32]⟩:=by
 have h:=List.all_eq_true.mp A6C (c - 97) (List.mem_range.mpr (by lia))
 have e1:97 + (c - 97)=c:=by lia
 have e2:65 + (c - 97)=c - 32:=by lia
 rw [e1,e2] at h
 exact beq_iff_eq.mp h
theorem B2l (S:A0n C.ρ) {c d:Nat} (h:lowC c=some d):Txt.lower (A0b C.ρ [c])=A0b C.ρ [d]:=by
 have hc:∃i,i < 4∧c=symB + i:=by
  unfold lowC at h
  by_cases h0:c=symB
  ·
   exact ⟨0,by lia,h0⟩
  ·
   rw [if_neg h0] at h
   by_cases h1:c=symB + 1
   ·
    exact ⟨1,by lia,h1⟩
   ·
    rw [if_neg h1] at h
    by_cases h2:c=symB + 2
    ·
     exact ⟨2,by lia,h2⟩
    ·
     rw [if_neg h2] at h
     by_cases h3:c=symB + 3
     ·
      exact ⟨3,by lia,h3⟩
     ·
      rw [if_neg h3] at h; cases h
 obtain ⟨i,hi,rfl⟩:=hc
 obtain ⟨x,hx⟩:=S.one i hi
 refine e1a4 (S.low i x hi hx) fun y h1 h2 h3 h4=>?_
 rw [h] at h1
 cases h1
 obtain ⟨z,hz⟩:=S.one (d - symB) (by lia)
 have e1:A0b C.ρ [symB + i]=⟨#[x]⟩:=by
  unfold A0b
  show Str.mk ((if symB + i < symB then [symB + i] else C.ρ (symB + i - symB)) ++ []).toArray=_
  rw [if_neg (by lia),Nat.add_sub_cancel_left,hx]; rfl
 have e2:A0b C.ρ [d]=⟨#[z]⟩:=by
  unfold A0b
  show Str.mk ((if d < symB then [d] else C.ρ (d - symB)) ++ []).toArray=_
  rw [if_neg (by lia),hz]; rfl
 rw [e1,e2]
 exact h4 z hz
theorem B4Y (H:C.Ok) (S:A0n C.ρ) (I:Inv C fi φ X σ s) {x w:List Nat} (hs:A0F x w=true) (hw:1≤w.length) (hx:x.length≤4000) {t u:Tok}
  (q:Post C fi φ X σ { σ with hp:=(σ.nx,.list ((A1B w (x.length + 1) x []).map .str))::σ.hp,nx:=σ.nx + 1 } (.ref σ.nx) Q):
  wpAny (model C.prog C.w) A (call (.builtin "str.split") [.str (A0b C.ρ x) t,.str (A0b C.ρ w) u]) Q E s:=by
 have hfl:=A0j hs
 have hlx:=A0d S hfl.1
 have hlw:=A0d S hfl.2
 have hsp:=A3V w (x.length + 1) x []
 have hlaw:=B2h S hs hw
 have hb:∀p∈A1B w (x.length + 1) x [],p.length≤4000:=fun p hp=>by have:=hsp.2 p hp; simp only [List.length_nil] at this; lia
 have hspl:(A1B w (x.length + 1) x []).length≤4001:=Nat.le_trans hsp.1 (by lia)
 have hlen:((A1B w (x.length + 1) x []).map V.str).length≤5000:=by rw [List.length_map]; lia
 have fin:∀(p:List (Str×Tok)) (k:Nat),p.map (·.1)=Txt.split (A0b C.ρ x) (A0b C.ρ w)→Q (.ref s.heap.objs.size) { s with heap:=s.heap.push (A0k (strValues p) 0),toks:=k }:=fun p k hp=>by
  rw [hlaw] at hp
  exact A4x q (I.newList H (B4X p _ hp hb) hlen)
 cases h1:(decide ((A0b C.ρ x).length < (A0b C.ρ w).length) || decide (Builtin.Str.strKind (A0b C.ρ x) < Builtin.Str.strKind (A0b C.ρ w)))
 ·
  have hy:((A0b C.ρ w).length == 0)=false:=by rw [hlw]; exact beq_false_of_ne (by lia)
  cases hf:(Builtin.Str.occurrences (A0b C.ρ x) (A0b C.ρ w) 0 (A0b C.ρ x).length ((A0b C.ρ x).length + 1)).isEmpty
  ·
   have hparts:Txt.split (A0b C.ρ x) (A0b C.ρ w)=Builtin.Str.partsBetween (A0b C.ρ x) (Builtin.Str.occurrences (A0b C.ρ x) (A0b C.ρ w) 0 (A0b C.ρ x).length ((A0b C.ρ x).length + 1)) (A0b C.ρ w).length:=by
    unfold Txt.split
    rw [if_neg (by rw [h1]; exact Bool.false_ne_true),if_neg (by rw [hf]; exact Bool.false_ne_true)]
   refine call_meets F.slot_str_split (typeIs_str _ _ _) F.entry_str_split (F.args_str_split_2 _ _) (meets_str_split_sep _ _ t u h1 hy hf (by rw [hlx]; unfold sizeLine; lia) ?_) ?_
   ·
    rw [←hparts,hlaw,List.length_map]; exact Nat.le_trans hspl (by decide)
   ·
    show wants Q E _ { s with toks:=_,heap:=s.heap.push { cls:=.type "list",data:=.seq (strsFrom s.toks (Builtin.Str.partsBetween (A0b C.ρ x) (Builtin.Str.occurrences (A0b C.ρ x) (A0b C.ρ w) 0 (A0b C.ρ x).length ((A0b C.ρ x).length + 1)) (A0b C.ρ w).length)).toArray } }
    rw [strsFrom_eq,←hparts]
    exact fin (numbered s.toks _) _ (numbered_texts _ _)
  ·
   refine call_meets F.slot_str_split (typeIs_str _ _ _) F.entry_str_split (F.args_str_split_2 _ _) (meets_str_split_not_found _ _ t u h1 hy hf) ?_
   exact fin [(A0b C.ρ x,t)] _ ((if_neg (ne_true_of_eq_false h1)).trans (if_pos hf)).symm
 ·
  refine call_meets F.slot_str_split (typeIs_str _ _ _) F.entry_str_split (F.args_str_split_2 _ _) (meets_str_split_cannot_occur _ _ t u h1) ?_
  exact fin [(A0b C.ρ x,t)] _ (if_pos h1).symm
theorem A7u (H:C.Ok) (I:Inv C fi φ X σ s) {j:Nat} {xs:List V} (h1:hget σ.hp j=some (.list xs)) (hl:xs.length≤4000) {v:V} {rv:Value} (a:VR C.ρ φ σ.nx v rv)
  (q:Post C fi φ X σ { σ with hp:=hset σ.hp j (.list (xs ++ [v])) } .none Q):wpAny (model C.prog C.w) A (call (.builtin "list.append") [.ref (φ j),rv]) Q E s:=by
 refine e2a3 (I.get h1) fun vs k g1 r1 l1=>?_
 have hlen:=r1.length
 refine call_meets F.slot_list_append ⟨_,g1,rfl⟩ F.entry_list_append (F.args_list_append_2 _ _) (list_append _ vs.toArray k rv (by simp only [List.size_toArray]; unfold sizeLine; lia)) ⟨g1,?_⟩
 have e:=IsL.update g1 (fun x=>x.push rv)
 have e2:vs.toArray.push rv=(vs ++ [rv]).toArray:=by simp
 rw [e2] at e
 exact q φ _ _ (Ext.refl _ _) (I.turnList H h1 (Heap.SameBut.update ..) e (r1.append (.cons a .nil)) (by rw [List.length_append]; simp only [List.length_cons,List.length_nil]; lia) rfl rfl rfl) .none
theorem C1M (H:C.Ok) (I:Inv C fi φ X σ s) {j:Nat} {x:V} {xs:List V} (h1:hget σ.hp j=some (.list (x::xs))) {t:Tok}
  (q:Post C fi φ X σ { σ with hp:=hset σ.hp j (.list xs) } x Q):wpAny (model C.prog C.w) A (call (.builtin "list.pop") [.ref (φ j),.int 0 t]) Q E s:=by
 refine e2a3 (I.get h1) fun vs k g1 r1 l1=>?_
 have hlen:=r1.length
 cases vs with
 | nil=>cases r1
 | cons rx rvs=>
 cases r1 with
 | cons a r1=>
 refine call_meets F.slot_list_pop ⟨_,g1,rfl⟩ F.entry_list_pop (F.args_list_pop_2 _ _) (list_pop_at _ (rx::rvs).toArray k 0 t 0 rx rfl ?_ (by simp) (by simp only [List.size_toArray]; unfold sizeLine; lia)) ⟨g1,?_⟩
 ·
  simp [seqIndex?]
 ·
  have e:=IsL.update g1 (fun x=>x.eraseIdxIfInBounds 0)
  have e2:(rx::rvs).toArray.eraseIdxIfInBounds 0=rvs.toArray:=by simp
  rw [e2] at e
  exact q φ _ _ (Ext.refl _ _) (I.turnList H h1 (Heap.SameBut.update ..) e r1 (by simp only [List.length_cons] at l1; lia) rfl rfl rfl) a
theorem B2m (S:A0n C.ρ) (H:C.Ok) (hu:A.units + 3 < cLine) {j:Nat} {xs:List V} {o v:V} {x:Value} (h1:hget σ.hp j=some (.list xs)) (h:B1E σ o xs=some (v,σ')) (I:Inv C fi φ X σ s)
  (a:VR C.ρ φ σ.nx o x) (q:Post C fi φ X σ σ' v Q):wpAny (model C.prog C.w) A (call (.builtin "list.index") [.ref (φ j),x]) Q E s:=by
 refine A0p h fun m hc h=>A2G h fun k hi h=>?_
 refine e2a3 (I.get h1) fun vs k0 g1 r1 l1=>?_
 obtain ⟨c1,c2⟩:=A9W S I a r1 hc
 obtain ⟨j',e2,hj',h2,h3⟩:=B2k S I a r1 hi
 rw [Nat.zero_add] at e2
 subst e2
 exact call_meets F.slot_list_index ⟨_,g1,rfl⟩ F.entry_list_index (F.args_list_index_2 _ _) (list_indexAt _ vs.toArray k0 none #[] _ (fun y=>RH s.heap y _) k (by simpa using hj') (by have:=r1.length; lia) (by simpa using h2) (fun m hm hlt=>by simpa using h3 m (by simpa using hm) hlt))
  ⟨g1,fun y hy=>(c2 y (by simpa using hy)).eq _ (Nat.lt_of_succ_lt hu),A0h H I (q.fin h)⟩
theorem A6D (S:A0n C.ρ) (H:C.Ok) (hu:A.units + 3 < cLine) {j:Nat} {xs:List V} {o v:V} {x:Value} (h1:hget σ.hp j=some (.list xs)) (h:((A3c σ.hp o xs).map fun (n:Nat)=>(V.int (n:Int),σ))=some (v,σ')) (I:Inv C fi φ X σ s)
  (a:VR C.ρ φ σ.nx o x) (q:Post C fi φ X σ σ' v Q):wpAny (model C.prog C.w) A (call (.builtin "list.count") [.ref (φ j),x]) Q E s:=by
 refine A2G h fun k hc h=>?_
 refine e2a3 (I.get h1) fun vs k0 g1 r1 l1=>?_
 obtain ⟨c1,c2⟩:=A9W S I a r1 hc
 refine call_meets F.slot_list_count ⟨_,g1,rfl⟩ F.entry_list_count (F.args_list_count_2 _ _) (list_countAt _ vs.toArray k0 none #[] _ (fun y=>RH s.heap y _))
   ⟨g1,fun y hy=>(c2 y (by simpa using hy)).eq _ (Nat.lt_of_succ_lt hu),?_⟩
 show wants Q E _ _
 rw [←c1]
 exact A0h H I (q.fin h)
theorem B2n (S:A0n C.ρ) (H:C.Ok) (hu:A.units + 3 < cLine) {o w v:V} {ro x:Value} (ho:VR C.ρ φ σ.nx o ro) (h:B1G σ o w=some (v,σ')) (I:Inv C fi φ X σ s)
  (a:VR C.ρ φ σ.nx w x) (q:Post C fi φ X σ σ' v Q):wpAny (model C.prog C.w) A (call (.builtin (midV .count o)) [ro,x]) Q E s:=by
 induction ho with
 | ref j hj=>exact A3j h fun xs h1 h=>A6D S H hu h1 h I a q
 | str l t hl=>
  apply s_ok a h; intro w u hw h
  refine A8A h fun c e g=>A1D g fun hs k=>SC.count ?_
  subst e
  rw [A7q S hs]
  exact A0h H I (q.fin k)
 | _=>exact A0a h
theorem B2o (H:C.Ok) (S:A0n C.ρ) (I:Inv C fi φ X σ s) {x w:List Nat} {v:V} (hs:A0F x w=true) (h:B1H σ x w=some (v,σ')) (hx:x.length≤4000) {t u:Tok}
  (q:Post C fi φ X σ σ' v Q):wpAny (model C.prog C.w) A (call (.builtin "str.split") [.str (A0b C.ρ x) t,.str (A0b C.ρ w) u]) Q E s:=by
 cases w with
 | nil=>exact A0a h
 | cons c w=>exact B4Y H S I hs (Nat.succ_pos _) hx (q.fin h)
theorem B4Z (H:C.Ok) (S:A0n C.ρ) (I:Inv C fi φ X σ s) {x w:List Nat} {lo hi:Int} {v:V} (h:B4E σ x w lo hi=some (v,σ')) {t u t1 t2:Tok}
  (q:Post C fi φ X σ σ' v Q):wpAny (model C.prog C.w) A (call (.builtin "str.find") [.str (A0b C.ρ x) t,.str (A0b C.ρ w) u,.int lo t1,.int hi t2]) Q E s:=by
 cases lo with
 | negSucc=>exact A0a h
 | ofNat lo=>cases hi with
  | negSucc=>exact A0a h
  | ofNat hi=>
   refine A1D h fun hs h=>A1D h fun hb h=>?_
   rw [Bool.and_eq_true] at hb
   have h1:=Nat.le_of_ble_eq_true hb.1
   have h2:=Nat.le_of_ble_eq_true hb.2
   exact call_gives F.slot_str_find (typeIs_str _ _ _) F.entry_str_find (F.args_str_find_4 _ _ _ _) (A8H _ _ (by rw [A0d S (A0j hs).1]; exact h2) _ _ _ _ (A9O S hs h1 h2)) (A0h H I (q.fin h))
theorem A9X (H:C.Ok) (d:Nat):Builtin.Str.tooLong (A0b C.ρ [d]).length=false:=by
 have:=A2m H (l:=[d]) (by simp)
 unfold Builtin.Str.tooLong
 simp only [decide_eq_false_iff_not]
 unfold sizeLine
 lia
theorem B5a (H:C.Ok) (I:Inv C fi φ X σ s) {sx:List Nat} {j:Nat} {xs:List V} {v:V} (h1:hget σ.hp j=some (.list xs)) (h:B8H σ sx xs=some (v,σ')) (hx:sx.length≤4000) {t:Tok}
  (q:Post C fi φ X σ σ' v Q):wpAny (model C.prog C.w) A (call (.builtin "str.join") [.str (A0b C.ρ sx) t,.ref (φ j)]) Q E s:=by
 refine A0p h fun l hl h=>A1p h fun hlen h=>?_
 refine e2a3 (I.get h1) fun vs k0 g1 r1 l1=>?_
 refine e1a2 (B9a r1 hl) fun p e1 e2=>?_
 subst e1
 refine SC.join (IsL.isList g1) e2 ?_ fun t' k=>?_
 ·
  unfold JoinOk Builtin.Str.tooLong
  have:=B2i H sx l 0
  rw [List.foldl_toArray]
  simp only [Bool.not_eq_true',decide_eq_false_iff_not]
  unfold sizeLine
  lia
 ·
  rw [B4W]
  exact A1Q H I (q.fin h) hlen
theorem B2p (H:C.Ok) (S:A0n C.ρ) (hu:A.units + 3 < cLine) {m:Me} (hm:m≠.readChar) {o:V} {vs:List V} {v:V} {ro:Value} {rvs:List Value} (h:A1G m σ o vs=some (v,σ')) (I:Inv C fi φ X σ s)
  (ho:VR C.ρ φ σ.nx o ro) (hv:VRs C.ρ φ σ.nx vs rvs) (q:Post C fi φ X σ σ' v Q):
  wpAny (model C.prog C.w) A (call (.builtin (midV m o)) (ro::rvs)) Q E s:=by
 cases m with
 | append=>apply r_ok ho h; intro j hj h; apply A1I hv h; intro w x a h; exact A3j h fun xs h1 h=>A1p h fun hl h=>A7u H I h1 hl a (q.fin h)
 | pop=>
  apply r_ok ho h; intro j hj h; apply A1I hv h; intro w x a h; apply i_ok a h; intro i t h
  refine A3j h fun xs h1 h=>?_
  cases xs with
  | nil=>exact A0a h
  | cons y xs=>exact A1p h fun hi h=>hi▸C1M H I h1 (q.fin h)
 | index=>apply r_ok ho h; intro j hj h; apply A1I hv h; intro w x a h; exact A3j h fun xs h1 h=>B2m S H hu h1 h I a q
 | count=>apply A1I hv h; intro w x a h; exact B2n S H hu ho h I a q
 | split=>apply s_ok ho h; intro x t hx h; apply A1I hv h; intro w y a h; apply s_ok a h; intro w u hw h; exact A1D h fun hs h=>B2o H S I hs h hx q
 | startswith=>
  apply s_ok ho h; intro x t hx h; apply A1I hv h; intro w y a h; apply s_ok a h; intro w u hw h
  exact A1D h fun hs h=>SC.startswith ((A5y S hs).symm▸A3l I (q.fin h))
 | endswith=>
  apply s_ok ho h; intro x t hx h; apply A1I hv h; intro w y a h; apply s_ok a h; intro w u hw h
  refine A1D h fun hs h=>SC.endswith ?_
  rw [A7m S hs]
  exact A3l I (q.fin h)
 | find=>
  apply s_ok ho h; intro x t hx h
  cases hv with
  | nil=>exact A0a h
  | cons a hv=>
   apply s_ok a h; intro w u hw h; apply B1Y hv h; intro v1 x1 v2 x2 a1 a2 h; apply i_ok a1 h; intro lo t1 h; apply i_ok a2 h; intro hi t2 h
   exact B4Z H S I h q
 | lower=>
  apply s_ok ho h; intro x t hx h; apply B8b hv h; intro h
  refine A8A h fun c e g=>A2G g fun d hd k=>?_
  subst e
  have hl:=B2l S hd
  refine SC.lower ?_ ?_
  ·
   rw [hl]; exact A9X H d
  ·
   rw [hl]; exact A1Q H I (q.fin k) (by simp)
 | upper=>
  apply s_ok ho h; intro x t hx h; apply B8b hv h; intro h
  refine A8A h fun c e g=>A1p g fun hc k=>?_
  subst e
  have hl:Txt.upper (A0b C.ρ [c])=A0b C.ρ [c - 32]:=by
   rw [B2j (Nat.lt_of_le_of_lt hc.2 (by decide)),B2j (Nat.lt_of_le_of_lt (Nat.sub_le _ _) (Nat.lt_of_le_of_lt hc.2 (by decide)))]; exact A7t hc.1 hc.2
  refine SC.upper ?_ ?_
  ·
   rw [hl]; exact A9X H _
  ·
   rw [hl]; exact A1Q H I (q.fin k) (by simp)
 | join=>apply s_ok ho h; intro x t hx h; apply A1I hv h; intro w y a h; apply r_ok a h; intro j hj h; exact A3j h fun xs h1 h=>B5a H I h1 h hx q
 | readChar=>exact absurd rfl hm
 | _=>exact A0a h
end
end Mine
end
section
namespace Mine
open PySem PyProof.Rows
noncomputable abbrev MM (C:Cx):Model:=model C.prog C.w
structure OkC (C:Cx):Prop where
 H:C.Ok
 S:A0n C.ρ
 pos:∀i,0 < (C.ρ i).length
 small:∀i,∀c∈C.ρ i,c < symB
theorem A4t {w v:V} {τ σ':St} (h:some (R.v w,τ)=some (R.v v,σ')):some (w,τ)=some (v,σ'):=by cases h; rfl
section
variable {C:Cx} {fi:Fi} {φ φ':Nat→Addr} {X:List (Addr×Obj)} {σ σ' σ₁ σ₂ σ₃:St} {s s':Shared} {A:Around} {E:Value→Shared→Prop} {Q:Value→Shared→Prop} {n:Nat}
theorem Post.same (q:Post C fi φ X σ σ v Q) (I:Inv C fi φ X σ s) {rv:Value} (h:VR C.ρ φ σ.nx v rv):Q rv s:=q φ s rv (Ext.refl _ _) I h
theorem Post.step {v:V} (q:Post C fi φ X σ σ₂ v Q) (e:Ext φ φ' σ.nx) (hn:σ.nx≤σ₁.nx):Post C fi φ' X σ₁ σ₂ v Q:=
 fun φ₂ s₂ rv e₂ I r=>q φ₂ s₂ rv (e.trans e₂ hn) I r
theorem A2H (ρ:Nat→List Nat):∀{l:List Nat},(∀c∈l,c < symB)→sv ρ l=l
 | [],_=>rfl
 | c::l,h=>by
  show (if c < symB then [c] else ρ (c - symB)) ++ sv ρ l=_
  rw [if_pos (h c (.head _)),A2H ρ fun d hd=>h d (.tail _ hd)]; rfl
theorem B2q (ρ:Nat→List Nat) (x:Str) (h:(x.cps.toList.all fun c=>Nat.blt c symB)=true):A0b ρ x.cps.toList=x:=by
 unfold A0b
 rw [A2H ρ fun c hc=>A2b (List.all_eq_true.mp h c hc)]
theorem A1C:∀{l:List Str} {x:Str} {k:Nat},at? l x=some k→l[k]?=some x:=by
 intro l x k h
 unfold at? at h
 refine e1a2 (List.findIdx?_eq_some_iff_getElem.mp h) fun h1 h2 _=>?_
 rw [List.getElem?_eq_getElem h1]
 exact congrArg some (beq_iff_eq.mp h2)
theorem A3o:∀(l:List V) (i j:Nat) (v w:V),nth (lset l i v) j=some w→(j=i∧w=v)∨(j≠i∧nth l j=some w)
 | [],i,j,v,w,h=>by cases j <;> cases h
 | x::l,0,0,v,w,h=>by cases h; exact .inl ⟨rfl,rfl⟩
 | x::l,0,j + 1,v,w,h=>.inr ⟨by lia,h⟩
 | x::l,i + 1,0,v,w,h=>.inr ⟨by lia,h⟩
 | x::l,i + 1,j + 1,v,w,h=>by
  rcases A3o l i j v w h with ⟨h1,h2⟩ | ⟨h1,h2⟩
  ·
   exact .inl ⟨by lia,h2⟩
  ·
   exact .inr ⟨by lia,h2⟩
theorem A3p {M:Model} {env:Env} {x:Str} (hk:env.scope.kind=.function) (hx:env.kindOf x=some .globalImplicit) {E Q:Value→Shared→Prop} (h:wpAny M A (loadGlobal env x) Q E s):wpAny M A (loadName env x) Q E s:=by
 unfold loadName
 simp only [Env.blockKind,hk,hx,ScopeKind.isAnnotationScope,Bool.false_and,Bool.false_eq_true,if_false]
 exact h
theorem B2r (O:OkC C) {x:Str} {i:Nat} {v:V} (hk:fi.env.kindOf x=some .cell∨fi.env.kindOf x=some .free) (h2:fi.cx.names.lookup x=some .cell∨fi.cx.names.lookup x=some .free) (hi:at? fi.cx.cels x=some i) (h:nth σ.cel i=some v) (hv:v≠.unb)
  (I:Inv C fi φ X σ s) (q:Post C fi φ X σ σ v Q):wpAny (MM C) A (loadName fi.env x) Q E s:=by
 refine e1a2 (I.env.cell x i h2 hi) fun a ha hc=>?_
 refine e2a3 (I.cel i a ha) fun o cv h1 h2 h3=>?_
 refine e1a2 (h3 _ h hv) fun rv h4 h5=>?_
 subst h4
 exact hk.elim (fun hk=>wpAny_loadName_cell I.env.kind hk hc ⟨o,h1,h2⟩ (q.same I h5)) fun hk=>wpAny_loadName_free I.env.kind hk hc ⟨o,h1,h2⟩ (q.same I h5) (I.env.nclass x i hi)
theorem C1N {v:Option V} {w:V} (h:bnd v σ=some (.v w,σ')):v=some w∧σ=σ'∧w≠.unb:=by
 match v with
 | none=>exact A0a h
 | some .unb=>exact A0a h
 | some .none | some (.bool _) | some (.int _) | some (.str _) | some (.ref _)=>cases h; exact ⟨rfl,rfl,fun h=>nomatch h⟩
theorem B2s (O:OkC C) {x:Str} {e:Mine.E} (hn:NmE fi.cx e x) {r:Run} {v:V} (h:evE r e σ=some (.v v,σ')) (I:Inv C fi φ X σ s) (q:Post C fi φ X σ σ' v Q):
  wpAny (MM C) A (loadName fi.env x) Q E s:=by
 cases e with
 | loc i=>
  refine e1a2 I.loc fun m hm hloc=>?_
  refine e0a3 (C1N h) fun hv e1z hw=>?_
  subst e1z
  refine e1a2 (hloc x i _ hn.2 hv hw) fun rv h1 h2=>?_
  exact wpAny_loadName_local I.env.kind (I.env.loc x hn.1) hm h1 (q.same I h2)
 | cel i=>
  refine e0a3 (C1N h) fun hv e1z hw=>?_
  subst e1z
  exact B2r O (hn.1.elim (fun hl=>.inl (I.env.celk x hl)) (I.env.frek x)) hn.1 hn.2 hv hw I q
 | lit w=>
  have gN:s.heap.Ns fi.env.globals C.mg:=by rw [I.env.globals]; exact O.H.g.keeps I.keep
  refine e1a2 (O.H.con x _ hn.2) fun rv h1 h2=>?_
  have hv:VR C.ρ φ σ.nx w rv:=VR.ext (n:=0) h2 (fun i hi=>absurd hi (Nat.not_lt_zero _)) (Nat.zero_le _)
  exact A3p I.env.kind (I.env.glob x (beq_iff_eq.mp hn.1)) (Calls.loadGlobal_global gN h1 ((Post.fin (A4t h) q).same I hv))
 | _=>exact hn.elim
theorem B9d {c:Ctx} {x:Str} {e:Mine.E} (hn:NmE c e x):(c.names.lookup x).isSome=true:=by
 cases e with
 | loc i=>rw [hn.1]; rfl
 | cel i=>exact hn.1.elim (fun h=>by rw [h]; rfl) fun h=>by rw [h]; rfl
 | lit w=>rw [beq_iff_eq.mp hn.1]; rfl
 | _=>exact hn.elim
theorem A1s (O:OkC C) {x:Str} {e:Mine.E} (hn:NmE fi.cx e x) {p:Pos} {r:Run} {v:V} (h:evE r e σ=some (.v v,σ')) (I:Inv C fi φ X σ s) (q:Post C fi φ X σ σ' v Q):
  wpAny (MM C) A (eval (.Name x p) fi.env) Q E s:=wpAny_Name (B2s O hn h I q) (I.env.ndebug x (B9d hn))
theorem C1O (O:OkC C) {k:Const} {v:V} (hk:litV k=some v) {d:Nat} {p:Pos} (I:Inv C fi φ X σ s) (q:Post C fi φ X σ σ v Q):
  wpAny (MM C) A (eval (.Constant k d p) fi.env) Q E s:=by
 match k with
 | .none=>rw [←Option.some.inj hk] at q; exact wpAny_Constant_none (q.same I .none)
 | .bool b=>rw [←Option.some.inj hk] at q; exact wpAny_Constant_bool (q.same I (.bool _))
 | .int i=>rw [←Option.some.inj hk] at q; exact wpAny_Constant_int (q.same (I.toks O.H _) (.int _ _))
 | .str x=>
  refine A1p hk fun hx hk=>?_
  rw [←Option.some.inj hk] at q
  refine Calls.Constant_str (q.same (I.toks O.H _) ?_)
  have:=VR.str (ρ:=C.ρ) (φ:=φ) (n:=σ.nx) x.cps.toList s.toks hx.1
  rwa [B2q C.ρ x hx.2] at this
 | .float _ | .complex _ _ | .bytes _ | .ellipsis=>exact A0a hk
theorem Inv.setLoc (H:C.Ok) (I:Inv C fi φ X σ s) {x:Str} {i:Nat} (hi:at? fi.cx.locs x=some i) {m:Str→Option Value} (hm:s.heap.Ns fi.env.locals m)
  (hml:∀x k v,at? fi.cx.locs x=some k→nth σ.loc k=some v→v≠.unb→∃rv,m x=some rv∧VR C.ρ φ σ.nx v rv)
  {v:V} {rv:Value} (hv:VR C.ρ φ σ.nx v rv) {h':Heap} (hn:h'.Ns fi.env.locals fun y=>if y=x then some rv else m y) (hS:Heap.SameBut fi.env.locals s.heap h') {t:Nat}:
  Inv C fi φ X { σ with loc:=lset σ.loc i v } { s with heap:=h',toks:=t }:=by
 have hk:∀b ob,b≠fi.env.locals→s.heap.get? b=some ob→h'.get? b=some ob:=fun b ob hb e=>hS.extBut b ob hb e
 have idk:∀j∈A0c σ.hp,∀ob,s.heap.get? (φ j)=some ob→h'.get? (φ j)=some ob:=fun j hj ob e=>hk _ _ ((I.off _ I.lad).2 j hj) e
 exact {
  keep:=fun b o e=>hk b o (fun q=>by have:=(I.off _ I.lad).1; rw [←q,e] at this; cases this) (I.keep b o e)
  inj:=I.inj
  live:=fun j hj=>⟨(I.live j hj).1,let ⟨ob,e⟩:=(I.live j hj).2; ⟨ob,idk j hj ob e⟩⟩
  env:=I.env,ids:=I.ids,low:=I.low,nd:=I.nd,off:=I.off,apart:=I.apart
  loc:=⟨_,hn,fun y k w hy hw hne=>by
   rcases A3o _ _ _ _ _ hw with ⟨h1,h2⟩ | ⟨h1,h2⟩
   ·
    subst h1 h2
    have:y=x:=by
     have e1:=A1C hy
     rw [A1C hi] at e1
     exact (Option.some.inj e1).symm
    exact ⟨rv,if_pos this,hv⟩
   ·
    refine e1a2 (hml y k w hy h2 hne) fun rw' h3 h4=>?_
    refine ⟨rw',?_,h4⟩
    show (if y=x then some rv else m y)=_
    rw [if_neg (fun e=>h1 (by rw [e,hi] at hy; exact (Option.some.inj hy).symm))]
    exact h3⟩
  cel:=fun k a hc=>by
   refine e2a2 (I.cel k a hc) fun ob cv e1 e2=>?_
   refine ⟨ob,cv,hk _ _ (fun q=>?_) e1,e2⟩
   have:=(List.nodup_cons.mp I.nd).1
   exact this (q▸List.mem_of_getElem? hc)
  hp:=fun p hp=>OR.ext H (I.hp p hp) (Ext.refl _ _) (Nat.le_refl _) (I.lowH hp) fun j hj ob e=>idk j (A0s hp j hj) ob e
  xs:=fun p hp=>hk _ _ (fun q=>I.apart _ (.head _) (q▸List.mem_map_of_mem hp)) (I.xs p hp)
  gens:=I.gens,drawn:=I.drawn,os:=I.os }
theorem Inv.setCel (H:C.Ok) (I:Inv C fi φ X σ s) {i:Nat} {a:Addr} (ha:fi.cad[i]?=some a) {v:V} {rv:Value} (hv:VR C.ρ φ σ.nx v rv) {h':Heap} (hn:h'.IsCell a (some rv)) (hS:Heap.SameBut a s.heap h') {t:Nat}:
  Inv C fi φ X { σ with cel:=lset σ.cel i v } { s with heap:=h',toks:=t }:=by
 have hm:=List.mem_of_getElem? ha
 have hk:∀b ob,b≠a→s.heap.get? b=some ob→h'.get? b=some ob:=fun b ob hb e=>hS.extBut b ob hb e
 have idk:∀j∈A0c σ.hp,∀ob,s.heap.get? (φ j)=some ob→h'.get? (φ j)=some ob:=fun j hj ob e=>hk _ _ ((I.off _ (I.cadIn hm)).2 j hj) e
 have nd:=List.nodup_cons.mp I.nd
 exact {
  keep:=fun b o e=>hk b o (fun q=>by have:=(I.off _ (I.cadIn hm)).1; rw [←q,e] at this; cases this) (I.keep b o e)
  inj:=I.inj
  live:=fun j hj=>⟨(I.live j hj).1,let ⟨ob,e⟩:=(I.live j hj).2; ⟨ob,idk j hj ob e⟩⟩
  env:=I.env,ids:=I.ids,low:=I.low,nd:=I.nd,off:=I.off,apart:=I.apart
  loc:=by
   obtain ⟨m,⟨ob,es,ep,e1,e2⟩,h⟩:=I.loc
   exact ⟨m,⟨ob,es,ep,hk _ _ (fun q=>nd.1 (q▸hm)) e1,e2⟩,h⟩
  cel:=fun k b hb=>by
   by_cases q:k=i
   ·
    subst q
    rw [ha] at hb
    cases hb
    refine e1a2 hn fun ob e1 e2=>?_
    refine ⟨ob,_,e1,e2,fun w hw hne=>?_⟩
    rcases A3o _ _ _ _ _ hw with ⟨h1,h2⟩ | ⟨h1,h2⟩
    ·
     subst h2; exact ⟨rv,rfl,hv⟩
    ·
     exact absurd rfl h1
   ·
    refine e2a3 (I.cel k b hb) fun ob cv e1 e2 e3=>?_
    refine ⟨ob,cv,hk _ _ (fun e=>?_) e1,e2,fun w hw hne=>?_⟩
    ·
     subst e
     refine q ?_
     exact (List.getElem?_inj (List.getElem?_eq_some_iff.mp hb).1 nd.2).mp (hb.trans ha.symm)
    ·
     rcases A3o _ _ _ _ _ hw with ⟨h1,h2⟩ | ⟨h1,h2⟩
     ·
      exact absurd h1 q
     ·
      exact e3 w h2 hne
  hp:=fun p hp=>OR.ext H (I.hp p hp) (Ext.refl _ _) (Nat.le_refl _) (I.lowH hp) fun j hj ob e=>idk j (A0s hp j hj) ob e
  xs:=fun p hp=>hk _ _ (fun q=>I.apart a (.tail _ hm) (q▸List.mem_map_of_mem hp)) (I.xs p hp)
  gens:=I.gens,drawn:=I.drawn,os:=I.os }
theorem A0Q (O:OkC C) {x:Str} {tg:Tg} (ht:TgN fi.cx tg x) {v:V} {rv:Value} (h:A0K tg v σ=some σ') (I:Inv C fi φ X σ s) (hv:VR C.ρ φ σ.nx v rv) {Q:Unit→Shared→Prop}
  (q:∀s',Inv C fi φ X σ' s'→Q () s'):wpAny (MM C) A (storeName fi.env x rv) Q E s:=by
 cases tg with
 | loc i=>
  have hk:((fi.env.scope.kind == ScopeKind.class || fi.env.scope.kind == ScopeKind.module && fi.env.locals != fi.env.globals)=false):=by rw [I.env.kind]; rfl
  obtain rfl:=Option.some.inj h
  refine e1a2 I.loc fun m hm hloc=>?_
  exact wpAny_storeName_local (I.env.loc x ht.1) hm (fun h' hn hS=>q _ (I.setLoc O.H ht.2 hm hloc hv hn hS)) hk
 | cel i=>
  obtain rfl:=Option.some.inj h
  refine e1a2 (I.env.cell x i (.inl ht.1) ht.2) fun a ha hc=>?_
  refine e2a3 (I.cel i a ha) fun o cv h1 h2 h3=>?_
  exact wpAny_storeName_cell I.env.kind (I.env.celk x ht.1) hc ⟨o,h1,h2⟩ (fun h' hn hS=>q _ (I.setCel O.H ha hv hn hS))
 | tup _=>exact ht.elim
theorem A0B {tg:Tg} {v:V} (h:A0K tg v σ=some σ'):σ'.nx=σ.nx∧σ'.hp=σ.hp:=by
 cases tg with
 | loc _=>cases h; exact ⟨rfl,rfl⟩
 | cel _=>cases h; exact ⟨rfl,rfl⟩
 | tup _=>exact A0a h
end
end Mine
end
section
namespace Mine
open PySem PyProof.Rows
noncomputable def Nx (r:Run):Prop:=∀t σ x σ',r t σ=some (x,σ')→σ.nx≤σ'.nx
section
variable {r:Run} {σ σ':St} {p:R×St} {q:Prop}
theorem B2t {o:Option (R×St)} {k:V→St→Option (R×St)} (h:vals o k=some p) (H:∀v σ₁,o=some (.v v,σ₁)→k v σ₁=some p→q):q:=by
 match o with
 | some (.v v,σ₁)=>exact H v σ₁ rfl h
 | none | some (.vs _,_) | some (.b _,_) | some (.f _,_)=>exact A0a h
theorem A9Y {o:Option (R×St)} {k:Bool→St→Option (R×St)} (h:B1J o k=some p) (H:∀v σ₁,o=some (.b v,σ₁)→k v σ₁=some p→q):q:=by
 match o with
 | some (.b v,σ₁)=>exact H v σ₁ rfl h
 | none | some (.vs _,_) | some (.v _,_) | some (.f _,_)=>exact A0a h
theorem A9Z {o:Option (R×St)} {k:St→Option (R×St)} (h:A7e o k=some p) (H:∀σ₁,o=some (.f .next,σ₁)→k σ₁=some p→q):q:=by
 match o with
 | some (.f .next,σ₁)=>exact H σ₁ rfl h
 | none | some (.vs _,_) | some (.v _,_) | some (.b _,_) | some (.f .brk,_) | some (.f .cont,_) | some (.f (.ret _),_)=>exact A0a h
theorem A1R {e:Mine.E} {k:V→St→Option (R×St)} (h:ev r e σ k=some p) (H:∀v σ₁,r (.e e) σ=some (.v v,σ₁)→k v σ₁=some p→q):q:=B2t h H
theorem A4S {e:Mine.E} {k:Bool→St→Option (R×St)} (h:tst r e σ k=some p) (H:∀v σ₁,r (.t e) σ=some (.b v,σ₁)→k v σ₁=some p→q):q:=A9Y h H
theorem A4m {l:List Mine.E} {k:List V→St→Option (R×St)} (h:evs r l σ k=some p) (H:∀v σ₁,r (.es l) σ=some (.vs v,σ₁)→k v σ₁=some p→q):q:=by
 unfold evs at h
 generalize e:r (.es l) σ=o at h H
 match o with
 | some (.vs v,σ₁)=>exact H v σ₁ rfl h
 | none | some (.v _,_) | some (.b _,_) | some (.f _,_)=>exact A0a h
theorem A7v {o:Option (V×St)} {v:V} (h:val o=some (.v v,σ')):o=some (v,σ'):=by
 match o with
 | none=>exact A0a h
 | some (w,τ)=>cases h; rfl
theorem B0O {w v:Fl} {τ:St} (h:some (R.f w,τ)=some (R.f v,σ')):some (w,τ)=some (v,σ'):=by cases h; rfl
theorem B9e {w v:Bool} {τ:St} (h:some (R.b w,τ)=some (R.b v,σ')):some (w,τ)=some (v,σ'):=by cases h; rfl
theorem B9f {v:Option V} (h:bnd v σ=some p):p.2=σ:=by
 unfold bnd at h
 split at h <;> cases h
 rfl
theorem B5b {o:Option St} (h:flow o=some p):∃σ₁,o=some σ₁∧p=(.f .next,σ₁):=by
 cases o with
 | none=>exact A0a h
 | some τ=>cases h; exact ⟨_,rfl,rfl⟩
theorem A5R {j:Nat} {k:St→Option (R×St)} (h:A0A σ j k=some p):(∃o x σ₁,hget σ.hp j=some o∧k { σ with hp:=A0H σ.hp j }=some (x,σ₁)∧p=(x,{ σ₁ with hp:=(j,o)::σ₁.hp }))∨(hget σ.hp j=none∧k σ=some p):=by
 unfold A0A at h
 cases e:hget σ.hp j with
 | none=>rw [e] at h; exact .inr ⟨rfl,h⟩
 | some o=>rw [e] at h; exact A0p h fun x h1 h=>.inl ⟨o,x.1,x.2,rfl,h1,(Option.some.inj h).symm⟩
theorem A8I (n:Nat) (v:V):(tidy σ n v).nx=σ.nx:=by
 unfold tidy
 split
 ·
  split
  ·
   split <;> rfl
  ·
   rfl
 ·
  rfl
theorem B5c {o:V} {l u:Option V}:Up σ.nx (A2C σ o l u):=by
 match o with
 | .str s=>exact A2g (A1y fun lo=>A1y fun hi=>Nat.le_refl σ.nx)
 | .ref j=>exact A1y fun xs=>A1y fun lo=>A1y fun hi=>Nat.le_succ σ.nx
 | .unb | .none | .bool _ | .int _=>trivial
theorem A0M:∀{ts:List Tg} {vs:List V} {σ σ':St},assignEach ts vs σ=some σ'→σ'.nx=σ.nx∧σ'.hp=σ.hp
 | [],[],_,_,h=>Option.some.inj h▸⟨rfl,rfl⟩
 | [],_::_,_,_,h=>A0a h
 | _::_,[],_,_,h=>A0a h
 | t::ts,v::vs,σ,σ',h=>A0p h fun σ₁ h1 h=>⟨(A0M h).1.trans (A0B h1).1,(A0M h).2.trans (A0B h1).2⟩
theorem A1J {t:Tg} {v:V} (h:assign t v σ=some σ'):σ'.nx=σ.nx∧σ'.hp=σ.hp:=by
 cases t with
 | tup ts=>exact r_on h fun j _ h=>A0p h fun vs _ h=>A0M h
 | loc i=>exact A0B (tg:=.loc i) (v:=v) h
 | cel i=>exact A0B (tg:=.cel i) (v:=v) h
theorem A2n:∀{ts:List Tg} {v:V} {σ σ':St},A1H ts v σ=some σ'→σ'.nx=σ.nx∧σ'.hp=σ.hp
 | [],_,_,_,h=>Option.some.inj h▸⟨rfl,rfl⟩
 | t::ts,v,σ,σ',h=>A0p h fun σ₁ h1 h=>⟨(A2n h).1.trans (A1J h1).1,(A2n h).2.trans (A1J h1).2⟩
theorem C1P {hp:List (Nat×O)} {n j:Nat} {k:List (List Nat)→List Nat→Nat→List Nat→Option (V×St)} (H:∀a b c d,Up n (k a b c d)):Up n (B1I hp j k):=by
 unfold B1I
 cases hget hp j with
 | none=>trivial
 | some o=>induction o with
  | tok a b c d=>exact H a b c d
  | _=>trivial
theorem C1Q {f:Nat} {vs:List V}:Up σ.nx (nat f vs σ):=by
 unfold nat
 cases Nat.beq f 7 with
 | true=>exact A0V fun v=>up_s fun s=>A2g (Nat.le_refl _)
 | false=>exact A2g (A0V fun v=>up_r fun j=>C1P fun a b c d=>A3k fun xs=>A9Q (by cases a with
  | nil=>exact Nat.le_refl _
  | cons=>exact Nat.le_refl _))
noncomputable def NxU (r:Run):Prop:=∀t σ,Up σ.nx (r t σ)
section
variable {n:Nat} (N:NxU r)
include N
theorem A0N {e:Mine.E} {k:V→St→Option (R×St)} (hn:n≤σ.nx) (H:∀v σ₁,n≤σ₁.nx→Up n (k v σ₁)):Up n (ev r e σ k):=by
 have h:=(N (.e e) σ).le hn
 unfold ev
 generalize r (.e e) σ=p at h
 match p with
 | none=>trivial
 | some (.v v,σ₁)=>exact H v σ₁ h
 | some (.vs _,_) | some (.b _,_) | some (.f _,_)=>trivial
theorem A2I {l:List Mine.E} {k:List V→St→Option (R×St)} (hn:n≤σ.nx) (H:∀v σ₁,n≤σ₁.nx→Up n (k v σ₁)):Up n (evs r l σ k):=by
 have h:=(N (.es l) σ).le hn
 unfold evs
 generalize r (.es l) σ=p at h
 match p with
 | none=>trivial
 | some (.vs v,σ₁)=>exact H v σ₁ h
 | some (.v _,_) | some (.b _,_) | some (.f _,_)=>trivial
theorem A5S {e:Mine.E} {k:Bool→St→Option (R×St)} (hn:n≤σ.nx) (H:∀v σ₁,n≤σ₁.nx→Up n (k v σ₁)):Up n (tst r e σ k):=by
 have h:=(N (.t e) σ).le hn
 unfold tst
 generalize r (.t e) σ=p at h
 match p with
 | none=>trivial
 | some (.b v,σ₁)=>exact H v σ₁ h
 | some (.v _,_) | some (.vs _,_) | some (.f _,_)=>trivial
theorem A1f {t:Task} (hn:n≤σ.nx):Up n (r t σ):=(N t σ).le hn
theorem B8f {e:Option Mine.E} {k:Option V→St→Option (R×St)} (hn:n≤σ.nx) (H:∀v σ₁,n≤σ₁.nx→Up n (k v σ₁)):Up n (evo r e σ k):=by
 induction e with
 | none=>exact H none σ hn
 | some e=>exact A0N N hn fun v σ₁ h=>H (some v) σ₁ h
theorem A7w {t:Task} {k:St→Option (R×St)} (hn:n≤σ.nx) (H:∀σ₁,n≤σ₁.nx→Up n (k σ₁)):Up n (A1k r (r t σ) k):=by
 have h:=(N t σ).le hn
 unfold A1k
 generalize r t σ=p at h
 match p with
 | none=>trivial
 | some (.f .next,σ₁)=>exact H σ₁ h
 | some (.f .cont,σ₁)=>exact H σ₁ h
 | some (.f .brk,σ₁)=>exact h
 | some (.f (.ret v),σ₁)=>exact h
 | some (.v _,_) | some (.b _,_) | some (.vs _,_)=>trivial
theorem A4y {k:ItK} {es:List Mine.E} {c:Nat→List V→St→Option (R×St)} (hn:n≤σ.nx) (H:∀j l σ₁,n≤σ₁.nx→Up n (c j l σ₁)):Up n (A8u r k es σ c):=by
 match k with
 | .list=>exact A0V fun e=>A0N N hn fun v σ₁ h=>up_r fun j=>A3k fun xs=>H j xs σ₁ h
 | .range=>exact A2I N hn fun vs σ₁ h=>A1y fun l=>H _ l σ₁ h
 | .enum | .fit | .gen=>trivial
theorem B0a {t:Task} {k:St→Option (R×St)} (hn:n≤σ.nx) (H:∀σ₁,n≤σ₁.nx→Up n (k σ₁)):Up n (A7e (r t σ) k):=by
 have h:=(N t σ).le hn
 generalize r t σ=p at h
 match p with
 | some (.f .next,σ₁)=>exact H σ₁ h
 | none | some (.vs _,_) | some (.v _,_) | some (.b _,_) | some (.f .brk,_) | some (.f .cont,_) | some (.f (.ret _),_)=>trivial
theorem B5d {t:Task} {k:Bool→St→Option (R×St)} (hn:n≤σ.nx) (H:∀b σ₁,n≤σ₁.nx→Up n (k b σ₁)):Up n (B1J (r t σ) k):=by
 have h:=(N t σ).le hn
 generalize r t σ=p at h
 match p with
 | some (.b b,σ₁)=>exact H b σ₁ h
 | none | some (.vs _,_) | some (.v _,_) | some (.f _,_)=>trivial
end
section
variable {n:Nat}
theorem A7x {q:Option (V×St)} (h:Up n q):Up n (val q):=by
 match q with
 | none=>trivial
 | some (v,σ)=>exact h
theorem B8g {v:Option V} (hn:n≤σ.nx):Up n (bnd v σ):=C1B fun x σ' h=>(congrArg St.nx (B9f h)).symm▸hn
theorem A8J {o:Option St} {k:St→Option (R×St)} (hs:∀τ,o=some τ→n≤τ.nx) (H:∀τ:St,n≤τ.nx→Up n (k τ)):Up n (o.bind k):=by
 cases o with
 | none=>trivial
 | some τ=>exact H τ (hs τ rfl)
theorem C1R {α:Type} {o:Option (α×St)} {k:α×St→Option (R×St)} (h:Up n o) (H:∀x:α×St,n≤x.2.nx→Up n (k x)):Up n (o.bind k):=by
 match o with
 | none=>trivial
 | some x=>exact H x h
theorem A2o {j:Nat} {k:St→Option (R×St)} (hn:n≤σ.nx) (H:∀τ,n≤τ.nx→Up n (k τ)):Up n (A0A σ j k):=by
 unfold A0A
 match hget σ.hp j with
 | none=>exact H σ hn
 | some o=>exact C1R (H { σ with hp:=A0H σ.hp j } hn) fun x h=>h
theorem B2u {t:Tg} {v:V} (hn:n≤σ.nx) (τ:St) (h:assign t v σ=some τ):n≤τ.nx:=(A1J h).1.symm▸hn
theorem B9g {t:List Tg} {v:V} (hn:n≤σ.nx) (τ:St) (h:A1H t v σ=some τ):n≤τ.nx:=(A2n h).1.symm▸hn
theorem A8K {t:List Tg} {v:List V} (hn:n≤σ.nx) (τ:St) (h:assignEach t v σ=some τ):n≤τ.nx:=(A0M h).1.symm▸hn
theorem A3W {m:Nat} {v:V} (hn:n≤σ.nx):n≤(tidy σ m v).nx:=(A8I m v).symm▸hn
end
theorem C1S {n j:Nat} {hp:List (Nat×O)} {k:List Nat→Option (R×St)} (H:∀s,Up n (k s)):Up n (A7f hp j k):=by
 unfold A7f
 match hget hp j with
 | some (.tok [] src _ _)=>exact H src
 | none | some (.tok (_::_) _ _ _) | some (.list _) | some (.tup _) | some (.lex ..) | some (.fit ..) | some (.frz _)=>trivial
theorem B9h (N:NxU r) {m:Me} {o:V} {vs:List V}:Up σ.nx (B0F r m o σ vs):=by
 match m with
 | .getToken=>exact N _ _
 | .pushToken=>exact N _ _
 | .append | .pop | .index | .count | .split | .startswith | .endswith | .find | .lower | .upper | .join | .readChar=>exact A7x B2a
theorem B8h (N:NxU r) {e:Mine.E}:Up σ.nx (evE r e σ):=by
 have z:=Nat.le_refl σ.nx
 match e with
 | .lit _=>exact z
 | .loc _=>exact B8g z
 | .cel _=>exact B8g z
 | .bin op a b=>exact A0N N z fun a σ₁ h1=>A0N N h1 fun b σ₂ h2=>A7x (A9R.le h2)
 | .neg a=>exact A0N N z fun a σ₁ h1=>up_i fun _=>h1
 | .not_ a=>exact A0N N z fun a σ₁ h1=>A1y fun _=>h1
 | .bool isAnd es=>exact N _ _
 | .cmp op a b=>exact A0N N z fun a σ₁ h1=>A0N N h1 fun b σ₂ h2=>A1y fun _=>h2
 | .idx o i=>exact A0N N z fun a σ₁ h1=>A0N N h1 fun b σ₂ h2=>A1y fun _=>h2
 | .sli o l u=>exact A0N N z fun o σ₁ h1=>B8f N h1 fun l σ₂ h2=>B8f N h2 fun u σ₃ h3=>A7x (B5c.le h3)
 | .lst es=>exact A2I N z fun vs σ₁ h1=>A2R (Nat.le_succ_of_le h1) trivial
 | .tup es=>exact A2I N z fun vs σ₁ h1=>A2R (Nat.le_succ_of_le h1) trivial
 | .call f es=>exact A2I N z fun vs σ₁ h1=>A1f N h1
 | .bi b es=>exact A2I N z fun vs σ₁ h1=>A7x (A5J.le h1)
 | .meth m o es=>exact A0N N z fun o σ₁ h1=>A2g (A2I N h1 fun vs σ₂ h2=>(B9h N).le h2)
 | .attr m o=>exact A0N N z fun o σ₁ h1=>A1y fun _=>h1
 | .lrange es=>exact A2I N z fun vs σ₁ h1=>A1y fun l=>A2R (Nat.le_succ_of_le h1) trivial
 | .iter o=>exact A0N N z fun o σ₁ h1=>A7x (A5J.le h1)
 | .ife t a b=>exact A5S N z fun c σ₁ h1=>A1f N h1
 | .lineNe o t=>exact A0N N z fun o σ₁ h1=>up_r fun j=>C1S fun src=>A0N N h1 fun t σ₂ h2=>up_s fun s=>A2g h2
 | .comp elt n tg k es ifs gens=>exact A4y N z fun j l σ₁ h1=>A2o h1 fun σ₂ h2=>B0a N (Nat.le_succ_of_le h2) fun τ h3=>h3
theorem B9i {t:Tg} {v:V} {n:Nat} (hn:n≤σ.nx):Up n (flow (A0K t v σ)):=C1B fun x σ' h=>by
 refine e1a2 (B5b h) fun σ₁ h1 h2=>?_
 cases h2
 exact (A0B h1).1.symm▸hn
theorem C1T {n j:Nat} {hp:List (Nat×O)} {k:Option (R×St)} (H:Up n k):Up n (B0G hp j k):=by
 unfold B0G
 match hget hp j with
 | some (.fit ..)=>exact H
 | none | some (.tok ..) | some (.list _) | some (.tup _) | some (.lex ..) | some (.frz _)=>trivial
theorem C1U (N:NxU r) {tg:Tg} {k:ItK} {es:List Mine.E} {b:List S}:Up σ.nx (forS r tg k es b σ):=by
 have z:=Nat.le_refl σ.nx
 match k with
 | .enum=>exact A2I N z fun vs σ₁ h1=>A0V fun v=>up_r fun j=>A3k fun xs=>A2o h1 fun τ h2=>A1f N h2
 | .fit=>exact A0V fun e=>A0N N z fun v σ₁ h1=>up_r fun j=>C1T (A1f N h1)
 | .gen=>exact A2I N z fun vs σ₁ h1=>A0V fun v=>up_s fun s=>A2g (A1f N h1)
 | .list=>exact A4y N (k:=.list) (es:=es) (c:=fun j l σ=>A0A σ j fun σ=>r (.for_ tg b l) σ) z fun j l σ₁ h1=>A2o h1 fun τ h2=>A1f N h2
 | .range=>exact A4y N (k:=.range) (es:=es) (c:=fun j l σ=>A0A σ j fun σ=>r (.for_ tg b l) σ) z fun j l σ₁ h1=>A2o h1 fun τ h2=>A1f N h2
theorem C1V (N:NxU r) {t:S}:Up σ.nx (evS r t σ):=by
 have z:=Nat.le_refl σ.nx
 match t with
 | .asg ts e=>exact A0N N z fun v σ₁ h1=>A8J (B9g h1) fun τ h2=>A3W h2
 | .swp ts e=>exact A0N N z fun v σ₁ h1=>up_r fun j=>A1y fun vs=>A8J (A8K h1) fun τ h2=>A3W h2
 | .put o i e=>exact A0N N z fun v σ₁ h1=>A0N N h1 fun o σ₂ h2=>A0N N h2 fun i σ₃ h3=>up_r fun j=>up_i fun i=>A3k fun xs=>A2R h3 trivial
 | .aug t op e=>exact A0N N z fun a σ₁ h1=>A0N N h1 fun b σ₂ h2=>A2g (C1R (A9R.le h2) fun x h=>B9i h)
 | .expr e=>exact A0N N z fun v σ₁ h1=>B8T (A3W h1)
 | .ret e=>exact A0N N z fun v σ₁ h1=>h1
 | .brk=>exact z
 | .cont=>exact z
 | .ifs t a b=>exact A5S N z fun c σ₁ h1=>A1f N (A3W h1)
 | .whl t b=>exact N _ _
 | .for_ tg k es b=>exact C1U N
 | .assert t=>exact A5S N z fun c σ₁ h1=>A2g h1
 | .del o i=>exact A0N N z fun o σ₁ h1=>A0N N h1 fun i σ₂ h2=>up_r fun j=>up_i fun i=>A3k fun xs=>A1y fun k=>h2
theorem B5e (N:NxU r) {e:Mine.E}:Up σ.nx (C0S r e σ):=by
 have z:=Nat.le_refl σ.nx
 have d:∀{e:Mine.E},Up σ.nx (ev r e σ tru):=A0N N z fun v σ₁ h1=>A1y fun _=>h1
 match e with
 | .ife ..=>trivial
 | .lineNe o t=>
  have h:=B8h N (σ:=σ) (e:=.lineNe o t)
  show Up _ (vals (evE r (.lineNe o t) σ) tru)
  generalize evE r (.lineNe o t) σ=p at h
  match p with
  | some (.v v,τ)=>exact A1y fun _=>h
  | none | some (.vs _,_) | some (.b _,_) | some (.f _,_)=>trivial
 | .cmp op a b=>exact A0N N z fun a σ₁ h1=>A0N N h1 fun b σ₂ h2=>A1y fun _=>h2
 | .not_ a=>exact A5S N z fun c σ₁ h1=>h1
 | .bool isAnd es=>exact N _ _
 | .lit _ | .loc _ | .cel _ | .bin .. | .neg _ | .idx .. | .sli .. | .lst _ | .tup _ | .call .. | .bi .. | .meth .. | .attr .. | .lrange _ | .iter _ | .comp ..=>exact d
theorem A3q (N:NxU r) {n:Nat} {b:List S} {t:Task} (hn:n≤σ.nx):Up n (A1k r (r (.ss b) σ) fun σ=>r t σ):=A7w N hn fun τ h=>A1f N h
theorem B5f (N:NxU r) {tg:Tg} {b:List S} {j:Nat}:Up σ.nx (B1K r tg b j σ):=by
 unfold B1K
 match hget σ.hp j with
 | some (.fit lx true own)=>exact Nat.le_refl σ.nx
 | some (.fit lx false own)=>
  refine A1y fun p=>?_
  match p with
  | ([],hp)=>exact Nat.le_refl σ.nx
  | (c::s,hp)=>exact A8J (B2u (σ:={ σ with hp:=hp }) (Nat.le_refl σ.nx)) fun τ h1=>A3q N h1
 | none | some (.tok ..) | some (.list _) | some (.tup _) | some (.lex ..) | some (.frz _)=>trivial
theorem B9j {n:Nat} {p:Option (R×St)} (h:Up n p):Up n (back σ p):=by
 match p with
 | some (.f .next,τ)=>exact A3W (n:=n) h
 | some (.f (.ret v),τ)=>exact A3W (n:=n) h
 | none | some (.v _,_) | some (.vs _,_) | some (.b _,_) | some (.f .brk,_) | some (.f .cont,_)=>trivial
theorem B5g (FT:List Fn) (N:NxU r) {f:Nat} {vs:List V}:Up σ.nx (B0H FT r f vs σ):=by
 have h:Up σ.nx (A7d (nth FT 11).isSome f vs σ):=by
  match (nth FT 11).isSome with
  | true=>exact C1Q
  | false=>trivial
 unfold B0H
 generalize A7d (nth FT 11).isSome f vs σ=p at h
 match p with
 | some p=>exact h
 | none=>exact A1y fun fn=>A2R (B9j (N _ { σ with loc:=_,cel:=[] })) trivial
theorem B9k (FT:List Fn) (N:NxU r):NxU (step FT r):=by
 intro t σ
 have z:=Nat.le_refl σ.nx
 match t with
 | .e e=>exact B8h N
 | .es []=>exact z
 | .es (e::l)=>exact A0N N z fun v σ₁ h1=>A2I N h1 fun vs σ₂ h2=>h2
 | .bs _ []=>trivial
 | .bs _ [e]=>exact N _ _
 | .bs isAnd (e::e'::l)=>exact A0N N z fun v σ₁ h1=>A1y fun b=>A2R (A1f N h1) h1
 | .t e=>exact B5e N
 | .ts _ []=>exact z
 | .ts isAnd (e::l)=>exact A5S N z fun b σ₁ h1=>A2R (A1f N h1) h1
 | .s s=>exact C1V N
 | .ss []=>exact z
 | .ss (s::l)=>
  have h:=N (.s s) σ
  show Up _ (match r (.s s) σ with
   | some (.f .next,σ)=>r (.ss l) σ
   | x=>x)
  generalize r (.s s) σ=p at h
  match p with
  | none=>trivial
  | some (.f .next,τ)=>exact A1f N h
  | some (.f .brk,_) | some (.f .cont,_) | some (.f (.ret _),_) | some (.v _,_) | some (.vs _,_) | some (.b _,_)=>exact h
 | .whl t b=>
  refine A5S N z fun c σ₁ h1=>?_
  match c with
  | true=>exact A3q N h1
  | false=>exact h1
 | .for_ tg b []=>exact z
 | .for_ tg b (v::l)=>exact A8J (B2u z) fun τ h1=>A3q N h1
 | .forE tg b [] i=>exact z
 | .forE tg b (v::l) i=>exact C1C fun ts=>A8J (A8K z) fun τ h1=>A3q N h1
 | .forG tg b []=>exact A2g z
 | .forG tg b (p::l)=>exact A2g (C1C fun ts=>A8J (A8K z) fun τ h1=>A7w N h1 fun τ' h2=>A2g (A1f N h2))
 | .forF tg b j=>exact B5f N
 | .app f vs=>exact B5g FT N
 | .comp elt [] acc=>trivial
 | .comp elt ((tg,k,es,ifs)::gens) acc=>exact A4y N z fun j l σ₁ h1=>A2o h1 fun τ h2=>A1f N h2
 | .turns elt tg ifs gens acc []=>exact z
 | .turns elt tg ifs gens acc (v::l)=>
  refine A8J (B2u z) fun τ h1=>B5d N h1 fun b σ₁ h2=>?_
  match b,gens with
  | true,[]=>exact A0N N h2 fun x σ₂ h3=>A3k fun xs=>A2R (A1f (σ:={ σ₂ with hp:=hset σ₂.hp acc (.list (xs ++ [x])) }) N h3) trivial
  | true,g::gens=>exact B0a N h2 fun τ h3=>A1f N h3
  | false,gens=>exact A1f N h2
theorem B8i (FT:List Fn):∀n,NxU (run FT n)
 | 0=>fun _ _=>trivial
 | n + 1=>B9k FT (B8i FT n)
theorem B0b (FT:List Fn) (n:Nat):Nx (run FT n):=fun _ _ _ _ h=>(B8i FT n _ _).out h
end
end Mine
end
section
namespace Mine
open PySem PyProof.Rows
section
variable (C:Cx) (fi:Fi) (A:Around) (X:List (Addr×Obj)) (σ σ':St)
noncomputable def B5h (φ:Nat→Addr) (vs:List V) (Q:List Value→Shared→Prop):Prop:=∀φ' s' rvs,Ext φ φ' σ.nx→Inv C fi φ' X σ' s'→VRs C.ρ φ' σ'.nx vs rvs→Q rvs s'
noncomputable def A0C (v:V) (ex:PySem.Expr):Prop:=∀φ s E Q,Inv C fi φ X σ s→Post C fi φ X σ σ' v Q→wpAny (MM C) A (eval ex fi.env) Q E s
noncomputable def A1z (exs:List PySem.Expr) (env:Env):List (Bool×Sem Value):=exs.map fun e=>(false,eval e env)
noncomputable def A2S (vs:List V) (exs:List PySem.Expr):Prop:=∀φ s E Q,Inv C fi φ X σ s→B5h C fi X σ σ' φ vs Q→wpAny (MM C) A (spliced (A1z exs fi.env)) Q E s
noncomputable def A5T (b:Bool) (ex:PySem.Expr):Prop:=∀φ s E Q,Inv C fi φ X σ s→A8D C fi φ X σ σ' b Q→wpAny (MM C) A (PySem.isTrue ex fi.env (eval ex fi.env)) Q E s
noncomputable def B2v (isAnd b:Bool) (exs:List PySem.Expr):Prop:=∀φ s E Q,Inv C fi φ X σ s→A8D C fi φ X σ σ' b Q→wpAny (MM C) A (allTrue (opOf isAnd) exs fi.env) Q E s
noncomputable def B2w (isAnd:Bool) (v:V) (exs:List PySem.Expr):Prop:=∀φ s E Q pos,Inv C fi φ X σ s→Post C fi φ X σ σ' v Q→wpAny (MM C) A (eval (.BoolOp (opOf isAnd) exs pos) fi.env) Q E s
noncomputable def A3r (f:Nat) (vs:List V) (v:V):Prop:=∀φ s E Q rvs,Inv C fi φ X σ s→VRs C.ρ φ σ.nx vs rvs→Post C fi φ X σ σ' v Q→wpAny (MM C) A (call (.ref (C.fv f)) rvs) Q E s
end
theorem B5h.step {C:Cx} {fi:Fi} {X:List (Addr×Obj)} {σ σ₁ σ₂:St} {φ φ':Nat→Addr} {vs:List V} {Q:List Value→Shared→Prop} (q:B5h C fi X σ σ₂ φ vs Q) (e:Ext φ φ' σ.nx) (hn:σ.nx≤σ₁.nx):B5h C fi X σ₁ σ₂ φ' vs Q:=
 fun φ₂ s₂ rv e₂ I r=>q φ₂ s₂ rv (e.trans e₂ hn) I r
theorem A8D.step {C:Cx} {fi:Fi} {X:List (Addr×Obj)} {σ σ₁ σ₂:St} {φ φ':Nat→Addr} {b:Bool} {Q:Bool→Shared→Prop} (q:A8D C fi φ X σ σ₂ b Q) (e:Ext φ φ' σ.nx) (hn:σ.nx≤σ₁.nx):A8D C fi φ' X σ₁ σ₂ b Q:=
 fun φ₂ s₂ e₂ I=>q φ₂ s₂ (e.trans e₂ hn) I
section
variable {C:Cx} {fi:Fi} {φ φ':Nat→Addr} {X:List (Addr×Obj)} {σ σ' σ₁ σ₂ σ₃:St} {s s':Shared} {A:Around} {E:Value→Shared→Prop} {Q:Value→Shared→Prop} {n:Nat}
theorem Room.mono {A:Around} {n m:Nat} (h:Room A n) (hm:m≤n):Room A m:=⟨Nat.lt_of_le_of_lt (Nat.add_le_add_left hm _) h.depth,Nat.lt_of_le_of_lt (Nat.add_le_add_left (Nat.mul_le_mul_left 8 hm) _) h.units,h.handled⟩
theorem Room.le {A:Around} {n m:Nat} (h:Room A n) (hm:Nat.ble m n=true):Room A m:=h.mono (Nat.le_of_ble_eq_true hm)
theorem Room.u8 {A:Around} {n:Nat} (h:Room A (n + 1)) {k:Nat} (hk:k≤8):A.units + k + 8 * n < 9800:=by
 refine Nat.lt_of_le_of_lt ?_ h.units
 rw [Nat.add_assoc]
 refine Nat.add_le_add_left ?_ _
 rw [Nat.mul_succ,Nat.add_comm]
 exact Nat.add_le_add_left hk _
theorem Room.d1 {A:Around} {n:Nat} (h:Room A (n + 1)):A.depth + 1 + n < 990:=by
 rw [Nat.add_right_comm]; exact h.depth
theorem Room.deep {A:Around} {n:Nat} {e:Env} (h:Room A (n + 1)):Room (A.deeper e) n:=⟨h.d1,h.u8 (Nat.le_of_ble_eq_true rfl),h.handled⟩
theorem A0v {A:Around} {n:Nat} (h:Room A n):A.depth < recursionLimit:=Nat.lt_of_lt_of_le (Nat.lt_of_le_of_lt (Nat.le_add_right _ _) h.depth) (Nat.le_of_ble_eq_true rfl)
theorem Room.cl {A:Around} {n:Nat} (h:Room A n):A.units + 3 < cLine:=Nat.add_lt_add_right (Nat.lt_of_le_of_lt (Nat.le_add_right _ _) h.units) 3 |> fun h=>Nat.lt_of_lt_of_le h (Nat.le_of_ble_eq_true rfl)
theorem Room.in1 {A:Around} {n:Nat} (h:Room A (n + 1)):Room A.in1 n:=⟨h.mono (Nat.le_succ n) |>.depth,h.u8 (Nat.le_of_ble_eq_true rfl),h.handled⟩
theorem A5U {env:Env}:∀{exs:List PySem.Expr},(∀e∈exs,∀x p,e≠.Starred x p)→starEach exs env=A1z exs env
 | [],_=>rfl
 | e::r,h=>by
  have ih:=A5U (env:=env) (exs:=r) fun e he=>h e (.tail _ he)
  have h0:=h e (.head _)
  cases e <;> first
   | exact absurd rfl (h0 _ _)
   | (show (false,_)::starEach r env=_; rw [ih]; rfl)
theorem B0P (pos:Pos) (exs:List PySem.Expr) (env:Env):backTo pos (A1z exs env)=A1z exs env:=by
 unfold backTo A1z
 rw [List.map_map]
 rfl
theorem A1S (exs:List PySem.Expr) (env:Env):(A1z exs env).any (·.1)=false:=by
 unfold A1z
 induction exs with
 | nil=>rfl
 | cons e r ih=>simp
theorem B2x {R:RE} {l:List Mine.E}:∀{exs:List PySem.Expr},TrL R l exs→∀e∈exs,B1S e=true:=by
 induction l with
 | nil=>intro _ h; rw [show _=[] from h]; exact nofun
 | cons x l ih=>
  intro _ h
  obtain ⟨y,t,e,h1,h2⟩:=h
  rw [e]
  exact List.forall_mem_cons.mpr ⟨h1.1,ih h2⟩
theorem A0W {R:RE} {exs:List PySem.Expr} {l:List Mine.E} (h:TrL R l exs) {env:Env} (pos:Pos):backTo pos (starEach exs env)=A1z exs env:=by
 rw [A5U,B0P]
 intro e he x p q
 have:=B2x h e he
 rw [q] at this
 exact noft this
theorem A0y {f:Value} {exs:List PySem.Expr} {env:Env} {Q:Args→Shared→Prop} {M:Model} (h:wpAny M A (spliced (A1z exs env)) (fun vs s'=>Q { pos:=vs } s') E s):wpAny M A (evalArgs f true (A1z exs env) []) Q E s:=by
 cases exs with
 | nil=>
  unfold evalArgs
  show wpAny M A (spliced [] >>= _) Q E s
  refine wpAny_bind (wpAny_mono h (fun vs s' h'=>?_) fun _ _ x=>x)
  refine wpAny_bind (wpAny_pure ?_)
  refine wpAny_holding ?_
  exact wpAny_bind (wpAny_pure (wpAny_bind (wpAny_pure (wpAny_pure h'))))
 | cons e r=>exact Calls.evalArgs_plain h
noncomputable def A2T:O→Bool
 | .lex ..=>true
 | .tok ..=>true
 | _=>false
structure A2p (C:Cx) (K:Nat):Prop where
 attr:∀{fi:Fi} {φ:Nat→Addr} {X:List (Addr×Obj)} {σ:St} {s:Shared} {A:Around} {E Q:Value→Shared→Prop} {m:Mine.At} {o v:V} {ro:Value},A5E m σ.hp o=some v→Inv C fi φ X σ s→VR C.ρ φ σ.nx o ro→Post C fi φ X σ σ v Q→
  wpAny (MM C) A (getAttr ro (A7h m) true) Q E s
 getm:∀{fi:Fi} {φ:Nat→Addr} {X:List (Addr×Obj)} {σ:St} {s:Shared} {A:Around} {E:Value→Shared→Prop} {Q:Value×List Value→Shared→Prop} {m:Me} {j:Nat} {o:O} {pl:Sem Bool},
  hget σ.hp j=some o→A2T o=true→mok m σ.hp (.ref j)=true→Inv C fi φ X σ s→Q (.ref (match m with | .getToken=>C.fv 9 | .pushToken=>C.fv 10 | _=>C.fread),[.ref (φ j)]) s→wpAny (MM C) A (getMethod (.ref (φ j)) (A8v m) pl) Q E s
 read:∀{fi:Fi} {φ:Nat→Addr} {X:List (Addr×Obj)} {σ σ':St} {s:Shared} {A:Around} {E Q:Value→Shared→Prop} {o v:V} {ro:Value},Room A K→A1G .readChar σ o []=some (v,σ')→Inv C fi φ X σ s→VR C.ρ φ σ.nx o ro→Post C fi φ X σ σ' v Q→
  wpAny (MM C) A (call (.ref C.fread) [ro]) Q E s
 iter:∀{fi:Fi} {φ:Nat→Addr} {X:List (Addr×Obj)} {σ σ' σ₁:St} {s:Shared} {A:Around} {E Q:Value→Shared→Prop} {o v:V} {y:Str} {p0 p1 p2 p3 pos:Pos} {k:Nat},A0I fi.cx "iter" = true→Room A K→A0C C fi A X σ σ₁ o (.Name y p1)→σ.nx≤σ₁.nx→builtin .iterRead σ₁ [o]=some (v,σ')→Inv C fi φ X σ s→Post C fi φ X σ σ' v Q→
  wpAny (MM C) A (eval (.Call (.Name "iter" p0) [.Attribute (.Name y p1) "_read_char" p2,.Constant (.str "") k p3] [] pos) fi.env) Q E s
 line:∀{fi:Fi} {φ:Nat→Addr} {X:List (Addr×Obj)} {σ:St} {s:Shared} {A:Around} {E Q:Value→Shared→Prop} {j:Nat} {src:List Nat} {pb:Nat} {ow:List Nat},hget σ.hp j=some (.tok [] src pb ow)→Inv C fi φ X σ s→
  (∀t s',Inv C fi φ X σ s'→Q (.int (1 + A0w 10 (sv C.ρ src)) t) s')→wpAny (MM C) A (getAttr (.ref (φ j)) "lineno" true) Q E s
 selfIt:∀{fi:Fi} {φ:Nat→Addr} {X:List (Addr×Obj)} {σ:St} {s:Shared} {A:Around} {E Q:Value→Shared→Prop} {j lx:Nat} {d:Bool} {ow:List Nat},hget σ.hp j=some (.fit lx d ow)→Inv C fi φ X σ s→Q (.ref (φ j)) s→wpAny (MM C) A (pyIter (.ref (φ j))) Q E s
 ended:∀{fi:Fi} {φ:Nat→Addr} {X:List (Addr×Obj)} {σ:St} {s:Shared} {A:Around} {E:Value→Shared→Prop} {Q:Option Value→Shared→Prop} {j lx:Nat} {ow:List Nat},A.handled=none→hget σ.hp j=some (.fit lx true ow)→Inv C fi φ X σ s→(∀s',Inv C fi φ X σ s'→Q none s')→wpAny (MM C) A (pyNext (.ref (φ j))) Q E s
 next:∀{fi:Fi} {φ:Nat→Addr} {X:List (Addr×Obj)} {σ:St} {s:Shared} {A:Around} {E:Value→Shared→Prop} {Q:Option Value→Shared→Prop} {j lx:Nat} {ow c:List Nat} {hp:List (Nat×O)},Room A K→hget σ.hp j=some (.fit lx false ow)→A3K σ.hp lx=some (c,hp)→Inv C fi φ X σ s→
  (c≠[]→∀s' t,Inv C fi φ X { σ with hp:=hp } s'→Q (some (.str (A0b C.ρ c) t)) s')→(c=[]→∀s',Inv C fi φ X { σ with hp:=hset hp j (.fit lx true ow) } s'→Q none s')→wpAny (MM C) A (pyNext (.ref (φ j))) Q E s
structure A0X (C:Cx):Prop where
 glob:∀(f:Nat) (x:Str),A2j f=some x→C.mg x=some (.ref (C.fv f))
 fn:∀f,f≤10∨f=99→∃o fd,C.h₀.get? (C.fv f)=some o∧o.data=.func fd
 fnr:∃o fd,C.h₀.get? C.fread=some o∧o.data=.func fd
structure Snd (C:Cx) (r:Run) (N:Nat):Prop where
 nx:Nx r
 e:∀{σ σ':St} {v:V} {e:Mine.E} {fi:Fi} {A:Around} {X:List (Addr×Obj)} {k:Nat} {ex:PySem.Expr},r (.e e) σ=some (.v v,σ')→Room A N→TrE k fi.cx e ex→A0C C fi A X σ σ' v ex
 es:∀{σ σ':St} {vs:List V} {l:List Mine.E} {fi:Fi} {A:Around} {X:List (Addr×Obj)} {k:Nat} {exs:List PySem.Expr},r (.es l) σ=some (.vs vs,σ')→Room A N→TrL (TrE k fi.cx) l exs→A2S C fi A X σ σ' vs exs
 t:∀{σ σ':St} {b:Bool} {e:Mine.E} {fi:Fi} {A:Around} {X:List (Addr×Obj)} {k:Nat} {ex:PySem.Expr},r (.t e) σ=some (.b b,σ')→Room A N→TrE k fi.cx e ex→A5T C fi A X σ σ' b ex
 ts:∀{σ σ':St} {isAnd b:Bool} {l:List Mine.E} {fi:Fi} {A:Around} {X:List (Addr×Obj)} {k:Nat} {exs:List PySem.Expr},r (.ts isAnd l) σ=some (.b b,σ')→Room A N→TrL (TrE k fi.cx) l exs→B2v C fi A X σ σ' isAnd b exs
 bs:∀{σ σ':St} {isAnd:Bool} {v:V} {l:List Mine.E} {fi:Fi} {A:Around} {X:List (Addr×Obj)} {k:Nat} {exs:List PySem.Expr},r (.bs isAnd l) σ=some (.v v,σ')→Room A N→TrL (TrE k fi.cx) l exs→B2w C fi A X σ σ' isAnd v exs
 app:∀{σ σ':St} {f:Nat} {vs:List V} {v:V} {fi:Fi} {A:Around} {X:List (Addr×Obj)},r (.app f vs) σ=some (.v v,σ')→Room A N→A3r C fi A X σ σ' f vs v
section
variable {r:Run} {N:Nat} {v:V} {vs:List V}
theorem A0C.then {ex:PySem.Expr} (h:A0C C fi A X σ σ₁ v ex) (I:Inv C fi φ X σ s) {E:Value→Shared→Prop} {Q:Value→Shared→Prop}
  (q:∀φ' s' rv,Ext φ φ' σ.nx→Inv C fi φ' X σ₁ s'→VR C.ρ φ' σ₁.nx v rv→Q rv s'):wpAny (MM C) A (eval ex fi.env) Q E s:=h φ s E Q I q
theorem A2S.then {exs:List PySem.Expr} (h:A2S C fi A X σ σ₁ vs exs) (I:Inv C fi φ X σ s) {E:Value→Shared→Prop} {Q:List Value→Shared→Prop}
  (q:∀φ' s' rvs,Ext φ φ' σ.nx→Inv C fi φ' X σ₁ s'→VRs C.ρ φ' σ₁.nx vs rvs→Q rvs s'):wpAny (MM C) A (spliced (A1z exs fi.env)) Q E s:=h φ s E Q I q
theorem C1W {exs:List PySem.Expr} {pos:Pos} {id:String} {first:List Value} (h:A2S C fi A X σ σ₁ vs exs) (I:Inv C fi φ X σ s)
  (q:∀φ' s' rvs,Ext φ φ' σ.nx→Inv C fi φ' X σ₁ s'→VRs C.ρ φ' σ₁.nx vs rvs→wpAny (MM C) A (call (.builtin id) (first ++ rvs)) Q E s'):wpAny (MM C) A (callWith pos (.builtin id) first (A1z exs fi.env) []) Q E s:=
 Calls.callWith_builtin (A1S _ _) (A0y (h.then I q))
theorem B9l {exs:List PySem.Expr} {pos:Pos} {T:String} {first:List Value} (h:A2S C fi A X σ σ₁ vs exs) (I:Inv C fi φ X σ s)
  (q:∀φ' s' rvs,Ext φ φ' σ.nx→Inv C fi φ' X σ₁ s'→VRs C.ρ φ' σ₁.nx vs rvs→wpAny (MM C) A (call (.type T) (first ++ rvs)) Q E s'):wpAny (MM C) A (callWith pos (.type T) first (A1z exs fi.env) []) Q E s:=
 PyProof.Rows.callWith_type (A1S _ _) (A0y (h.then I q))
theorem A7y {exs:List PySem.Expr} {pos:Pos} {a:Addr} {first:List Value} (ho:∃o fd,C.h₀.get? a=some o∧o.data=.func fd) (h:A2S C fi A X σ σ₁ vs exs) (I:Inv C fi φ X σ s)
  (q:∀φ' s' rvs,Ext φ φ' σ.nx→Inv C fi φ' X σ₁ s'→VRs C.ρ φ' σ₁.nx vs rvs→wpAny (MM C) A (call (.ref a) (first ++ rvs)) Q E s'):wpAny (MM C) A (callWith pos (.ref a) first (A1z exs fi.env) []) Q E s:=by
 obtain ⟨o,fd,h1,h2⟩:=ho
 exact Calls.callWith_function (A0y (h.then I fun φ' s' rvs e I' r=>⟨⟨I'.keep _ _ h1,h2⟩,q φ' s' rvs e I' r⟩))
theorem A1T (I:Inv C fi φ X σ s) (O:OkC C) {x:Str} {p:Pos} {rv:Value} (hx:A0I fi.cx x=true) (hg:C.mg x=some rv) (q:Q rv s):wpAny (MM C) A (eval (.Name x p) fi.env) Q E s:=by
 have hl:fi.cx.names.lookup x=some .globalImplicit:=beq_iff_eq.mp hx
 have gN:s.heap.Ns fi.env.globals C.mg:=by rw [I.env.globals]; exact O.H.g.keeps I.keep
 exact Calls.Name_function_global I.env.kind (I.env.glob x hl) (Calls.loadGlobal_global gN hg q) (I.env.ndebug x (by rw [hl]; rfl))
theorem A3s (I:Inv C fi φ X σ s) (O:OkC C) {x:Str} {p:Pos} {rv:Value} (hx:A0I fi.cx x=true) (hg:C.mg x=none) (hb:C.mb x=some rv) (q:Q rv s):wpAny (MM C) A (eval (.Name x p) fi.env) Q E s:=by
 have hl:fi.cx.names.lookup x=some .globalImplicit:=beq_iff_eq.mp hx
 have gN:s.heap.Ns fi.env.globals C.mg:=by rw [I.env.globals]; exact O.H.g.keeps I.keep
 have bN:s.heap.Ns fi.env.builtins C.mb:=by rw [I.env.builtins]; exact O.H.b.keeps I.keep
 exact Calls.Name_function_global I.env.kind (I.env.glob x hl) (Calls.loadGlobal_builtin gN hg bN hb q) (I.env.ndebug x (by rw [hl]; rfl))
theorem B9m {b:Bi} (h:b≠.iterRead):A8w b ≠ "__name__" ∧ A3e.contains (A8w b)=true∧bootBuiltins (A8w b)=some (B9c b):=by
 cases b with
 | iterRead=>exact absurd rfl h
 | _=>exact ⟨by decide,by decide,by decide +kernel⟩
end
end
end Mine
end
section
namespace Mine
open PySem PyProof.Rows
section
variable {C:Cx} {fi:Fi} {φ φ':Nat→Addr} {X:List (Addr×Obj)} {σ σ' σ₁ σ₂ σ₃:St} {s s':Shared} {A:Around} {n:Nat} {r:Run} {N:Nat} {v:V} {vs:List V}
theorem B5i {o:PySem.Expr} {name:Str} {env:Env} {w:Sem Value} (ho:B1R o=true):attributeBase o name env w=w:=by
 cases o with
 | Call=>exact (Bool.false_ne_true ho).elim
 | _=>rfl
theorem A4T {M:Model} {E:Value→Shared→Prop} {Q:Value→Shared→Prop} {env:Env} {o:PySem.Expr} {name:Str} {apos pos:Pos} {args:List PySem.Expr} (hf:A2f apos pos args.length o=true) (hs:∀p,backTo p (starEach args env)=A1z args env)
  (h:wpAny M A (eval o env) (fun ov s₁=>∀pl,wpAny M A (getMethod ov name pl) (fun fx s₂=>wpAny M A (callWith pos fx.1 fx.2 (A1z args env) []) Q E s₂) E s₁) E s):
  wpAny M A (eval (.Call (.Attribute o name apos) args [] pos) env) Q E s:=by
 unfold A2f at hf
 rw [Bool.and_eq_true,Bool.and_eq_true] at hf
 obtain ⟨⟨hl,hn⟩,ho⟩:=hf
 rw [arm_eval_Call,B5i ho]
 refine wpAny_bind (wpAny_mono h (fun ov s₁ h₁=>?_) fun _ _ e=>e)
 refine wpAny_bind (wpAny_standAt ?_)
 have hform:methodCallForm (args.length + ([]:List Keyword).length) (backTo pos (starEach args env)) (backToKw pos (keywordEach [] env))=true:=by
  unfold methodCallForm
  rw [hs]
  have e1:(A1z args env).all (fun x=>!x.1)=true:=by
   unfold A1z
   rw [List.all_map]
   exact List.all_eq_true.mpr fun _ _=>rfl
  rw [e1]
  exact hn
 have hpos:methodCallPos true o env apos pos=pure pos:=if_pos (c:=(!true || apos.endLine == pos.line)=true) hl
 unfold methodCall
 rw [hform]
 refine wpAny_bind (wpAny_holding (wpAny_mono (h₁ _) (fun fx s₂ h₂=>?_) fun _ _ e=>e))
 refine wpAny_bind (wpAny_of_eq hpos ?_)
 rw [hs]
 exact h₂
theorem B0c {E:Value→Shared→Prop} {Q:Value×List Value→Shared→Prop} {m:Me} {l:List Nat} {t:Str} {u:Tok} {pl:Sem Bool} {hp:List (Nat×O)} (hm:mok m hp (.str l)=true)
  (q:Q (.builtin (midV m (.str l)),[.str t u]) s):wpAny (MM C) A (getMethod (.str t u) (A8v m) pl) Q E s:=by
 have str:∀{id:String} {x:Str},Slot "str" x id→typeOf (.builtin id)=pure (.type "method_descriptor")→Q (.builtin id,[.str t u]) s→wpAny (MM C) A (getMethod (.str t u) x pl) Q E s:=
  fun sl ty q=>getMethod_builtin (typeIs_str _ _ _) F.plainAttrs_str sl ty (fun a e=>by cases e) q
 cases m with
 | count=>exact str (x := "count") F.slot_str_count F.type_str_count q
 | split=>exact str (x := "split") F.slot_str_split F.type_str_split q
 | startswith=>exact str (x := "startswith") F.slot_str_startswith F.type_str_startswith q
 | endswith=>exact str (x := "endswith") F.slot_str_endswith F.type_str_endswith q
 | find=>exact str (x := "find") F.slot_str_find F.type_str_find q
 | lower=>exact str (x := "lower") F.slot_str_lower F.type_str_lower q
 | join=>exact str (x := "join") F.slot_str_join F.type_str_join q
 | upper=>exact str (x := "upper") F.slot_str_upper F.type_str_upper q
 | _=>exact noft hm
noncomputable def lstM (m:Me):Bool:=match m with | .append=>true | .pop=>true | .index=>true | .count=>true | _=>false
theorem B2y {E:Value→Shared→Prop} {Q:Value×List Value→Shared→Prop} {m:Me} {j:Nat} {a:Addr} {vs:List Value} {k:Nat} {pl:Sem Bool} (g1:s.heap.get? a=some (A0k vs k)) (hm:lstM m=true)
  (q:Q (.builtin (midV m (.ref j)),[.ref a]) s):wpAny (MM C) A (getMethod (.ref a) (A8v m) pl) Q E s:=by
 have lst:∀{id:String} {x:Str},Slot "list" x id→typeOf (.builtin id)=pure (.type "method_descriptor")→Q (.builtin id,[.ref a]) s→wpAny (MM C) A (getMethod (.ref a) x pl) Q E s:=
  fun sl ty q=>getMethod_builtin ⟨_,g1,rfl⟩ F.plainAttrs_list sl ty (fun a e=>by cases e; exact ⟨_,g1,rfl⟩) q
 cases m with
 | append=>exact lst (x := "append") F.slot_list_append F.type_list_append q
 | pop=>exact lst (x := "pop") F.slot_list_pop F.type_list_pop q
 | index=>exact lst (x := "index") F.slot_list_index F.type_list_index q
 | count=>exact lst (x := "count") F.slot_list_count F.type_list_count q
 | _=>exact noft hm
end
end Mine
end
section
namespace Mine
open PySem PyProof.Rows
section
variable {C:Cx} {fi:Fi} {φ φ':Nat→Addr} {X:List (Addr×Obj)} {σ σ' σ₁ σ₂ σ₃:St} {s s':Shared} {A:Around} {n:Nat} {r:Run} {N:Nat} {v:V} {vs:List V}
noncomputable def B8j (C:Cx) (r:Run) (N:Nat):Prop:=∀{σ σ':St} {v:V} {e:Mine.E} {fi:Fi} {A:Around} {X:List (Addr×Obj)} {k:Nat} {elt:PySem.Expr} {gens:List Comprehension} {sc:Scope} {p:Pos},
 evE r e σ=some (.v v,σ')→Room A (N + 1)→TrE (k + 1) fi.cx e (.ListComp elt gens sc p)→A0C C fi A X σ σ' v (.ListComp elt gens sc p)
theorem Room.dn (h:Room A (N + 1)):Room A N:=h.mono (Nat.le_succ _)
theorem A5z {sl:PySem.Expr} (h:noSl sl=true) (o i:Value):subscripted sl false o i=operate [o,i] (getItem o i):=by
 cases sl with
 | Slice=>exact noft h
 | _=>rfl
theorem Snd.ev (h:Snd C r N) (hR:Room A (N + 1)) {k:Nat} {x:PySem.Expr} {e:Mine.E} {K:V→St→Option (R×St)} {p:R×St} (hE:Mine.ev r e σ K=some p) (hx:TrE k fi.cx e x) (I:Inv C fi φ X σ s) {E:Value→Shared→Prop} {Q:Value→Shared→Prop}
  (q:∀va σ₁ φ' s' rv,σ.nx≤σ₁.nx→K va σ₁=some p→Ext φ φ' σ.nx→Inv C fi φ' X σ₁ s'→VR C.ρ φ' σ₁.nx va rv→Q rv s'):wpAny (MM C) A (eval x fi.env) Q E s:=
 A1R hE fun va σ₁ ha hE=>(h.e ha hR.dn hx).then I fun φ' s' rv e I v=>q va σ₁ φ' s' rv (h.nx _ _ _ _ ha) hE e I v
theorem Snd.evs (h:Snd C r N) (hR:Room A (N + 1)) {k:Nat} {xs:List PySem.Expr} {es:List Mine.E} {K:List V→St→Option (R×St)} {p:R×St} (hE:Mine.evs r es σ K=some p) (hx:TrL (TrE k fi.cx) es xs) (I:Inv C fi φ X σ s) {E:Value→Shared→Prop} {Q:List Value→Shared→Prop}
  (q:∀vs σ₁ φ' s' rvs,σ.nx≤σ₁.nx→K vs σ₁=some p→Ext φ φ' σ.nx→Inv C fi φ' X σ₁ s'→VRs C.ρ φ' σ₁.nx vs rvs→Q rvs s'):wpAny (MM C) A (spliced (A1z xs fi.env)) Q E s:=
 A4m hE fun va σ₁ ha hE=>(h.es ha hR.dn hx).then I fun φ' s' rv e I v=>q va σ₁ φ' s' rv (h.nx _ _ _ _ ha) hE e I v
theorem B0Q (O:OkC C) (h:Snd C r N) {a b:PySem.Expr} {p:Pos} {ea eb:Mine.E} {bop:Bop} {k:Nat} (hE:evE r (.bin bop ea eb) σ=some (.v v,σ')) (hR:Room A (N + 1)) (h1:TrE k fi.cx ea a) (h3:TrE k fi.cx eb b):
  A0C C fi A X σ σ' v (.BinOp a (opB bop) b p):=fun φ s E Q I q=>
 wpAny_BinOp (h.ev hR hE h1 I fun va σ₁ φ1 s1 r1 n1 hE e1 I1 v1=>h.ev hR hE h3 I1 fun vb σ₂ φ2 s2 r2 n2 hE e2 I2 v2=>A9T O.H (A7v hE) I2 (v1.ext e2 n2) v2 ((q.step e1 n1).step e2 n2))
theorem B0R (O:OkC C) (h:Snd C r N) {a:PySem.Expr} {p:Pos} {ea:Mine.E} {k:Nat} (hE:evE r (.neg ea) σ=some (.v v,σ')) (hR:Room A (N + 1)) (h1:TrE k fi.cx ea a):
  A0C C fi A X σ σ' v (.UnaryOp .USub a p):=fun φ s E Q I q=>by
 refine wpAny_UnaryOp (h.ev hR hE h1 I fun va σ₁ φ1 s1 r1 n1 hE e1 I1 v1=>?_)
 apply i_ok v1 hE; intro i t hE
 exact P.neg_int (A0h O.H I1 ((q.step e1 n1).fin (A4t hE)))
theorem B0S (O:OkC C) (h:Snd C r N) {a:PySem.Expr} {p:Pos} {ea:Mine.E} {k:Nat} (hE:evE r (.not_ ea) σ=some (.v v,σ')) (hR:Room A (N + 1)) (h1:TrE k fi.cx ea a):
  A0C C fi A X σ σ' v (.UnaryOp .Not a p):=fun φ s E Q I q=>
 wpAny_UnaryOp (h.ev hR hE h1 I fun va σ₁ φ1 s1 r1 n1 hE e1 I1 v1=>A0p hE fun b hb hE=>not_value (A2y O.H O.S O.pos hb I1 v1 fun φ2 s2 e2 I2=>A3l I2 (((q.step e1 n1).fin (A4t hE)).step e2 (Nat.le_refl _))))
theorem B0T (O:OkC C) (h:Snd C r N) {a b:PySem.Expr} {p:Pos} {ea eb:Mine.E} {cop:Cop} {k:Nat} (hE:evE r (.cmp cop ea eb) σ=some (.v v,σ')) (hR:Room A (N + 1)) (hm:behindInMarks (opC cop) b=false) (h1:TrE k fi.cx ea a) (h3:TrE k fi.cx eb b):
  A0C C fi A X σ σ' v (.Compare a [opC cop] [b] p):=fun φ s E Q I q=>
 wpAny_Compare1 (h.ev hR hE h1 I fun va σ₁ φ1 s1 r1 n1 hE e1 I1 v1=>h.ev hR hE h3 I1 fun vb σ₂ φ2 s2 r2 n2 hE e2 I2 v2=>A0p hE fun c hc hE=>
  A6B O.H O.S hc I2 hR.cl (v1.ext e2 n2) v2 (((q.step e1 n1).step e2 n2).fin (A4t hE))) hm
theorem B0U (O:OkC C) (h:Snd C r N) {a b:PySem.Expr} {p:Pos} {ea eb:Mine.E} {k:Nat} (hE:evE r (.idx ea eb) σ=some (.v v,σ')) (hR:Room A (N + 1)) (hn:noSl b=true) (h1:TrE k fi.cx ea a) (h3:TrE k fi.cx eb b):
  A0C C fi A X σ σ' v (.Subscript a b p):=fun φ s E Q I q=>
 Subscript_ (h.ev hR hE h1 I fun va σ₁ φ1 s1 r1 n1 hE e1 I1 v1=>h.ev hR hE h3 I1 fun vb σ₂ φ2 s2 r2 n2 hE e2 I2 v2=>A0p hE fun c hc hE=>
  B4T O.H O.S hc I2 (v1.ext e2 n2) v2 (((q.step e1 n1).step e2 n2).fin (A4t hE)) (A5z hn))
theorem B2z (h:Snd C r N) (hR:Room A (N + 1)) {k:Nat} {x:Option PySem.Expr} {ex:Option Mine.E} (hx:TrO (TrE k fi.cx) ex x) {kk:Option V→St→Option (R×St)} {p:R×St} (hE:evo r ex σ kk=some p) {E:Value→Shared→Prop} {Q:Value→Shared→Prop} (I:Inv C fi φ X σ s)
  (q:∀w σ₁ φ' s' rv,σ.nx≤σ₁.nx→kk w σ₁=some p→Ext φ φ' σ.nx→Inv C fi φ' X σ₁ s'→VO C.ρ φ' σ₁.nx w rv→Q rv s'):wpAny (MM C) A (evalPart x fi.env) Q E s:=by
 cases ex with
 | none=>
  rw [show x=none from hx,evalPart_none]
  exact wpAny_pure (q none σ φ s .none (Nat.le_refl _) hE (Ext.refl _ _) I rfl)
 | some e'=>
  refine e1a2 hx fun y e1 he=>?_
  rw [e1,evalPart_some]
  exact h.ev hR hE he I fun w σ₁ φ1 s1 r1 n1 hE e1 I1 v1=>q (some w) σ₁ φ1 s1 r1 n1 hE e1 I1 v1
theorem VO.ext {w:Option V} {rv:Value} {n n':Nat} (h:VO C.ρ φ n w rv) (e:Ext φ φ' n) (hn:n≤n'):VO C.ρ φ' n' w rv:=match w with
 | none=>h
 | some _=>VR.ext h e hn
theorem B0V (O:OkC C) (h:Snd C r N) {a:PySem.Expr} {lo up:Option PySem.Expr} {p p':Pos} {ea:Mine.E} {el eu:Option Mine.E} {k:Nat} (hE:evE r (.sli ea el eu) σ=some (.v v,σ')) (hR:Room A (N + 1)) (h1:TrE k fi.cx ea a)
  (h2:TrO (TrE k fi.cx) el lo) (h3:TrO (TrE k fi.cx) eu up):A0C C fi A X σ σ' v (.Subscript a (.Slice lo up none p') p):=fun φ s E Q I q=>
 Subscript_ (h.ev hR hE h1 I fun va σ₁ φ1 s1 r1 n1 hE e1 I1 v1=>wpAny_Slice (B2z h hR h2 hE I1 fun wl σ₂ φ2 s2 r2 n2 hE e2 I2 v2=>B2z h hR h3 hE I2 fun wu σ₃ φ3 s3 r3 n3 hE e3 I3 v3=>by
  rw [evalPart_none]
  exact wpAny_pure (B4U O.H O.S (A7v hE) I3 ((v1.ext e2 n2).ext e3 n3) (v2.ext e3 n3) v3 (((q.step e1 n1).step e2 n2).step e3 n3))))
theorem B2A {n:Nat} (h:n≤4000):n≤sizeLine:=Nat.le_trans h (by decide)
theorem A8L {n:Nat} (h:n≤4000):n≤5000:=Nat.le_trans h (by decide)
theorem B0W (O:OkC C) (h:Snd C r N) {es:List PySem.Expr} {p:Pos} {l:List Mine.E} {k:Nat} (hE:evE r (.lst l) σ=some (.v v,σ')) (hR:Room A (N + 1)) (h1:TrL (TrE k fi.cx) l es):
  A0C C fi A X σ σ' v (.List es p):=fun φ s E Q I q=>by
 refine wpAny_List ?_
 rw [A0W h1]
 exact h.evs hR hE h1 I fun vs σ₁ φ1 s1 rvs n1 hE e1 I1 v1=>A1p hE fun hl hE=>⟨by rw [v1.length]; exact B2A hl,A4x ((q.step e1 n1).fin (A7v hE)) (I1.newList O.H v1 (A8L hl) (t:=s1.toks))⟩
theorem B0X (O:OkC C) (h:Snd C r N) {es:List PySem.Expr} {d:Nat} {p:Pos} {l:List Mine.E} {k:Nat} (hE:evE r (.tup l) σ=some (.v v,σ')) (hR:Room A (N + 1)) (h1:TrL (TrE k fi.cx) l es):
  A0C C fi A X σ σ' v (.Tuple es d p):=fun φ s E Q I q=>by
 refine wpAny_Tuple ?_
 rw [A0W h1]
 exact h.evs hR hE h1 I fun vs σ₁ φ1 s1 rvs n1 hE e1 I1 v1=>A1p hE fun hl hE=>⟨by rw [v1.length]; exact B2A hl,A4x ((q.step e1 n1).fin (A7v hE)) (I1.newTup O.H v1 (A8L hl) (t:=s1.toks))⟩
theorem B0Y (O:OkC C) (h:Snd C r N) {t a b:PySem.Expr} {p:Pos} {et ea eb:Mine.E} {k:Nat} (hE:evE r (.ife et ea eb) σ=some (.v v,σ')) (hR:Room A (N + 1)) (h0:TrE k fi.cx et t) (h1:TrE k fi.cx ea a) (h3:TrE k fi.cx eb b):
  A0C C fi A X σ σ' v (.IfExp t a b p):=fun φ s E Q I q=>
 A4S hE fun c σ₁ ha hE=>wpAny_IfExp (h.t ha hR.dn h0 φ s E _ I fun φ1 s1 e1 I1=>by
  have q:=q.step e1 (h.nx _ _ _ _ ha)
  cases c with
  | true=>exact h.e hE hR.dn h1 φ1 s1 E Q I1 q
  | false=>exact h.e hE hR.dn h3 φ1 s1 E Q I1 q)
end
end Mine
end
section
namespace Mine
open PySem PyProof.Rows
section
variable {C:Cx} {fi:Fi} {φ φ':Nat→Addr} {X:List (Addr×Obj)} {σ σ' σ₁ σ₂ σ₃:St} {s s':Shared} {A:Around} {n:Nat} {r:Run} {N:Nat} {v:V} {vs:List V}
theorem A8M (O:OkC C) {K:Nat} (L:A2p C K) (h:Snd C r N) {y:Str} {p p':Pos} {m:Mine.At} {eo:Mine.E} {k:Nat} (hE:evE r (.attr m eo) σ=some (.v v,σ')) (hR:Room A (N + 1)) (h1:TrE k fi.cx eo (.Name y p)):
  A0C C fi A X σ σ' v (.Attribute (.Name y p) (A7h m) p'):=fun φ s E Q I q=>
 Attribute_name (h.ev hR hE h1 I fun va σ₁ φ1 s1 r1 n1 hE e1 I1 v1=>A0p hE fun c hc hE=>L.attr hc I1 v1 ((q.step e1 n1).fin (A4t hE)))
theorem C1X {m:Me} {hp:List (Nat×O)} {o:V} {q:Prop} (h:mok m hp o=true) (H1:∀l,o=.str l→q) (H2:∀j xs,o=.ref j→hget hp j=some (.list xs)→lstM m=true→q)
  (H3:∀j ob,o=.ref j→hget hp j=some ob→A2T ob=true→(m=.readChar∨m=.getToken∨m=.pushToken)→q):q:=by
 cases o with
 | str l=>exact H1 l rfl
 | ref j=>
  unfold mok at h
  dsimp only at h
  cases e:hget hp j with
  | none=>rw [e] at h; exact noft h
  | some ob=>
   rw [e] at h
   cases ob with
   | list xs=>exact H2 j xs rfl e h
   | lex=>exact H3 j _ rfl e rfl (by cases m <;> first | exact noft h | exact .inl rfl | exact .inr (.inl rfl) | exact .inr (.inr rfl))
   | tok=>exact H3 j _ rfl e rfl (by cases m <;> first | exact noft h | exact .inr (.inl rfl) | exact .inr (.inr rfl))
   | tup _ | fit | frz _=>exact noft h
 | unb | none | bool _ | int _=>exact noft h
theorem B0d {m:Me} {o:V} {vs:List V} (h:B0F r m o σ vs=some (.v v,σ')) (h1:m≠.getToken) (h2:m≠.pushToken):A1G m σ o vs=some (v,σ'):=by
 cases m with
 | getToken=>exact absurd rfl h1
 | pushToken=>exact absurd rfl h2
 | _=>exact A7v h
theorem C1Y {m:Me} (h:lstM m=true):m≠.getToken∧m≠.pushToken∧m≠.readChar:=⟨by rintro rfl; exact noft h,by rintro rfl; exact noft h,by rintro rfl; exact noft h⟩
theorem C1Z {m:Me} {hp:List (Nat×O)} {l:List Nat} (h:mok m hp (.str l)=true):m≠.getToken∧m≠.pushToken∧m≠.readChar:=⟨by rintro rfl; exact noft h,by rintro rfl; exact noft h,by rintro rfl; exact noft h⟩
theorem A8N (O:OkC C) {K:Nat} (L:A2p C K) (FO:A0X C) (h:Snd C r N) {o:PySem.Expr} {apos pos:Pos} {args:List PySem.Expr} {m:Me} {eo:Mine.E} {l:List Mine.E} {k:Nat} (hE:evE r (.meth m eo l) σ=some (.v v,σ')) (hR:Room A (N + 1)) (h5:K≤N + 1)
  (hf:A2f apos pos args.length o=true) (h1:TrE k fi.cx eo o) (h3:TrL (TrE k fi.cx) l args):
  A0C C fi A X σ σ' v (.Call (.Attribute o (A8v m) apos) args [] pos):=fun φ s E Q I q=>by
 refine A4T hf (fun p=>A0W h3 p) (h.ev hR hE h1 I fun va σ₁ φ1 s1 r1 n1 hE e1 I1 v1 pl=>A1D hE fun hm hE=>A4m hE fun vs σ₂ hb hE=>?_)
 have n2:=h.nx _ _ _ _ hb
 have q:=q.step e1 n1
 have args:=h.es (X:=X) hb hR.dn h3
 have app:∀{a:Addr} {f:Nat},(∃o fd,C.h₀.get? (C.fv f)=some o∧o.data=.func fd)→r (.app f (va::vs)) σ₂=some (.v v,σ')→wpAny (MM C) A (callWith pos (.ref (C.fv f)) [r1] (A1z _ fi.env) []) Q E s1:=
  fun hfn hE=>A7y hfn args I1 fun φ2 s2 rvs e2 I2 v2=>h.app hE hR.dn φ2 s2 E Q (_::rvs) I2 (.cons (v1.ext e2 n2) v2) (q.step e2 n2)
 have plain:m≠.getToken∧m≠.pushToken∧m≠.readChar→wpAny (MM C) A (callWith pos (.builtin (midV m va)) [r1] (A1z _ fi.env) []) Q E s1:=
  fun hn=>C1W args I1 fun φ2 s2 rvs e2 I2 v2=>B2p O.H O.S hR.cl hn.2.2 (B0d hE hn.1 hn.2.1) I2 (v1.ext e2 n2) v2 (q.step e2 n2)
 refine C1X hm (fun l e=>?_) (fun j xs e hg hl=>?_) fun j ob e hg hl hms=>?_
 ·
  subst e
  cases v1 with
  | str _ u hl=>exact B0c hm (plain (C1Z hm))
 ·
  subst e
  cases v1 with
  | ref _ hj=>
   refine e2a3 (I1.get hg) fun ws kk g1 _ _=>?_
   exact B2y (j:=j) g1 hl (plain (C1Y hl))
 ·
  subst e
  cases v1 with
  | ref _ hj=>
   refine L.getm hg hl hm I1 ?_
   rcases hms with rfl | rfl | rfl
   ·
    have hw:=B0d hE (fun e=>nomatch e) (fun e=>nomatch e)
    refine A7y FO.fnr args I1 fun φ2 s2 rvs e2 I2 v2=>?_
    cases vs with
    | nil=>cases v2; exact L.read (hR.mono h5) hw I2 (VR.ext (.ref j hj) e2 n2) (q.step e2 n2)
    | cons=>exact A0a hw
   ·
    exact app (a:=0) (f:=9) (FO.fn 9 (.inl (by decide))) hE
   ·
    exact app (a:=0) (f:=10) (FO.fn 10 (.inl (by decide))) hE
theorem B9n (h:Snd C r N) {exs:List PySem.Expr} {l:List Mine.E} {k:Nat} {FT:List Fn} (hE:step FT r (.es l) σ=some (.vs vs,σ')) (hR:Room A (N + 1)) (h1:TrL (TrE k fi.cx) l exs):A2S C fi A X σ σ' vs exs:=fun φ s E Q I q=>by
 cases l with
 | nil=>
  cases hE
  rw [show exs=[] from h1]
  exact Calls.spliced_nil (q φ s [] (Ext.refl _ _) I .nil)
 | cons e l=>
  refine e2a3 h1 fun x rest ex t1 t2=>?_
  rw [ex]
  exact Calls.spliced_cons (h.ev hR hE t1.2 I fun va σ₁ φ1 s1 r1 n1 hE e1 I1 v1=>h.evs hR hE t2 I1 fun vb σ₂ φ2 s2 rvs n2 hE e2 I2 v2=>by
   cases hE
   exact ((q.step e1 n1).step e2 n2) φ2 s2 _ (Ext.refl _ _) I2 (.cons (v1.ext e2 n2) v2))
theorem B9o (O:OkC C) (h:Snd C r N) {isAnd:Bool} {exs:List PySem.Expr} {l:List Mine.E} {k:Nat} {FT:List Fn} (hE:step FT r (.bs isAnd l) σ=some (.v v,σ')) (hR:Room A (N + 1)) (h1:TrL (TrE k fi.cx) l exs):B2w C fi A X σ σ' isAnd v exs:=fun φ s E Q pos I q=>by
 cases l with
 | nil=>exact A0a hE
 | cons e l=>
 refine e2a3 h1 fun x rest ex t1 t2=>?_
 cases l with
 | nil=>
  rw [ex,show rest=[] from t2]
  exact BoolOp_one ((h.e hE hR.dn t1.2) φ s E Q I q)
 | cons e' l=>
  refine e2a2 (id t2) fun x2 rest2 ex2 _=>?_
  rw [ex,ex2]
  have go:∀(va:V) (σ₁:St) (b:Bool) φ1 s1 (r1:Value),σ.nx≤σ₁.nx→(if b=isAnd then r (.bs isAnd (e'::l)) σ₁ else some (.v va,σ₁))=some (.v v,σ')→Ext φ φ1 σ.nx→Inv C fi φ1 X σ₁ s1→VR C.ρ φ1 σ₁.nx va r1→
    if b=isAnd then wpAny (MM C) A (eval (.BoolOp (opOf isAnd) (x2::rest2) pos) fi.env) Q E s1 else Q r1 s1:=fun va σ₁ b φ1 s1 r1 n1 hE e1 I1 v1=>by
   by_cases hb:b=isAnd
   ·
    rw [if_pos hb] at hE ⊢
    exact h.bs hE hR.dn (ex2▸t2) φ1 s1 E Q pos I1 (q.step e1 n1)
   ·
    rw [if_neg hb] at hE ⊢
    exact ((q.step e1 n1).fin (A4t hE)).same I1 v1
  cases isAnd with
  | true=>exact BoolOp_and (h.ev hR hE t1.2 I fun va σ₁ φ1 s1 r1 n1 hE e1 I1 v1=>A0p hE fun b hb hE=>A2y O.H O.S O.pos hb I1 v1 fun φ2 s2 e2 I2=>by
    have g:=go va σ₁ b φ2 s2 r1 n1 hE (e1.trans e2 n1) I2 (v1.ext e2 (Nat.le_refl _))
    cases b <;> exact g)
  | false=>exact BoolOp_or (h.ev hR hE t1.2 I fun va σ₁ φ1 s1 r1 n1 hE e1 I1 v1=>A0p hE fun b hb hE=>A2y O.H O.S O.pos hb I1 v1 fun φ2 s2 e2 I2=>by
    have g:=go va σ₁ b φ2 s2 r1 n1 hE (e1.trans e2 n1) I2 (v1.ext e2 (Nat.le_refl _))
    cases b <;> exact g)
theorem B9p (h:Snd C r N) {isAnd b:Bool} {exs:List PySem.Expr} {l:List Mine.E} {k:Nat} {FT:List Fn} (hE:step FT r (.ts isAnd l) σ=some (.b b,σ')) (hR:Room A (N + 1)) (h1:TrL (TrE k fi.cx) l exs):B2v C fi A X σ σ' isAnd b exs:=fun φ s E Q I q=>by
 cases l with
 | nil=>
  cases hE
  rw [show exs=[] from h1]
  have e:(opOf isAnd == PySem.BoolOp.And)=isAnd:=by cases isAnd <;> rfl
  show wpAny _ _ (pure (opOf isAnd == PySem.BoolOp.And)) Q E s
  rw [e]
  exact wpAny_pure (q φ s (Ext.refl _ _) I)
 | cons e l=>
  refine e2a3 h1 fun x rest ex t1 t2=>?_
  rw [ex]
  refine A4S hE fun c σ₁ ha hE=>?_
  have n1:=h.nx _ _ _ _ ha
  show wpAny _ _ (do
   match opOf isAnd,←PySem.isTrue x fi.env (eval x fi.env) with
   | .And,false=>pure false
   | .Or,true=>pure true
   | _,_=>allTrue (opOf isAnd) rest fi.env) Q E s
  refine wpAny_bind (h.t ha hR.dn t1.2 φ s E _ I fun φ1 s1 e1 I1=>?_)
  have go:=fun hE=>h.ts (isAnd:=isAnd) hE hR.dn t2 φ1 s1 E Q I1 (q.step e1 n1)
  have out:some (R.b c,σ₁)=some (.b b,σ')→wpAny (MM C) A (pure c) Q E s1:=fun hE=>by cases hE; exact wpAny_pure (q φ1 s1 e1 I1)
  cases isAnd <;> cases c
  ·
   exact go hE
  ·
   exact out hE
  ·
   exact out hE
  ·
   exact go hE
end
end Mine
end
section
namespace Mine
open PySem PyProof.Rows
section
variable {C:Cx} {fi:Fi} {φ φ':Nat→Addr} {X:List (Addr×Obj)} {σ σ' σ₁ σ₂ σ₃:St} {s s':Shared} {A:Around} {n:Nat} {r:Run} {N:Nat} {v:V} {vs:List V}
set_option tactic.hygienic true in
theorem A2U {a b c:Int} (hc:0 < c):Builtin.Range.rangeSize a b c=(A4j a b c:Nat):=by
 unfold Builtin.Range.rangeSize A4j
 rw [if_pos hc]
 split
 ·
  rename_i hab
  have e:(b - a + c - 1)=(b - a - 1) + c:=by lia
  rw [e,Int.add_ediv_of_dvd_right (Int.dvd_refl c),Int.ediv_self (by lia)]
  have:0≤(b - a - 1) / c:=Int.ediv_nonneg (by lia) (by lia)
  lia
 ·
  rename_i hab
  have:(b - a + c - 1) / c≤0:=by
   have h1:(b - a + c - 1) / c < 1:=Int.ediv_lt_of_lt_mul hc (by lia)
   lia
  lia
theorem A4U {a b c:Int} (ha:a.natAbs < 1000000) (hb:b.natAbs < 1000000) (hc:0 < c) (hc':c < 1000000):Builtin.Range.small a b c=true:=by
 have hs:Builtin.Range.rangeSize a b c≤4000000:=by
  unfold Builtin.Range.rangeSize
  rw [if_pos hc]
  split
  ·
   have:=Int.ediv_le_self c (show (0:Int)≤b - a - 1 by lia)
   lia
  ·
   lia
 have hs0:0≤Builtin.Range.rangeSize a b c:=by rw [A2U hc]; lia
 unfold Builtin.Range.small Builtin.Range.rangeFitsLong
 simp only [Bool.and_eq_true,Bool.or_eq_true,decide_eq_true_eq,beq_iff_eq,if_pos hc]
 refine ⟨⟨⟨⟨⟨?_,?_⟩,?_,?_⟩,?_,?_⟩,?_,?_⟩,.inr ⟨?_,?_⟩⟩ <;> lia
theorem A1K:∀(n:Nat) (a c:Int),(A2a n a c).length=n
 | 0,_,_=>rfl
 | n + 1,a,c=>by show (A2a n (a + c) c).length + 1=_; rw [A1K]
theorem A3X:∀(n:Nat) (a c:Int) (j:Nat) (hj:j < (A2a n a c).length),(A2a n a c)[j]=.int (a + j * c)
 | 0,_,_,j,hj=>nomatch hj
 | n + 1,a,c,0,_=>by show V.int a=_; simp
 | n + 1,a,c,j + 1,hj=>by
  have hj':j < (A2a n (a + c) c).length:=Nat.lt_of_succ_lt_succ hj
  have e:=A3X n (a + c) c j hj'
  show (A2a n (a + c) c)[j]=_
  rw [e]
  congr 1
  push_cast
  rw [Int.add_mul]; lia
theorem A5V {ρ:Nat→List Nat}:∀{l:List V} {xs:List Value},l.length=xs.length→(∀j (h1:j < l.length) (h2:j < xs.length),VR ρ φ n l[j] xs[j])→VRs ρ φ n l xs
 | [],[],_,_=>.nil
 | [],_::_,h,_=>by cases h
 | _::_,[],h,_=>by cases h
 | a::l,b::xs,h,g=>.cons (g 0 (Nat.succ_pos _) (Nat.succ_pos _)) (A5V (Nat.succ.inj h) fun j h1 h2=>g (j + 1) (Nat.succ_lt_succ h1) (Nat.succ_lt_succ h2))
theorem A4V {l:List V} (h:A4I vs=some l):∃a b c,A9G vs=some (a,b,c)∧a.natAbs < 1000000∧b.natAbs < 1000000∧0 < c∧c < 1000000∧l=A2a (A4j a b c) a c:=
 A0p h fun p h1 h=>A1p h fun h2 h=>⟨p.1,p.2.1,p.2.2,h1,h2.1,h2.2.1,h2.2.2.1,h2.2.2.2,(Option.some.inj h).symm⟩
theorem B0Z (O:OkC C) {E:Value→Shared→Prop} {Q:Value→Shared→Prop} {rvs:List Value} {a b c:Int} (h:A9G vs=some (a,b,c)) (hc:0 < c) (hc':c < 1000000) (hv:VRs C.ρ φ n vs rvs)
  (q:∀t u w tk,Q (.ref s.heap.objs.size) { s with heap:=s.heap.push { cls:=.type "range",data:=.fields #[.int a t,.int b u,.int c w] },toks:=tk }):wpAny (MM C) A (call (.type "range") rvs) Q E s:=by
 cases hv with
 | nil=>exact A0a h
 | cons x r=>
 apply i_ok x h; intro a' t h
 cases r with
 | nil=>cases h; exact call_range_1 (q _ _ _ _)
 | cons y r=>
 apply i_ok y h; intro b' u h
 cases r with
 | nil=>cases h; exact call_range_2 (q _ _ _ _)
 | cons z r=>
 apply i_ok z h; intro c' w h
 cases r with
 | nil=>cases h; exact call_range_3 (Int.ne_of_gt hc) (q _ _ _ _) (Or.inl (A4Q ⟨hc,hc'⟩))
 | cons=>exact A0a h
theorem B1a:bootBuiltins ("range" : Str)=some (.type "range"):=by decide +kernel
theorem B2B:bootBuiltins ("list" : Str)=some (.type "list"):=by decide +kernel
theorem A7z:bootBuiltins ("enumerate" : Str)=some (.type "enumerate"):=by decide +kernel
theorem A3Y (O:OkC C) (h:Snd C r N) (hR:Room A (N + 1)) {ex:PySem.Expr} {l:List Mine.E} {k:Nat} (hx:A2D (TrE k fi.cx) fi.cx "range" l ex) (ha:r (.es l) σ=some (.vs vs,σ₁))
  {a b c:Int} (hT:A9G vs=some (a,b,c)) (hc:0 < c) (hc':c < 1000000) {E:Value→Shared→Prop} {Q:Value→Shared→Prop} (I:Inv C fi φ X σ s)
  (q:∀φ' s' ra t u w,Ext φ φ' σ.nx→Inv C fi φ' X σ₁ s'→IsRange s'.heap ra a b c t u w→Q (.ref ra) s'):wpAny (MM C) A (eval ex fi.env) Q E s:=by
 obtain ⟨p,es,pos,rfl,hx,h1⟩:=hx
 refine Call_ ?_
 rw [A0W h1]
 refine A3s I O hx (O.H.free _ rfl) ((O.H.boot _ (by decide)).trans B1a) ?_
 exact B9l (h.es ha hR.dn h1) I fun φ1 s1 rvs e1 I1 v1=>B0Z (vs:=vs) O hT hc hc' v1 fun t u w tk=>
  q φ1 _ _ t u w e1 (I1.keeps O.H (fun _ _ e=>Heap.get?_push_of_some _ e) rfl rfl rfl) (Heap.get?_push_size _ rfl)
theorem A6E (O:OkC C) (h:Snd C r N) {y:PySem.Expr} {p pos:Pos} {l:List Mine.E} {k:Nat} (hE:evE r (.lrange l) σ=some (.v v,σ')) (hR:Room A (N + 1)) (hx:A0I fi.cx "list" = true)
  (h1:A2D (TrE k fi.cx) fi.cx "range" l y):A0C C fi A X σ σ' v (.Call (.Name "list" p) [y] [] pos):=fun φ s E Q I q=>by
 refine A4m hE fun vs σ₁ ha hE=>A0p hE fun l hl hE=>A1p hE fun hlen hE=>?_
 have q:=q.fin (A7v hE)
 refine e3a6 (A4V hl) fun a b c hT b1 b2 b3 b4 e8z=>?_
 subst e8z
 have hne:starEach [y] fi.env=[(false,eval y fi.env)]:=by
  obtain ⟨p,es,pos,rfl,_⟩:=h1; rfl
 refine Call_ ?_
 rw [hne]
 refine A3s I O hx (O.H.free _ rfl) ((O.H.boot _ (by decide)).trans B2B) ?_
 refine PyProof.Rows.callWith_type rfl (Calls.evalArgs_plain (Calls.spliced_cons (A3Y O h hR h1 ha hT b3 b4 I fun φ1 s1 ra t u w e1 I1 hr=>Calls.spliced_nil ?_)))
 rw [A1K] at hlen
 refine call_list_range hR.handled hr (A4U b1 b2 b3 b4) (A2U (a:=a) (b:=b) b3) (by lia) fun h' tk acc c' hk hS hacc=>?_
 have hrel:VRs C.ρ φ1 σ₁.nx (A2a (A4j a b c) a c) acc.toList:=by
  refine A5V (by rw [A1K,Array.length_toList,hacc.1]) fun j h1 h2=>?_
  rw [A3X _ _ _ _ h1]
  obtain ⟨t,ht⟩:=hacc.2 j acc.toList[j] (by simp)
  rw [ht]
  exact .int _ _
 exact A4x (q.step e1 (h.nx _ _ _ _ ha)) (I1.newListAt (s':={ s1 with heap:=h',toks:=tk }) O.H hrel (by rw [A1K]; exact A8L hlen) hk (A0e _) (k:=c') (by simpa using hS) rfl rfl rfl)
theorem B2C (O:OkC C) (h:Snd C r N) {ex:PySem.Expr} {b:Bi} {l:List Mine.E} {k:Nat} (hE:evE r (.bi b l) σ=some (.v v,σ')) (hR:Room A (N + 1)) (hb:b≠.iterRead) (h1:A2D (TrE k fi.cx) fi.cx (A8w b) l ex):A0C C fi A X σ σ' v ex:=fun φ s E Q I q=>by
 refine A4m hE fun vs σ₁ ha hE=>?_
 obtain ⟨p,es,pos,rfl,hx,h1⟩:=h1
 refine e0a3 (B9m hb) fun hnm hfr hboot=>?_
 refine Call_ ?_
 rw [A0W h1]
 refine A3s I O hx (O.H.free _ hfr) ((O.H.boot _ hnm).trans hboot) ?_
 have args:=h.es (X:=X) ha hR.dn h1
 have fin:∀φ1 s1 rvs,Ext φ φ1 σ.nx→Inv C fi φ1 X σ₁ s1→VRs C.ρ φ1 σ₁.nx vs rvs→wpAny (MM C) A (call (B9c b) ([] ++ rvs)) Q E s1:=fun φ1 s1 rvs e1 I1 v1=>
  B0L O.H O.S hR.handled hb (A7v hE) I1 v1 (q.step e1 (h.nx _ _ _ _ ha))
 cases b with
 | int=>exact B9l args I fin
 | iterRead=>exact absurd rfl hb
 | _=>exact C1W args I fin
theorem C3T {f:Nat} {x:Str} (h:A2j f=some x):f≤10∨f=99:=by
 unfold A2j at h
 cases e:Nat.beq f 99 with
 | true=>exact .inr (Nat.eq_of_beq_eq_true e)
 | false=>
  rw [e] at h
  exact .inl (Nat.le_trans (Nat.le_of_lt (List.getElem?_eq_some_iff.mp (A8E (l:=B1Q) h)).1) (by decide))
theorem A8O (O:OkC C) (FO:A0X C) (h:Snd C r N) {x:Str} {ex:PySem.Expr} {f:Nat} {l:List Mine.E} {k:Nat} (hE:evE r (.call f l) σ=some (.v v,σ')) (hR:Room A (N + 1)) (hf:A2j f=some x) (h1:A2D (TrE k fi.cx) fi.cx x l ex):A0C C fi A X σ σ' v ex:=fun φ s E Q I q=>by
 refine A4m hE fun vs σ₁ ha hE=>?_
 obtain ⟨p,es,pos,rfl,hx,h1⟩:=h1
 refine Call_ ?_
 rw [A0W h1]
 refine A1T I O hx (FO.glob f x hf) ?_
 exact A7y (FO.fn f (C3T hf)) (h.es ha hR.dn h1) I fun φ1 s1 rvs e1 I1 v1=>h.app hE hR.dn φ1 s1 E Q rvs I1 v1 (q.step e1 (h.nx _ _ _ _ ha))
end
end Mine
end
section
namespace Mine
open PySem PyProof.Rows PySem.StrLaws PySem.SeqAt PySem.MeetsSeq
section
variable {C:Cx} {fi:Fi} {φ φ':Nat→Addr} {X:List (Addr×Obj)} {σ σ' σ₁ σ₂ σ₃:St} {s s':Shared} {A:Around} {n:Nat} {r:Run} {N:Nat} {v:V} {vs:List V}
theorem A6F (O:OkC C):∀(l:List Nat) (c:Nat),c∈sv C.ρ l→c < symB
 | [],c,h=>nomatch h
 | d::l,c,h=>by
  have h:c∈(if d < symB then [d] else C.ρ (d - symB)) ++ sv C.ρ l:=h
  rcases List.mem_append.mp h with h | h
  ·
   by_cases q:d < symB
   ·
    rw [if_pos q] at h; rw [List.mem_singleton.mp h]; exact q
   ·
    rw [if_neg q] at h; exact O.small _ _ h
  ·
   exact A6F O l c h
theorem C2a {hp:List (Nat×O)} {j:Nat} {k:List Nat→Option (R×St)} {p:R×St} {q:Prop} (h:A7f hp j k=some p) (H:∀src pb ow,hget hp j=some (.tok [] src pb ow)→k src=some p→q):q:=by
 unfold A7f at h
 cases e:hget hp j with
 | none=>rw [e] at h; exact A0a h
 | some o=>
  rw [e] at h
  match o with
  | .tok [] src pb ow=>exact H src pb ow e h
  | .tok (_::_) .. | .list _ | .tup _ | .lex .. | .fit .. | .frz _=>exact A0a h
theorem A7A (O:OkC C) {K:Nat} (L:A2p C K) (h:Snd C r N) {yn zn:Str} {p p1 p2 q' apos pos p3 p4:Pos} {k1 k2:Nat} {ey ez:Mine.E} {k:Nat} (hE:evE r (.lineNe ey ez) σ=some (.v v,σ')) (hR:Room A (N + 1)) (hf:A2f apos pos 1 (.Name zn q')=true)
  (h1:TrE k fi.cx ey (.Name yn p)) (h2:TrE k fi.cx ez (.Name zn q'))
  {φ:Nat→Addr} {s:Shared} {E:Value→Shared→Prop} {KQ:Value→Value→Shared→Prop} (I:Inv C fi φ X σ s) (q:v=.bool false→σ.nx≤σ'.nx→∀φ' s' i t u,Ext φ φ' σ.nx→Inv C fi φ' X σ' s'→KQ (.int i t) (.int i u) s'):
  wpAny (MM C) A (eval (.Attribute (.Name yn p) "lineno" p1) fi.env) (fun x s₁=>wpAny (MM C) A (eval (.BinOp (.Constant (.int 1) k1 p2) .Add (.Call (.Attribute (.Name zn q') "count" apos) [.Constant (.str "\n") k2 p4] [] pos) p3) fi.env) (fun y s₂=>KQ x y s₂) E s₁) E s:=by
 refine Attribute_name (h.ev hR hE h1 I fun va σ₁ φ1 s1 r1 n1 hE e1' I1 v1=>?_)
 apply r_ok v1 hE; intro j hj hE
 refine C2a hE fun src pb ow hg hE=>L.line hg I1 fun tk s1 I1=>wpAny_BinOp (wpAny_Constant_int ?_)
 refine A4T hf (fun _=>rfl) (h.ev hR hE h2 (I1.toks O.H (s1.toks + 1)) fun vb σ₂ φ2 s2 r2 n2 hE e2 I2 v2 pl=>?_)
 apply s_ok v2 hE; intro x u hx hE
 refine A1D hE fun hs hF=>?_
 have e3:=Prod.mk.inj (Option.some.inj (A4t hF))
 have hs:x=src:=by rw [A9M] at hs; exact beq_iff_eq.mp hs
 subst hs
 have hn:=Nat.le_trans n1 n2
 rw [e3.2] at n2 hn I2
 refine B0c (m:=.count) (l:=x) (hp:=[]) rfl ?_
 refine Calls.callWith_builtin (A1S _ _) (A0y (Calls.spliced_cons (wpAny_Constant_str (Calls.spliced_nil ?_))))
 have e1:A0b C.ρ x=A0b C.ρ (sv C.ρ x):=by
  unfold A0b
  rw [A2H C.ρ (A6F O x)]
 have hsafe:A0F (sv C.ρ x) [10]=true:=by
  unfold A0F
  have:(sv C.ρ x).all (fun c=>Nat.blt c symB)=true:=List.all_eq_true.mpr fun c hc=>Nat.ble_eq_true_of_le (A6F O x c hc)
  rw [this]
  rfl
 refine SC.count ?_
 rw [e1,show ("\n" : Str)=A0b C.ρ [10] from rfl,A7q O.S hsafe]
 have I3:=(I2.toks O.H (s2.toks + 1)).toks O.H (s2.toks + 1 + 1)
 refine A9T (b:=.add) (σ:=σ') (σ':=σ') (a:=.int 1) (c:=.int (A0w 10 (sv C.ρ x))) (v:=.int (1 + A0w 10 (sv C.ρ x))) O.H rfl I3 (.int _ _) (.int _ _) fun φ3 s3 r3 e3' I4 v4=>?_
 cases v4 with
 | int _ t4=>exact q e3.1.symm hn φ3 s3 _ tk t4 ((e1'.trans e2 n1).trans e3' hn) I4
theorem B2D (O:OkC C) (hR:Room A (N + 1)) {i:Int} {t u:Tok} (I:Inv C fi φ X σ s) {E:Value→Shared→Prop} {Q:Value→Shared→Prop} (q:Post C fi φ X σ σ (.bool false) Q):wpAny (MM C) A (compareOp .NotEq (.int i t) (.int i u)) Q E s:=
 A6B O.H O.S (k:=.ne) (a:=.int i) (c:=.int i) (b:=false) (congrArg some (show (!decide (i=i))=false by rw [decide_eq_true rfl]; rfl)) I hR.cl (.int _ _) (.int _ _) q
theorem A8P (O:OkC C) {K:Nat} (L:A2p C K) (h:Snd C r N) {yn zn:Str} {p p1 p2 q' apos pos p3 p4 p5:Pos} {k1 k2:Nat} {ey ez:Mine.E} {k:Nat} (hE:evE r (.lineNe ey ez) σ=some (.v v,σ')) (hR:Room A (N + 1)) (hf:A2f apos pos 1 (.Name zn q')=true)
  (h1:TrE k fi.cx ey (.Name yn p)) (h2:TrE k fi.cx ez (.Name zn q')):
  A0C C fi A X σ σ' v (.Compare (.Attribute (.Name yn p) "lineno" p1) [.NotEq] [.BinOp (.Constant (.int 1) k1 p2) .Add (.Call (.Attribute (.Name zn q') "count" apos) [.Constant (.str "\n") k2 p4] [] pos) p3] p5):=fun φ s E Q I q=>
 wpAny_Compare1 (A7A (X:=X) O L h hE hR hf h1 h2 I fun ev n1 φ' s' i t u e I'=>B2D O hR I' (ev▸q.step e n1)) rfl
theorem A8Q (O:OkC C) {K:Nat} (L:A2p C K) (h:Snd C r N) {yn zn:Str} {p p1 p2 q' apos pos p3 p4 p5:Pos} {k1 k2:Nat} {ey ez:Mine.E} {k:Nat} {c:Bool} (hE:evE r (.lineNe ey ez) σ=some (.v v,σ')) (hc:A4H σ'.hp v=some c) (hR:Room A (N + 1)) (hf:A2f apos pos 1 (.Name zn q')=true)
  (h1:TrE k fi.cx ey (.Name yn p)) (h2:TrE k fi.cx ez (.Name zn q')):
  A5T C fi A X σ σ' c (.Compare (.Attribute (.Name yn p) "lineno" p1) [.NotEq] [.BinOp (.Constant (.int 1) k1 p2) .Add (.Call (.Attribute (.Name zn q') "count" apos) [.Constant (.str "\n") k2 p4] [] pos) p3] p5):=fun φ s E Q I q=>
 wpAny_isTrue_Compare1 (A7A (X:=X) O L h hE hR hf h1 h2 I fun ev n1 φ' s' i t u e I'=>B2D O hR I' fun φ3 s3 r3 e3 I3 v3=>A2y O.H O.S O.pos hc I3 (ev.symm▸v3) ((q.step e n1).step e3 (Nat.le_refl _))) rfl
end
end Mine
end
section
namespace Mine
open PySem PyProof.Rows
section
variable {C:Cx} {fi:Fi} {φ φ':Nat→Addr} {X:List (Addr×Obj)} {σ σ' σ₁ σ₂ σ₃:St} {s s':Shared} {A:Around} {n:Nat} {r:Run} {N:Nat} {v:V} {vs:List V}
theorem A8R (O:OkC C) {K:Nat} (L:A2p C K) (h:Snd C r N) {y:Str} {p p2 p3 p4 pos:Pos} {k2:Nat} {eo:Mine.E} {k:Nat} (hE:evE r (.iter eo) σ=some (.v v,σ')) (hR:Room A (N + 1)) (h5:K≤N + 1) (hg:A0I fi.cx "iter" = true) (h1:TrE k fi.cx eo (.Name y p2)):
  A0C C fi A X σ σ' v (.Call (.Name "iter" p) [.Attribute (.Name y p2) "_read_char" p3,.Constant (.str "") k2 p4] [] pos):=fun φ s E Q I q=>
 A1R hE fun o σ₁ ha hE=>L.iter hg (hR.mono h5) (h.e ha hR.dn h1) (h.nx _ _ _ _ ha) (A7v hE) I q
theorem C2b (O:OkC C) {K:Nat} (L:A2p C K) (FO:A0X C) (h:Snd C r N) (hc:B8j C r N) {k:Nat} {ex:PySem.Expr} {e:Mine.E} (hE:evE r e σ=some (.v v,σ')) (hR:Room A (N + 1)) (h5:K≤N + 1) (ht:TrE k fi.cx e ex):A0C C fi A X σ σ' v ex:=by
 have nm:∀{e:Mine.E},evE r e σ=some (.v v,σ')→NmX fi.cx e ex→A0C C fi A X σ σ' v ex:=fun hE ⟨x,p,e1,hn⟩=>e1▸fun φ s E Q I q=>A1s O hn hE I q
 cases k with
 | zero=>exact ht.elim
 | succ k=>cases e with
  | lit w=>exact ht.2.elim (fun ⟨c,d,p,e1,hc⟩=>e1▸fun φ s E Q I q=>C1O O hc I (q.fin (A4t hE))) (nm hE)
  | loc i=>exact nm hE ht.2
  | cel i=>exact nm hE ht.2
  | bin op a b=>exact C3M ht.2 fun x y p h1 h2=>B0Q O h hE hR h1 h2
  | neg a=>exact y_un ht.2 fun x p h1=>B0R O h hE hR h1
  | not_ a=>exact y_un ht.2 fun x p h1=>B0S O h hE hR h1
  | bool i es=>exact B7V ht.2 fun x p h1 φ s E Q I q=>h.bs hE hR.dn h1 φ s E Q p I q
  | cmp op a b=>exact C1m ht.2 fun x y p hm h1 h2=>B0T O h hE hR hm h1 h2
  | idx o i=>exact C3N ht.2 fun x y p hm h1 h2=>B0U O h hE hR hm h1 h2
  | sli o l u=>exact C3O ht.2 fun x lo up p p' h1 h2 h3=>B0V O h hE hR h1 h2 h3
  | lst es=>exact C3P ht.2 fun x p h1=>B0W O h hE hR h1
  | tup es=>exact C3Q ht.2 fun x d p h1=>B0X O h hE hR h1
  | call f es=>exact ht.2.elim fun x h1=>A8O O FO h hE hR h1.1 h1.2
  | bi b es=>exact B2C O h hE hR ht.2.1 ht.2.2
  | meth m o es=>exact C1n ht.2 fun x xs p q h1 h2 h3=>A8N O L FO h hE hR h5 h1 h2 h3
  | attr m o=>exact C1o ht.2 fun x p p' h1=>A8M O L h hE hR h1
  | lrange es=>exact B4I ht.2 fun p y q h1 h2=>A6E O h hE hR h1 h2
  | iter o=>exact C1p ht.2 fun y p p2 p3 p4 k q h1 h2=>A8R O L h hE hR h5 h1 h2
  | ife t a b=>exact C3R ht.2 fun x y z p h1 h2 h3=>B0Y O h hE hR h1 h2 h3
  | lineNe o t=>exact B7W ht.2 fun yn zn p p1 p2 q a p0 p3 k1 k2 p4 p5 h1 h2 h3=>A8P O L h hE hR h1 h2 h3
  | comp elt m tg kk es ifs gens=>
   refine e7a2 (id ht.2) fun x tx it ifx gx sc p e7z _=>?_
   subst e7z
   exact hc hE hR ht
end
end Mine
end
section
namespace Mine
open PySem PyProof.Rows
section
variable {C:Cx} {fi:Fi} {φ φ':Nat→Addr} {X:List (Addr×Obj)} {σ σ' σ₁ σ₂ σ₃:St} {s s':Shared} {A:Around} {n:Nat} {r:Run} {N:Nat} {v:V} {vs:List V}
inductive FR (ρ:Nat→List Nat) (φ:Nat→Addr) (n:Nat):Fl→Flow→Prop
 | next:FR ρ φ n .next .next
 | brk:FR ρ φ n .brk .brk
 | cont:FR ρ φ n .cont .cont
 | ret {v:V} {rv:Value}:VR ρ φ n v rv→FR ρ φ n (.ret v) (.ret rv)
noncomputable def A4u (C:Cx) (fi:Fi) (φ:Nat→Addr) (X:List (Addr×Obj)) (σ σ':St) (f:Fl) (Q:Flow→Shared→Prop):Prop:=
 ∀φ' s' rf,Ext φ φ' σ.nx→Inv C fi φ' X σ' s'→FR C.ρ φ' σ'.nx f rf→Q rf s'
theorem A4u.step {f:Fl} {Q:Flow→Shared→Prop} (q:A4u C fi φ X σ σ₂ f Q) (e:Ext φ φ' σ.nx) (hn:σ.nx≤σ₁.nx):A4u C fi φ' X σ₁ σ₂ f Q:=
 fun φ₂ s₂ rv e₂ I r=>q φ₂ s₂ rv (e.trans e₂ hn) I r
noncomputable def A1b (C:Cx) (fi:Fi) (A:Around) (X:List (Addr×Obj)) (σ σ':St) (f:Fl) (st:PySem.Stmt):Prop:=∀φ s E Q,Inv C fi φ X σ s→A4u C fi φ X σ σ' f Q→wpAny (MM C) A (exec st fi.env) Q E s
noncomputable def B2E (C:Cx) (fi:Fi) (A:Around) (X:List (Addr×Obj)) (σ σ':St) (f:Fl) (l:List PySem.Stmt):Prop:=∀φ s E Q,Inv C fi φ X σ s→A4u C fi φ X σ σ' f Q→wpAny (MM C) A (execs l fi.env) Q E s
noncomputable def A8S (C:Cx) (fi:Fi) (φ:Nat→Addr) (X:List (Addr×Obj)) (σ':St) (Q:Unit→Shared→Prop):Prop:=∀s',Inv C fi φ X σ' s'→Q () s'
theorem A8T (I:Inv C fi φ X σ s) (m:Nat) (v:V):Inv C fi φ X (tidy σ m v) s:=by
 have sub:∀(hp:List (Nat×O)) (m i:Nat),(A0Z hp m i).Sublist hp:=by
  intro hp m i
  induction hp with
  | nil=>exact .slnil
  | cons p r ih=>
   unfold A0Z
   split
   ·
    exact List.Sublist.refl _
   ·
    split
    ·
     exact .cons_cons _ ih
    ·
     exact .cons _ ih
 match v with
 | .ref i=>
  unfold tidy
  dsimp only
  split
  ·
   split
   ·
    exact I
   ·
    exact I.drop (sub _ _ _)
  ·
   exact I
 | .unb | .none | .bool _ | .int _ | .str _=>exact I.drop (sub _ _ _)
theorem A6G (O:OkC C) {k:Nat} {te:PySem.Expr} {tg:Tg} (ht:TrT k fi.cx tg te) {v:V} {rv:Value} (h:A0K tg v σ=some σ') (I:Inv C fi φ X σ s) (hv:VR C.ρ φ σ.nx v rv) {E:Value→Shared→Prop} {Q:Unit→Shared→Prop}
  (q:A8S C fi φ X σ' Q):wpAny (MM C) A (PySem.assign te fi.env rv) Q E s:=by
 match k,tg with
 | 0,_=>exact ht.elim
 | k + 1,.loc i=>obtain ⟨x,p,rfl,hn⟩:=ht; exact wpAny_assign_Name (A0Q O hn h I hv q)
 | k + 1,.cel i=>obtain ⟨x,p,rfl,hn⟩:=ht; exact wpAny_assign_Name (A0Q O hn h I hv q)
 | k + 1,.tup _=>exact A0a h
theorem A4W (O:OkC C) {k:Nat}:∀{tes:List PySem.Expr} {tgs:List Tg} {vs:List V} {rvs:List Value} {σ σ':St} {s:Shared},All2 (TrT k fi.cx) tgs tes→assignEach tgs vs σ=some σ'→Inv C fi φ X σ s→VRs C.ρ φ σ.nx vs rvs→∀{E:Value→Shared→Prop} {Q:Unit→Shared→Prop},
  A8S C fi φ X σ' Q→wpAny (MM C) A (assignInOrder (tes.map fun t=>PySem.assign t fi.env) rvs) Q E s
 | tes,[],vs,rvs,σ,σ',s,h1,h2,I,hv,E,Q,q=>by
  rw [show tes=[] from h1]
  cases vs with
  | nil=>obtain rfl:=Option.some.inj h2; exact wpAny_pure (q s I)
  | cons=>exact A0a h2
 | tes,tg::tgs,vs,rvs,σ,σ',s,⟨te,rest,e1,t1,t2⟩,h2,I,hv,E,Q,q=>by
  rw [e1]
  cases hv with
  | nil=>exact A0a h2
  | cons a b=>exact A0p h2 fun σ₁ h3 h2=>wpAny_bind (wpAny_holding (A6G O t1 h3 I a fun s₁ I₁=>A4W O t2 h2 I₁ (by rw [(A0B h3).1]; exact b) q))
theorem B2F {k:Nat} {c:Ctx} {env:Env} {te:PySem.Expr} {tg:Tg} (h:TrT k c tg te) (rest:List PySem.Expr):PySem.assignEach (te::rest) env=(false,PySem.assign te env)::PySem.assignEach rest env:=by
 match k,tg with
 | 0,_=>exact h.elim
 | k + 1,.loc i=>obtain ⟨x,p,rfl,_⟩:=h; rfl
 | k + 1,.cel i=>obtain ⟨x,p,rfl,_⟩:=h; rfl
 | k + 1,.tup _=>obtain ⟨x,d,p,rfl,_⟩:=h; rfl
theorem A0D {k:Nat} {c:Ctx} {env:Env}:∀{tes:List PySem.Expr} {tgs:List Tg},All2 (TrT k c) tgs tes→PySem.assignEach tes env=tes.map fun t=>(false,PySem.assign t env)
 | _,[],h=>by rw [show _=[] from h]; rfl
 | _,_::_,⟨te,rest,e1,t1,t2⟩=>by rw [e1,B2F t1,A0D t2]; rfl
theorem A0P:∀{ts:List Tg} {vs:List V} {σ σ':St},Mine.assignEach ts vs σ=some σ'→ts.length=vs.length
 | [],[],_,_,_=>rfl
 | [],_::_,_,_,h=>A0a h
 | _::_,[],_,_,h=>A0a h
 | t::ts,v::vs,σ,σ',h=>A0p h fun σ₁ _ h=>congrArg (· + 1) (A0P h)
theorem A3t {α β:Type} {R:α→β→Prop}:∀{t:List α} {l:List β},All2 R t l→l.length=t.length
 | [],l,h=>by rw [show l=[] from h]; rfl
 | y::t,l,⟨_,_,e1,_,h2⟩=>by rw [e1]; exact congrArg (· + 1) (A3t h2)
theorem B0e {hp:List (Nat×O)} {j:Nat} {xs:List V} {q:Prop} (h:items hp j=some xs) (H:hget hp j=some (.tup xs)→q):q:=by
 unfold items at h
 cases e:hget hp j with
 | none=>rw [e] at h; exact A0a h
 | some o=>
  rw [e] at h
  cases o with
  | tup ys=>exact H (Option.some.inj h▸e)
  | tok | list _ | lex | fit | frz _=>exact A0a h
theorem B0f (O:OkC C) (hh:A.handled=none) {k:Nat} {te:PySem.Expr} {tg:Tg} (ht:TrT k fi.cx tg te) {v:V} {rv:Value} (h:Mine.assign tg v σ=some σ') (I:Inv C fi φ X σ s) (hv:VR C.ρ φ σ.nx v rv) {E:Value→Shared→Prop} {Q:Unit→Shared→Prop}
  (q:A8S C fi φ X σ' Q):wpAny (MM C) A (PySem.assign te fi.env rv) Q E s:=by
 match k,tg with
 | 0,_=>exact ht.elim
 | k + 1,.loc i=>exact A6G O ht h I hv q
 | k + 1,.cel i=>exact A6G O ht h I hv q
 | k + 1,.tup ts=>
  refine e3a2 ht fun tes d p e3z h1=>?_
  subst e3z
  apply r_ok hv h; intro j hj h
  refine A0p h fun xs hi h=>B0e hi fun hg=>?_
  refine e2a3 (I.get hg) fun ws kk g1 r1 l1=>?_
  have hpl:=A0D (env:=fi.env) h1
  refine assign_Tuple_tuple hh ⟨_,g1,rfl,kk,rfl⟩ ?_ ?_ fun h' he=>?_
  ·
   rw [hpl,List.length_map,A3t h1,A0P h,List.size_toArray,r1.length]
  ·
   rw [hpl,List.findIdx?_eq_none_iff]
   intro x hx
   refine e1a2 (List.mem_map.mp hx) fun t _ e2z=>?_
   subst e2z
   rfl
  ·
   rw [hpl,List.map_map]
   exact A4W O h1 h (I.keeps (s':={ s with heap:=h' }) O.H (fun b ob e=>he b ob (Nat.ne_of_lt (Heap.lt_size e)) e) rfl rfl rfl) r1 q
end
end Mine
end
section
namespace Mine
open PySem PyProof.Rows
section
variable {M:Model} {prog:Program} {w:World} {A:Around} {s:Shared} {R:Result→Shared→Prop}
theorem A7B {test:PySem.Expr} {body:List PySem.Stmt} {env:Env}
  (h:∀E,wpAny (model prog w) A (PySem.isTrue test env (eval test env)) (fun b s₂=>if b then wpAny (model prog w) A (execs body env) (fun f s₃=>match f with
   | .next | .cont=>codeAny (model prog w) A (.whileLoop test body [] env) R s₃
   | .brk=>R (.ok .next) s₃
   | .ret v=>R (.ok (.ret v)) s₃) E s₂ else R (.ok .next) s₂) E s):codeAny (model prog w) A (.whileLoop test body [] env) R s:=by
 refine codeAny_of_tree ?_
 show wpAny _ A ((whileTurn test body [] env).onRaise (fun x=>do noteFrame x env; theTreesLotGoes x)) _ _ s
 refine wpAny_noted ?_
 simp only [whileTurn]
 refine wpAny_bind (wpAny_mono (h _) (fun b s₂ h₂=>?_) fun _ _ h'=>h')
 cases b with
 | false=>
  simp only [Bool.false_eq_true,if_false] at h₂ ⊢
  exact wpAny_bind (wpAny_execs_nil (wpAny_pure h₂))
 | true=>
  simp only [if_true] at h₂ ⊢
  refine wpAny_bind (wpAny_mono h₂ (fun f s₃ h₃=>?_) fun _ _ h'=>h')
  cases f with
  | next=>exact wpAny_pure ⟨rfl,h₃⟩
  | cont=>exact wpAny_pure ⟨rfl,h₃⟩
  | brk=>exact wpAny_pure h₃
  | ret v=>exact wpAny_pure h₃
noncomputable def A8U (G:Prop) (Z:Flow→Prop) (rf:Flow):Prop:=match rf with
 | .next | .cont=>G
 | .brk=>Z .next
 | .ret v=>Z (.ret v)
noncomputable def C2c (C:Cx) (A:Around) (R:Result→Shared→Prop) (target:PySem.Expr) (it:Value) (body:List PySem.Stmt) (env:Env) (f:Flow) (s:Shared):Prop:=A8U (codeAny (MM C) A (.forLoop target it body [] env) R s) (fun rf=>R (.ok rf) s) f
noncomputable def B9q (C:Cx) (A:Around) (R:Result→Shared→Prop) (target:PySem.Expr) (it:Value) (body:List PySem.Stmt) (env:Env) (E:Value→Shared→Prop) (_:Unit) (s:Shared):Prop:=wpAny (MM C) A (execs body env) (C2c C A R target it body env) E s
noncomputable def B8k (C:Cx) (A:Around) (R:Result→Shared→Prop) (target:PySem.Expr) (it:Value) (body:List PySem.Stmt) (env:Env) (E:Value→Shared→Prop) (v:Value) (s:Shared):Prop:=wpAny (MM C) A (PySem.assign target env v) (B9q C A R target it body env E) E s
noncomputable def B9r (C:Cx) (A:Around) (R:Result→Shared→Prop) (target:PySem.Expr) (it:Value) (body:List PySem.Stmt) (env:Env) (E:Value→Shared→Prop) (r:Option Value) (s:Shared):Prop:=match r with
 | none=>R (.ok .next) s
 | some v=>wpAny (MM C) A (letOwnedTupleGo target it v) (fun _ s=>B8k C A R target it body env E v s) E s
theorem A1L {C:Cx} {target:PySem.Expr} {it:Value} {body:List PySem.Stmt} {env:Env} (h:∀E,wpAny (MM C) A (pyNext it) (B9r C A R target it body env E) E s):codeAny (MM C) A (.forLoop target it body [] env) R s:=by
 refine codeAny_of_tree ?_
 show wpAny _ A ((forTurn target it body [] env).onRaise (fun x=>do noteFrame x env; theTreesLotGoes x)) _ _ s
 refine wpAny_noted ?_
 simp only [forTurn]
 refine wpAny_bind (wpAny_standAt (wpAny_bind (wpAny_onRaise (wpAny_mono (h _) (fun r s₁ h₁=>?_) fun _ _ h'=>wpAny_standAt h'))))
 cases r with
 | none=>exact wpAny_pure ⟨rfl,codeAny_block (wpAny_execs_nil h₁)⟩
 | some v=>
  refine wpAny_bind (wpAny_mono (h₁:wpAny _ _ _ _ _ _) (fun _ s₁' h₁'=>?_) fun _ _ h'=>h')
  refine wpAny_bind (wpAny_mono (h₁':wpAny _ _ _ _ _ _) (fun _ s₂ h₂=>wpAny_bind (wpAny_mono (h₂:wpAny _ _ _ _ _ _) (fun f s₃ h₃=>?_) fun _ _ h'=>h')) fun _ _ h'=>h')
  cases f with
  | next=>exact wpAny_pure ⟨rfl,h₃⟩
  | cont=>exact wpAny_pure ⟨rfl,h₃⟩
  | brk=>exact wpAny_pure h₃
  | ret v=>exact wpAny_pure h₃
end
structure A4X (C:Cx) (A:Around) (target:PySem.Expr) (I:Addr) (fp wr:List Addr) (n:Nat) (P:Nat→Value→Prop) (St:Nat→Heap→Prop):Prop where
 sub:∀b∈wr,b∈fp
 live:∀i h,St i h→∀b∈fp,∃o,h.get? b=some o
 frame:∀i h h',St i h→(∀b∈fp,∀o,h.get? b=some o→h'.get? b=some o)→St i h'
 item:∀i (s:Shared) (Q:Value→Shared→Prop) (E:Value→Shared→Prop),i < n→St i s.heap→
  (∀v h' tk,P i v→St (i + 1) h'→(∀b o,b∉wr→s.heap.get? b=some o→h'.get? b=some o)→Q v { s with heap:=h',toks:=tk })→
  wpAny (MM C) A (pyNext (.ref I)) (fun r s₁=>match r with | none=>False | some v=>wpAny (MM C) A (letOwnedTupleGo target (.ref I) v) (fun _ s₂=>Q v s₂) E s₁) E s
 done:∀(s:Shared) (Q:Shared→Prop) (E:Value→Shared→Prop),St n s.heap→
  (∀h' tk,(∀b o,b∉wr→s.heap.get? b=some o→h'.get? b=some o)→Q { s with heap:=h',toks:=tk })→wpAny (MM C) A (pyNext (.ref I)) (fun r s₁=>match r with | none=>Q s₁ | some _=>False) E s
 self:∀i (s:Shared) (Q:Value→Shared→Prop) (E:Value→Shared→Prop),St i s.heap→Q (.ref I) s→wpAny (MM C) A (pyIter (.ref I)) Q E s
section
variable {C:Cx} {fi:Fi} {φ φ':Nat→Addr} {X:List (Addr×Obj)} {σ σ' σ₁ σ₂ σ₃:St} {s s':Shared} {A:Around} {n:Nat} {r:Run} {N:Nat} {v:V} {vs:List V}
theorem A4z {k:Nat} {c:Ctx} {te:PySem.Expr} {tg:Tg} (ht:TrT k c tg te) {I:Addr} {v:Value} {E:Value→Shared→Prop} {Q:Unit→Shared→Prop} (h:∀a,v=.ref a→∀ts d p,wpAny (MM C) A (letOwnedTupleGo (.Tuple ts d p) (.ref I) (.ref a)) Q E s) (h':∀u,Q u s):wpAny (MM C) A (letOwnedTupleGo te (.ref I) v) Q E s:=by
 match k,tg with
 | 0,_=>exact ht.elim
 | k + 1,.loc i=>obtain ⟨x,p,rfl,_⟩:=ht; exact wpAny_pure (h' _)
 | k + 1,.cel i=>obtain ⟨x,p,rfl,_⟩:=ht; exact wpAny_pure (h' _)
 | k + 1,.tup _=>
  refine e3a2 ht fun xs d p e3z _=>?_
  subst e3z
  cases v with
  | ref a=>exact h a rfl xs d p
  | _=>exact wpAny_pure (h' _)
theorem A4X.list (hh:A.handled=none) {k:Nat} {c:Ctx} {te:PySem.Expr} {tg:Tg} (ht:TrT k c tg te) (I ax:Addr) (hne:ax≠I) (items:Array Value):
  A4X C A te I [I,ax] [I] items.size (fun i v=>items[i]?=some v) (fun i h=>h.IsListIter I ax i∧h.IsList ax items):=by
 have W:=Walks.list (prog:=C.prog) (w:=C.w) hh I ax hne items
 exact {
  sub:=W.sub,frame:=W.frame
  live:=fun i h st b hb=>by
   rcases List.mem_cons.mp hb with rfl | hb
   ·
    obtain ⟨o,ho,_⟩:=st.1; exact ⟨o,ho⟩
   ·
    rcases List.mem_cons.mp hb with rfl | hb
    ·
     obtain ⟨o,ho,_⟩:=st.2; exact ⟨o,ho⟩
    ·
     cases hb
  item:=fun i s Q E hi st hQ=>W.item i s _ E hi st fun v h' tk hP st' hk=>by
   have fin:=hQ v h' tk hP st' hk
   exact A4z ht (fun a e=>by subst e; exact fun ts d p=>wpAny_letOwnedTupleGo_listiter st'.1 fin) (fun _=>fin)
  done:=fun s Q E st hQ=>W.done s _ E st fun h' tk hk=>hQ h' tk hk
  self:=W.self }
theorem A4X.range (hh:A.handled=none) {k:Nat} {c:Ctx} {te:PySem.Expr} {tg:Tg} (ht:TrT k c tg te) (I:Addr) (a c':Int) (n:Nat):
  A4X C A te I [I] [I] n (fun i v=>∃t,v=.int (a + i * c') t) (fun i h=>IsRangeIter h I (a + (i:Nat) * c') ((n:Int) - (i:Nat)) c'):=by
 have W:=Walks.range (prog:=C.prog) (w:=C.w) hh I a c' n
 exact {
  sub:=W.sub,frame:=W.frame
  live:=fun i h st b hb=>by
   rcases List.mem_cons.mp hb with rfl | hb
   ·
    exact ⟨_,st⟩
   ·
    cases hb
  item:=fun i s Q E hi st hQ=>W.item i s _ E hi st fun v h' tk hP st' hk=>by
   have fin:=hQ v h' tk hP st' hk
   exact A4z ht (fun a e=>by obtain ⟨t,ht⟩:=hP; exact nomatch ht.symm.trans e) (fun _=>fin)
  done:=fun s Q E st hQ=>W.done s _ E st fun h' tk hk=>hQ h' tk hk
  self:=W.self }
noncomputable def A5A (C:Cx) (fi:Fi) (φ:Nat→Addr) (X:List (Addr×Obj)) (σ σ':St) (f:Fl) (R:Result→Shared→Prop):Prop:=
 ∀φ' s' rf,Ext φ φ' σ.nx→Inv C fi φ' X σ' s'→FR C.ρ φ' σ'.nx f rf→R (.ok rf) s'
theorem A5A.step {f:Fl} {Q:Result→Shared→Prop} (q:A5A C fi φ X σ σ₂ f Q) (e:Ext φ φ' σ.nx) (hn:σ.nx≤σ₁.nx):A5A C fi φ' X σ₁ σ₂ f Q:=
 fun φ₂ s₂ rv e₂ I r=>q φ₂ s₂ rv (e.trans e₂ hn) I r
noncomputable def B8l (C:Cx) (fi:Fi) (A:Around) (X:List (Addr×Obj)) (σ σ':St) (f:Fl) (test:PySem.Expr) (body:List PySem.Stmt):Prop:=∀φ s R,Inv C fi φ X σ s→A5A C fi φ X σ σ' f R→codeAny (MM C) A (.whileLoop test body [] fi.env) R s
noncomputable def FpOk (C:Cx) (fi:Fi) (φ:Nat→Addr) (X:List (Addr×Obj)) (σ:St) (fp wr:List Addr):Prop:=
 (∀b∈fp,C.h₀.get? b=none∧(∀i∈A0c σ.hp,φ i≠b)∧b∉fi.env.locals::fi.cad)∧∀b∈wr,b∉fi.ads X
noncomputable def A3u (C:Cx) (fi:Fi) (A:Around) (X:List (Addr×Obj)) (σ σ':St) (f:Fl) (l:List V) (target:PySem.Expr) (body:List PySem.Stmt):Prop:=
 ∀φ s R I fp wr n P St i,A4X C A target I fp wr n P St→St i s.heap→i + l.length=n→(∀j v (hj:j < l.length),P (i + j) v→VR C.ρ φ σ.nx l[j] v)→FpOk C fi φ X σ fp wr→Inv C fi φ X σ s→
  A5A C fi φ X σ σ' f R→codeAny (MM C) A (.forLoop target (.ref I) body [] fi.env) R s
structure Snd2 (C:Cx) (r:Run) (N:Nat):Prop extends Snd C r N where
 s:∀{σ σ':St} {f:Fl} {t:S} {fi:Fi} {A:Around} {X:List (Addr×Obj)} {k:Nat} {st:PySem.Stmt},r (.s t) σ=some (.f f,σ')→Room A N→TrS k fi.cx t st→A1b C fi A X σ σ' f st
 ss:∀{σ σ':St} {f:Fl} {t:List S} {fi:Fi} {A:Around} {X:List (Addr×Obj)} {k:Nat} {l:List PySem.Stmt},r (.ss t) σ=some (.f f,σ')→Room A N→TrSS k fi.cx t l→B2E C fi A X σ σ' f l
 whl:∀{σ σ':St} {f:Fl} {e:Mine.E} {t:List S} {fi:Fi} {A:Around} {X:List (Addr×Obj)} {k k':Nat} {ex:PySem.Expr} {l:List PySem.Stmt},r (.whl e t) σ=some (.f f,σ')→Room A N→TrE k fi.cx e ex→TrSS k' fi.cx t l→B8l C fi A X σ σ' f ex l
 for_:∀{σ σ':St} {f:Fl} {tg:Tg} {t:List S} {xs:List V} {fi:Fi} {A:Around} {X:List (Addr×Obj)} {k k':Nat} {te:PySem.Expr} {l:List PySem.Stmt},r (.for_ tg t xs) σ=some (.f f,σ')→Room A N→TrT k fi.cx tg te→TrSS k' fi.cx t l→A3u C fi A X σ σ' f xs te l
theorem Inv.hold (I:Inv C fi φ X σ s) {Y:List (Addr×Obj)} (hY:∀p∈Y,C.h₀.get? p.1=none∧s.heap.get? p.1=some p.2∧(∀i∈A0c σ.hp,φ i≠p.1)∧p.1∉fi.env.locals::fi.cad):Inv C fi φ (Y ++ X) σ s where
 keep:=I.keep
 inj:=I.inj
 live:=I.live
 env:=I.env
 ids:=I.ids
 low:=I.low
 nd:=I.nd
 off:=fun a ha=>by
  unfold Fi.ads at ha
  rw [List.map_append,List.mem_append,List.mem_append] at ha
  rcases ha with ha | ha | ha
  ·
   exact I.off a (by unfold Fi.ads; exact List.mem_append_left _ ha)
  ·
   refine e1a2 (List.mem_map.mp ha) fun p hp e2z=>?_
   subst e2z
   exact ⟨(hY p hp).1,(hY p hp).2.2.1⟩
  ·
   exact I.off a (by unfold Fi.ads; exact List.mem_append_right _ ha)
 apart:=fun a ha hm=>by
  rw [List.map_append,List.mem_append] at hm
  rcases hm with hm | hm
  ·
   refine e1a2 (List.mem_map.mp hm) fun p hp e2z=>?_
   subst e2z
   exact (hY p hp).2.2.2 ha
  ·
   exact I.apart a ha hm
 loc:=I.loc
 cel:=I.cel
 hp:=I.hp
 xs:=fun p hp=>by
  rcases List.mem_append.mp hp with hp | hp
  ·
   exact (hY p hp).2.1
  ·
   exact I.xs p hp
 gens:=I.gens
 drawn:=I.drawn
 os:=I.os
theorem Inv.loose {Y:List (Addr×Obj)} (I:Inv C fi φ (Y ++ X) σ s):Inv C fi φ X σ s where
 keep:=I.keep
 inj:=I.inj
 live:=I.live
 env:=I.env
 ids:=I.ids
 low:=I.low
 nd:=I.nd
 off:=fun a ha=>I.off a (by
  unfold Fi.ads at ha ⊢
  rw [List.map_append]
  rcases List.mem_append.mp ha with ha | ha
  ·
   exact List.mem_append_left _ ha
  ·
   exact List.mem_append_right _ (List.mem_append_right _ ha))
 apart:=fun a ha hm=>I.apart a ha (by rw [List.map_append]; exact List.mem_append_right _ hm)
 loc:=I.loc
 cel:=I.cel
 hp:=I.hp
 xs:=fun p hp=>I.xs p (List.mem_append_right _ hp)
 gens:=I.gens
 drawn:=I.drawn
 os:=I.os
theorem A4Y {fp:List Addr} (h:∀b∈fp,∃o,s.heap.get? b=some o):∃Y:List (Addr×Obj),Y.map (·.1)=fp∧∀p∈Y,s.heap.get? p.1=some p.2:=by
 induction fp with
 | nil=>exact ⟨[],rfl,fun p hp=>nomatch hp⟩
 | cons b fp ih=>
  obtain ⟨o,ho⟩:=h b (.head _)
  refine e1a2 (ih fun b hb=>h b (.tail _ hb)) fun Y h1 h2=>?_
  refine ⟨(b,o)::Y,by rw [List.map_cons,h1],fun p hp=>?_⟩
  rcases List.mem_cons.mp hp with rfl | hp
  ·
   exact ho
  ·
   exact h2 p hp
theorem A2q {o:Option (R×St)} {K:St→Option (R×St)} {p:R×St} {q:Prop} (h:A1k r o K=some p) (H:∀f₁ σ₂,o=some (.f f₁,σ₂)→A1k r (some (.f f₁,σ₂)) K=some p→q):q:=by
 match o with
 | some (.f f₁,σ₂)=>exact H f₁ σ₂ rfl h
 | none | some (.v _,_) | some (.vs _,_) | some (.b _,_)=>exact A0a h
theorem v_no {v:V} {f:Fl} {σ τ:St} {q:Prop} (h:some (R.v v,σ)=some (R.f f,τ)):q:=nomatch h
theorem C3U {v:List V} {f:Fl} {σ τ:St} {q:Prop} (h:some (R.vs v,σ)=some (R.f f,τ)):q:=nomatch h
theorem b_no {v:Bool} {f:Fl} {σ τ:St} {q:Prop} (h:some (R.b v,σ)=some (R.f f,τ)):q:=nomatch h
theorem A3v {K:St→Option (R×St)} {f₁ f:Fl} {rf:Flow} {G:Prop} {Z:Flow→Prop} (hE:A1k r (some (.f f₁,σ₂)) K=some (.f f,σ')) (fr:FR C.ρ φ σ₂.nx f₁ rf) (again:K σ₂=some (.f f,σ')→G) (out:σ₂=σ'→∀rf,FR C.ρ φ σ'.nx f rf→Z rf):A8U G Z rf:=by
 cases fr with
 | next=>exact again hE
 | cont=>exact again hE
 | brk=>cases hE; exact out rfl _ .next
 | ret hv=>cases hE; exact out rfl _ (.ret hv)
structure Less (τ σ:St):Prop where
 nx:τ.nx=σ.nx
 loc:∀k v,nth τ.loc k=some v→v≠.unb→nth σ.loc k=some v
 cel:∀k v,nth τ.cel k=some v→v≠.unb→nth σ.cel k=some v
 hp:τ.hp.Sublist σ.hp
theorem A4Z {l:List V} {i k:Nat} {v:V} (h:nth (lset l i .unb) k=some v) (n:v≠.unb):nth l k=some v:=(A3o l i k .unb v h).elim (fun e=>absurd e.2 n) fun e=>e.2
theorem Inv.less (I:Inv C fi φ X σ s) {τ:St} (L:Less τ σ):Inv C fi φ X τ s:=by
 obtain ⟨loc,cel,hp,nx⟩:=τ
 obtain ⟨rfl,hl,hc,hs⟩:=L
 have J:=I.drop hs
 exact { J with
  loc:=by
   refine e1a2 I.loc fun m hm h=>?_
   exact ⟨m,hm,fun x k v h1 h2 h3=>h x k v h1 (hl k v h2 h3) h3⟩
  cel:=fun k a h=>by
   obtain ⟨o,cv,h1,h2,h3⟩:=I.cel k a h
   exact ⟨o,cv,h1,h2,fun v h4 h5=>h3 v (hc k v h4 h5) h5⟩ }
noncomputable def C2d (C:Cx) (fi:Fi) (A:Around) (X:List (Addr×Obj)) (σ σ':St) (f f₁:Fl) (xs:List V) (te:PySem.Expr) (l:List PySem.Stmt):Prop:=
 ∀φ s R I fp wr n P St i rf,A4X C A te I fp wr n P St→St i s.heap→i + xs.length=n→(∀j v (hj:j < xs.length),P (i + j) v→VR C.ρ φ σ.nx xs[j] v)→FpOk C fi φ X σ fp wr→Inv C fi φ X σ s→
  A5A C fi φ X σ σ' f R→FR C.ρ φ σ.nx f₁ rf→A8U (codeAny (MM C) A (.forLoop te (.ref I) l [] fi.env) R s) (fun rf=>R (.ok rf) s) rf
theorem B0g (O:OkC C) (h:Snd2 C r N) {f f₁:Fl} {tg:Tg} {t:List S} {x:V} {xs:List V} {k k':Nat} {te:PySem.Expr} {l:List PySem.Stmt} (ha:Mine.assign tg x σ=some σ₁) (hb:r (.ss t) σ₁=some (.f f₁,σ₂)) (hR:Room A (N + 1)) (h1:TrT k fi.cx tg te) (h2:TrSS k' fi.cx t l)
  (fin:C2d C fi A X σ₂ σ' f f₁ xs te l):A3u C fi A X σ σ' f (x::xs) te l:=by
 intro φ s R I fp wr n P St i W hst hn hP hfp Iv q
 have hwr:∀b∈wr,C.h₀.get? b=none∧(∀j∈A0c σ.hp,φ j≠b)∧b∉fi.ads X:=fun b hb=>let z:=hfp.1 b (W.sub b hb); ⟨z.1,z.2.1,hfp.2 b hb⟩
 refine A1L fun E=>?_
 have hanx:=(A1J ha).1
 have n3:σ.nx≤σ₂.nx:=hanx▸h.nx _ _ _ _ hb
 have hn1:i + 1 + xs.length=n:=(Nat.succ_add_eq_add_succ i xs.length).trans hn
 refine wpAny_mono (W.item i s (B8k C A R te (.ref I) l fi.env E) E (Nat.lt_of_lt_of_le (Nat.lt_of_lt_of_le (Nat.lt_succ_self i) (Nat.le_add_right _ _)) (Nat.le_of_eq hn1)) hst fun v h' tk hPv hst' hk=>?_) (fun o s₁ h₁=>?_) fun _ _ e=>e
 ·
  have I1:Inv C fi φ X σ { s with heap:=h',toks:=tk }:=Iv.keepsBut O.H wr hwr hk rfl rfl rfl
  refine e1a2 (A4Y (s:={ s with heap:=h',toks:=tk }) (W.live _ _ hst')) fun Y hY1 hY2=>?_
  have inY:∀b∈fp,∃p∈Y,p.1=b:=fun b hb=>List.mem_map.mp (hY1▸hb)
  have I2:Inv C fi φ (Y ++ X) σ { s with heap:=h',toks:=tk }:=I1.hold fun p hp=>
   have z:=hfp.1 p.1 (hY1▸List.mem_map_of_mem hp)
   ⟨z.1,hY2 p hp,z.2.1,z.2.2⟩
  refine B0f O hR.handled h1 ha I2 (hP 0 v (Nat.succ_pos _) hPv) fun s₂ I3=>h.ss (X:=Y ++ X) hb hR.dn h2 φ s₂ E _ I3 fun φ' s₃ rf e3 I4 fr=>?_
  have e3':Ext φ φ' σ.nx:=hanx▸e3
  have q:=q.step e3' n3
  have st3:St (i + 1) s₃.heap:=W.frame _ _ _ hst' fun b hb o e=>(inY b hb).elim fun p hp=>by
   obtain ⟨hp,rfl⟩:=hp
   rw [Option.some.inj (e.symm.trans (hY2 p hp))]
   exact I4.xs p (List.mem_append_left _ hp)
  refine fin φ' s₃ R I fp wr n P St (i + 1) rf W st3 hn1 (fun j v hj hp=>VR.ext (hP (j + 1) v (Nat.succ_lt_succ hj) (Nat.succ_add_eq_add_succ i j▸hp)) e3' n3) ⟨fun b hb=>?_,hfp.2⟩ I4.loose q fr
  have z:=hfp.1 b hb
  refine ⟨z.1,?_,z.2.2⟩
  refine e1a2 (inY b hb) fun p hp e2z=>?_
  subst e2z
  exact (I4.off p.1 (I4.xIn (List.mem_append_left _ hp))).2
 ·
  cases o with
  | none=>exact h₁.elim
  | some v=>exact h₁
theorem B5j (O:OkC C) (h:Snd2 C r N) {FT:List Fn} {f:Fl} {tg:Tg} {t:List S} {xs:List V} {k k':Nat} {te:PySem.Expr} {l:List PySem.Stmt} (hE:step FT r (.for_ tg t xs) σ=some (.f f,σ')) (hR:Room A (N + 1)) (h1:TrT k fi.cx tg te) (h2:TrSS k' fi.cx t l):
  A3u C fi A X σ σ' f xs te l:=by
 cases xs with
 | nil=>
  intro φ s R I fp wr n P St i W hst hn hP hfp Iv q
  have hwr:∀b∈wr,C.h₀.get? b=none∧(∀j∈A0c σ.hp,φ j≠b)∧b∉fi.ads X:=fun b hb=>let z:=hfp.1 b (W.sub b hb); ⟨z.1,z.2.1,hfp.2 b hb⟩
  refine A1L fun E=>?_
  have hE:=B0O hE
  have e:=Prod.mk.inj (Option.some.inj hE)
  have hin:i=n:=hn
  subst hin
  refine wpAny_mono (W.done s (fun s₁=>R (.ok .next) s₁) E hst fun h' tk hk=>?_) (fun o s₁ h₁=>?_) fun _ _ e=>e
  ·
   rw [←e.1,←e.2] at q
   exact q φ _ _ (Ext.refl _ _) (Iv.keepsBut O.H wr hwr hk rfl rfl rfl) .next
  ·
   cases o with
   | none=>exact h₁
   | some v=>exact h₁.elim
 | cons x xs=>
  refine A0p hE fun σ₁ ha hE=>A2q hE fun f₁ σ₂ hb hE=>?_
  exact B0g O h ha hb hR h1 h2 fun φ' s₃ R I fp wr n P St i rf W st hn hP hfp I4 q fr=>A3v (Z:=fun rf=>R (.ok rf) s₃) hE fr (fun hE=>h.for_ hE hR.dn h1 h2 φ' s₃ R I fp wr n P St i W st hn hP hfp I4 q) fun e rf fr=>q φ' s₃ rf (Ext.refl _ _) (e▸I4) fr
theorem B5k (O:OkC C) (h:Snd2 C r N) {f:Fl} {tg:Tg} {t:List S} {x:V} {xs:List V} {k k':Nat} {te:PySem.Expr} {l:List PySem.Stmt} {τ:St} (ha:Mine.assign tg x σ=some σ₁) (hb:r (.ss t) σ₁=some (.f .next,σ₂)) (L:Less τ σ₂) (hR:Room A (N + 1)) (h1:TrT k fi.cx tg te) (h2:TrSS k' fi.cx t l)
  (M:A3u C fi A X τ σ' f xs te l):A3u C fi A X σ σ' f (x::xs) te l:=
 B0g O h ha hb hR h1 h2 fun φ' s₃ R I fp wr n P St i rf W st hn hP hfp I4 q fr=>by
  cases fr
  have I5:=I4.less L
  obtain ⟨loc,cel,hp,nx⟩:=τ
  obtain ⟨rfl,_,_,hs⟩:=L
  exact M φ' s₃ R I fp wr n P St i W st hn hP ⟨fun b hb=>⟨(hfp.1 b hb).1,fun j hj=>(hfp.1 b hb).2.1 j ((A3i hs).subset hj),(hfp.1 b hb).2.2⟩,hfp.2⟩ I5 q
theorem B5l (O:OkC C) (h:Snd2 C r N) {FT:List Fn} {f:Fl} {e:Mine.E} {t:List S} {k k':Nat} {ex:PySem.Expr} {l:List PySem.Stmt} (hE:step FT r (.whl e t) σ=some (.f f,σ')) (hR:Room A (N + 1)) (h1:TrE k fi.cx e ex) (h2:TrSS k' fi.cx t l):
  B8l C fi A X σ σ' f ex l:=by
 intro φ s R Iv q
 refine A4S hE fun c σ₁ ha hE=>A7B fun E=>h.t ha hR.dn h1 φ s E _ Iv fun φ1 s1 e1 I1=>?_
 have q:=q.step e1 (h.nx _ _ _ _ ha)
 cases c with
 | false=>exact (show σ₁=σ'∧Fl.next=f by cases hE; exact ⟨rfl,rfl⟩).elim fun e1 e2=>by subst e1 e2; exact q φ1 s1 _ (Ext.refl _ _) I1 .next
 | true=>
  refine A2q hE fun f₁ σ₂ hb hE=>h.ss hb hR.dn h2 φ1 s1 E _ I1 fun φ2 s2 rf e2 I2 fr=>?_
  have q:=q.step e2 (h.nx _ _ _ _ hb)
  exact A3v (Z:=fun rf=>R (.ok rf) s2) hE fr (fun hE=>h.whl hE hR.dn h1 h2 φ2 s2 R I2 q) fun e rf fr=>q φ2 s2 rf (Ext.refl _ _) (e▸I2) fr
theorem B9s (h:Snd2 C r N) {FT:List Fn} {f:Fl} {t:List S} {k:Nat} {l:List PySem.Stmt} (hE:step FT r (.ss t) σ=some (.f f,σ')) (hR:Room A (N + 1)) (h1:TrSS k fi.cx t l):B2E C fi A X σ σ' f l:=by
 intro φ s E Q Iv q
 cases t with
 | nil=>
  cases hE
  rw [show l=[] from h1]
  exact wpAny_execs_nil (q φ s _ (Ext.refl _ _) Iv .next)
 | cons t1 t2=>
  refine e2a3 h1 fun st rest el h2 h3=>?_
  rw [el]
  cases ha:r (.s t1) σ with
  | none=>rw [show step FT r (.ss (t1::t2)) σ=(match r (.s t1) σ with
    | some (.f .next,σ)=>r (.ss t2) σ
    | x=>x) from rfl,ha] at hE; exact A0a hE
  | some x=>
   rw [show step FT r (.ss (t1::t2)) σ=(match r (.s t1) σ with
    | some (.f .next,σ)=>r (.ss t2) σ
    | x=>x) from rfl,ha] at hE
   have out:∀{f₁:Fl},f₁≠.next→some (R.f f₁,x.2)=some (.f f,σ')→r (.s t1) σ=some (.f f₁,x.2)→wpAny (MM C) A (execs (st::rest) fi.env) Q E s:=fun {f₁} hne hE ha=>by
    have e:=Prod.mk.inj (Option.some.inj (B0O hE))
    rw [←e.1,←e.2] at q
    refine wpAny_execs_cons (h.s ha hR.dn h2 φ s E _ Iv fun φ1 s1 rf e1 I1 fr=>?_)
    have z:=q φ1 s1 rf e1 I1 fr
    cases fr with
    | next=>exact absurd rfl hne
    | _=>exact z
   match x with
   | (.f .next,σ₁)=>exact wpAny_execs_cons (h.s ha hR.dn h2 φ s E _ Iv fun φ1 s1 rf e1 I1 fr=>by
     cases fr
     exact h.ss hE hR.dn h3 φ1 s1 E Q I1 (q.step e1 (h.nx _ _ _ _ ha)))
   | (.f .brk,σ₁)=>exact out (f₁:=.brk) (fun e=>nomatch e) hE ha
   | (.f .cont,σ₁)=>exact out (f₁:=.cont) (fun e=>nomatch e) hE ha
   | (.f (.ret v),σ₁)=>exact out (f₁:=.ret v) (fun e=>nomatch e) hE ha
   | (.v _,_)=>exact v_no hE
   | (.vs _,_)=>exact C3U hE
   | (.b _,_)=>exact b_no hE
end
end Mine
end
section
namespace Mine
open PySem PyProof.Rows
section
variable {C:Cx} {fi:Fi} {φ φ':Nat→Addr} {X:List (Addr×Obj)} {σ σ' σ₁ σ₂ σ₃:St} {s s':Shared} {A:Around} {n:Nat} {r:Run} {N:Nat} {v:V} {vs:List V}
theorem A7C (h:A2E fi):fi.env.blockKind=.function:=by
 unfold Env.blockKind
 rw [h.kind]; rfl
theorem B5m (h:A2E fi):interactive fi.env=false:=by
 unfold interactive
 rw [h.kind]; rfl
noncomputable def A6H (C:Cx) (r:Run) (N:Nat):Prop:=∀{σ σ₁ σ₂:St} {v:V} {e:Mine.E} {fi:Fi} {A:Around} {X:List (Addr×Obj)} {k:Nat} {elt:PySem.Expr} {gens:List Comprehension} {sc:Scope} {p:Pos} {φ:Nat→Addr} {s:Shared} {E:Value→Shared→Prop} {Q:Unit→Shared→Prop} {use:Value→Sem Unit},
 r (.e e) σ=some (.v v,σ₁)→Room A N→TrE k fi.cx e (.ListComp elt gens sc p)→Inv C fi φ X σ s→σ₂.nx=σ₁.nx→
 (∀X' φ' s' rv E Q,Inv C fi φ' X' σ₁ s'→VR C.ρ φ' σ₁.nx v rv→A8S C fi φ' X' σ₂ Q→wpAny (MM C) A (use rv) Q E s')→
 (∀φ' s',Ext φ φ' σ.nx→Inv C fi φ' X σ₂ s'→Q () s')→wpAny (MM C) A (evalThenUse (.ListComp elt gens sc p) fi.env use) Q E s
noncomputable def B8m (C:Cx) (r:Run) (N:Nat):Prop:=∀{σ σ':St} {f:Fl} {tg:Tg} {kd:ItK} {es:List Mine.E} {b:List S} {fi:Fi} {A:Around} {X:List (Addr×Obj)} {k k':Nat} {te it:PySem.Expr} {body:List PySem.Stmt} {p:Pos},
 kd=.fit∨kd=.gen∨kd=.enum→evS r (.for_ tg kd es b) σ=some (.f f,σ')→Room A N→TrT k fi.cx tg te→TrI (TrE k fi.cx) fi.cx kd es it→TrSS k' fi.cx b body→A1b C fi A X σ σ' f (.For te it body [] p)
theorem B2G {k:Nat} {c:Ctx} {x:Str} {p:Pos} {tg:Tg} (h:TrT k c tg (.Name x p)):TgN c tg x:=by
 match k,tg with
 | 0,_=>exact h.elim
 | k + 1,.loc i=>obtain ⟨y,p',e,hn⟩:=h; cases e; exact hn
 | k + 1,.cel i=>obtain ⟨y,p',e,hn⟩:=h; cases e; exact hn
 | k + 1,.tup _=>obtain ⟨_,_,_,e,_⟩:=h; exact nomatch e
theorem A2V {c:Ctx} {x:Str} {tg:Tg} (h:TgN c tg x) (v:V) (σ:St):Mine.assign tg v σ=A0K tg v σ:=by
 cases tg with
 | loc _=>rfl
 | cel _=>rfl
 | tup _=>exact h.elim
theorem A4u.fin {τ:St} {f g:Fl} {Q:Flow→Shared→Prop} (h:some (R.f g,τ)=some (R.f f,σ')) (q:A4u C fi φ X σ σ' f Q):A4u C fi φ X σ τ g Q:=B8c (p:=fun g τ=>A4u C fi φ X σ τ g Q) (B0O h) q
theorem A4u.tidy {Q:Flow→Shared→Prop} {m:Nat} {w:V} (q:A4u C fi φ X σ (Mine.tidy σ' m w) .next Q):∀φ' s',Ext φ φ' σ.nx→Inv C fi φ' X σ' s'→Q .next s':=
 fun φ' s' e I=>q φ' s' _ e (A8T I m w) .next
theorem A5W (O:OkC C) (h:Snd2 C r N) {x:Str} {p pos:Pos} {value:PySem.Expr} {tg:Tg} {e:Mine.E} {k:Nat} {Q:Flow→Shared→Prop} {E:Value→Shared→Prop} (ht:TgN fi.cx tg x) (hv:TrE k fi.cx e value) (ha:r (.e e) σ=some (.v v,σ₁)) (hR:Room A N) (hs:A0K tg v σ₁=some σ₂) (Iv:Inv C fi φ X σ s)
  (q:∀φ' s',Ext φ φ' σ.nx→Inv C fi φ' X σ₂ s'→Q .next s') (hsw:swapsWith value (some (.Name x p)) pos.line fi.env=pure false):wpAny (MM C) A (exec (.Assign [.Name x p] value pos) fi.env) Q E s:=
 wpAny_Assign_Name ((h.e ha hR hv).then Iv fun φ1 s1 r1 e1 I1 v1=>A0Q O ht hs I1 v1 fun s2 I2=>q φ1 s2 e1 I2) hsw
theorem A5a {value:PySem.Expr} (h:kX value < 6) (t:Option PySem.Expr) (n:Nat) (env:Env):swapsWith value t n env=pure false:=by
 cases value with
 | ListComp=>exact absurd h (Nat.not_lt.mpr (Nat.le_of_ble_eq_true rfl))
 | SetComp=>exact absurd h (Nat.not_lt.mpr (Nat.le_of_ble_eq_true rfl))
 | DictComp=>exact absurd h (Nat.not_lt.mpr (Nat.le_of_ble_eq_true rfl))
 | _=>rfl
theorem B2H:∀{k:Nat} {c:Ctx} {e:Mine.E} {ex:PySem.Expr},TrE k c e ex→kX ex=kE e
 | 0,_,_,_,h=>h.elim
 | _ + 1,_,_,_,h=>h.1
theorem A8V {k:Nat} {c:Ctx} {e:Mine.E} {value:PySem.Expr} (h:TrE k c e value):kX value < 6∨∃elt gens sc p,value=.ListComp elt gens sc p:=by
 have hk:=B2H h
 cases e with
 | comp=>match k with
  | 0=>exact h.elim
  | k + 1=>obtain ⟨x,tx,it,ifx,gx,sc,p,rfl,_⟩:=h.2; exact .inr ⟨_,_,_,_,rfl⟩
 | bool | not_ _ | neg _ | cmp | lineNe | ife | tup _ | lit _ | loc _ | cel _ | bin | idx | sli | lst _ | call | bi | meth | attr | lrange _ | iter _=>exact .inl (by rw [hk]; exact Nat.le_of_ble_eq_true rfl)
theorem B2I (O:OkC C) (h:Snd2 C r N) (hu:A6H C r N) {x:Str} {p pos:Pos} {value:PySem.Expr} {tg:Tg} {e:Mine.E} {k:Nat} {f:Fl} (hE:evS r (.asg [tg] e) σ=some (.f f,σ')) (hR:Room A N) (ht:TgN fi.cx tg x) (hv:TrE k fi.cx e value):
  A1b C fi A X σ σ' f (.Assign [.Name x p] value pos):=fun φ s E Q Iv q=>by
 refine A1R hE fun v σ₁ ha hE=>A0p hE fun σ₂ hs hE=>A0p hs fun σ₃ h3 hs=>?_
 rw [A2V ht] at h3
 obtain rfl:=Option.some.inj hs
 have q':∀φ' s',Ext φ φ' σ.nx→Inv C fi φ' X σ₃ s'→Q .next s':=(q.fin hE).tidy
 refine (A8V hv).elim (fun hc=>A5W O h ht hv ha hR h3 Iv q' (A5a hc _ _ _)) fun ⟨elt,gens,sc,p',e1⟩=>?_
 subst e1
 have key:∃b:Bool,swapsWith (.ListComp elt gens sc p') (some (.Name x p)) pos.line fi.env=pure b:=⟨_,rfl⟩
 obtain ⟨b,hb⟩:=key
 cases b with
 | false=>exact A5W O h ht hv ha hR h3 Iv q' hb
 | true=>
  rw [exec_Assign]
  refine wpAny_bind (wpAny_standAt ?_)
  show wpAny _ _ (swapsWith (.ListComp elt gens sc p') (some (.Name x p)) pos.line fi.env >>= _) _ _ _
  rw [hb]
  refine wpAny_bind (wpAny_pure ?_)
  rw [if_pos rfl]
  exact wpAny_bind (hu (k:=k) ha hR hv Iv (A0B h3).1 (fun X' φ1 s1 rv E Q I1 v1 q1=>wpAny_assign_Name (A0Q O ht h3 I1 v1 q1)) fun φ2 s2 e2 I2=>wpAny_pure (q' φ2 s2 e2 I2))
theorem B2J (O:OkC C) (h:Snd2 C r N) {x y:Str} {p p' pos:Pos} {value:PySem.Expr} {tg tg':Tg} {e:Mine.E} {k:Nat} {f:Fl} (hE:evS r (.asg [tg,tg'] e) σ=some (.f f,σ')) (hR:Room A N) (ht:TgN fi.cx tg x) (ht':TgN fi.cx tg' y) (hv:TrE k fi.cx e value):
  A1b C fi A X σ σ' f (.Assign [.Name x p,.Name y p'] value pos):=fun φ s E Q Iv q=>by
 refine A1R hE fun v σ₁ ha hE=>A0p hE fun σ₂ hs hE=>A0p hs fun σ₃ h3 hs=>A0p hs fun σ₄ h4 hs=>?_
 rw [A2V ht] at h3
 rw [A2V ht'] at h4
 obtain rfl:=Option.some.inj hs
 exact wpAny_Assign_two ((h.e ha hR hv).then Iv fun φ1 s1 r1 e1 I1 v1=>wpAny_assign_Name (A0Q O ht h3 I1 v1 fun s2 I2=>wpAny_assign_Name (A0Q O ht' h4 I2 (by rw [(A0B h3).1]; exact v1) fun s3 I3=>(q.fin hE).tidy φ1 s3 e1 I3)))
end
end Mine
end
section
namespace Mine
open PySem PyProof.Rows
section
variable {C:Cx} {fi:Fi} {φ φ':Nat→Addr} {X:List (Addr×Obj)} {σ σ' σ₁ σ₂ σ₃:St} {s s':Shared} {A:Around} {n:Nat} {r:Run} {N:Nat} {v:V} {vs:List V}
noncomputable def A5b (env:Env) (line:Nat) (ts:List PySem.Expr):List Str:=ts.filterMap fun t=>match t with
 | .Name id pos=>if env.kindOf id == some .local && pos.line == line then some id else none
 | _=>none
theorem A7D {k:Nat} {c:Ctx} {tg:Tg} {t:PySem.Expr} (h:TrT k c tg t):(∃y p,t=.Name y p∧(c.names.lookup y=some .local∨c.names.lookup y=some .cell))∨∃k' l xs d p,t=.Tuple xs d p∧All2 (TrT k' c) l xs:=by
 cases k with
 | zero=>exact h.elim
 | succ k=>cases tg with
  | loc i=>exact .inl (h.imp fun _=>Exists.imp fun _ h=>⟨h.1,.inl h.2.1⟩)
  | cel i=>exact .inl (h.imp fun _=>Exists.imp fun _ h=>⟨h.1,.inr h.2.1⟩)
  | tup l=>exact .inr ⟨k,l,h⟩
theorem B1b {α β:Type} {R:α→β→Prop} {t:List α}:∀{l:List β},All2 R t l→∀y∈l,∃x,R x y:=by
 induction t with
 | nil=>intro l h; rw [show l=[] from h]; exact nofun
 | cons x t ih=>
  intro l h
  refine e2a3 h fun y r e h1 h2=>?_
  rw [e]
  exact List.forall_mem_cons.mpr ⟨⟨x,h1⟩,ih h2⟩
theorem B5n {α β:Type} {f g:α→Option β}:∀{l:List α},(∀x∈l,f x=g x)→l.filterMap f=l.filterMap g:=by
 intro l
 induction l with
 | nil=>exact fun _=>rfl
 | cons x l ih=>
  intro h
  have h:=List.forall_mem_cons.mp h
  rw [List.filterMap_cons,List.filterMap_cons,h.1,ih h.2]
theorem A7E (he:A2E fi) {k:Nat} (line:Nat) {ts:List PySem.Expr} {tgs:List Tg} (h:All2 (TrT k fi.cx) tgs ts):A5b fi.env line ts=A2k fi.cx line ts:=by
 refine B5n fun t ht=>?_
 obtain ⟨tg,h⟩:=B1b h t ht
 rcases A7D h with ⟨y,p,rfl,hk⟩ | ⟨_,_,_,_,_,rfl,_⟩
 ·
  show (if (fi.env.kindOf y == some .local && p.line == line)=true then some y else none)=(if (true && (fi.cx.names.lookup y == some .local && p.line == line))=true then some y else none)
  rw [Bool.true_and]
  rcases hk with h | h
  ·
   rw [he.loc _ h,h]
  ·
   rw [he.celk _ h,h]
 ·
  rfl
theorem B2K {α β:Type} {c:Prop} [i:Decidable c] {a b:Option α} {x y:β} {o:α} {P:β→Prop} (h:(if c then a else b)=some o) (H:a=some o→P x) (H':b=some o→P y):P (if c then x else y):=by
 cases i with
 | isTrue hc=>exact H h
 | isFalse hc=>exact H' h
theorem A8W (he:A2E fi) {k k':Nat} {ts vs:List PySem.Expr} {tgs:List Tg} {d d':Nat} {p p':Pos} {l:List Mine.E} {o:Option (List Str)} (h1:All2 (TrT k fi.cx) tgs ts) (hl:TrL (TrE k' fi.cx) l vs) (h2:A3O fi.cx ts (.Tuple vs d' p')=some o):
  swappedStores [.Tuple ts d p] (.Tuple vs d' p') fi.env=pure o:=by
 have hstar:(vs.any fun | .Starred ..=>true | _=>false)=false:=by
  rw [List.any_eq_false]
  intro x hx
  have:=B2x hl x hx
  cases x with
  | Starred=>exact noft this
  | _=>exact Bool.false_ne_true
 have e1:swappedStores [.Tuple ts d p] (.Tuple vs d' p') fi.env=(if (!(ts.length == 2 || ts.length == 3) || vs.length != ts.length || fi.env.blockKind != .function)=true then pure none
   else if (vs.any fun | .Starred ..=>true | _=>false)=true then pure none
   else if ((A5b fi.env ((ts.head?.map (·.pos.line)).getD 0) ts).length != ts.length || (A5b fi.env ((ts.head?.map (·.pos.line)).getD 0) ts).eraseDups.length != (A5b fi.env ((ts.head?.map (·.pos.line)).getD 0) ts).length)=true then pure none
   else if vs.all (foldedForSure 8)=true then pure none
   else (do
    if vs.all (constantsAlone 8)=true then unsupported "assign.tuple-of-constant-expressions:order-of-the-stores"
    return some (A5b fi.env ((ts.head?.map (·.pos.line)).getD 0) ts))):=rfl
 rw [e1,A7C he,A7E he _ h1,hstar,show (ScopeKind.function != ScopeKind.function)=false from rfl,Bool.or_false,if_neg Bool.false_ne_true]
 refine B2K (P:=(·=pure o)) h2 (fun h=>congrArg pure (Option.some.inj h)) fun h2=>B2K (P:=(·=pure o)) h2 (fun h=>congrArg pure (Option.some.inj h)) fun h2=>B2K (P:=(·=pure o)) h2 (fun h=>congrArg pure (Option.some.inj h)) fun h2=>?_
 have h2:(if vs.all (constantsAlone 8)=true then none else some (some (A2k fi.cx ((ts.head?.map (·.pos.line)).getD 0) ts)))=some o:=h2
 cases q:vs.all (constantsAlone 8) with
 | true=>rw [if_pos q] at h2; exact A0a h2
 | false=>
  rw [if_neg (by rw [q]; exact Bool.false_ne_true)] at h2
  rw [if_neg Bool.false_ne_true]
  exact congrArg pure (Option.some.inj h2)
theorem C3V {a b:Nat} (h:a≠b):Nat.beq a b=false:=Bool.eq_false_iff.mpr fun e=>h (Nat.eq_of_beq_eq_true e)
theorem B1c {c:Ctx} {ts:List PySem.Expr} {d:Nat} {p:Pos} {value:PySem.Expr} {o:Option (List Str)} {env:Env} (h:kX value≠5) (h2:A3O c ts value=some o):swappedStores [.Tuple ts d p] value env=pure o:=by
 have e:some none=some o:=by
  unfold A3O at h2
  rw [C3V h] at h2
  exact h2
 rw [←Option.some.inj e]
 cases value with
 | Tuple=>exact absurd rfl h
 | _=>rfl
theorem A3Z (he:A2E fi) {k k':Nat} {ts:List PySem.Expr} {tgs:List Tg} {d:Nat} {p:Pos} {value:PySem.Expr} {e:Mine.E} {o:Option (List Str)} (h1:All2 (TrT k fi.cx) tgs ts) (hv:TrE k' fi.cx e value) (h2:A3O fi.cx ts value=some o):
  swappedStores [.Tuple ts d p] value fi.env=pure o:=by
 have hk:=B2H hv
 cases e with
 | tup es=>match k' with
  | 0=>exact hv.elim
  | k' + 1=>obtain ⟨vs,d',p',rfl,hl⟩:=hv.2; exact A8W he h1 hl h2
 | bool | not_ _ | neg _ | cmp | lineNe | ife | comp | lit _ | loc _ | cel _ | bin | idx | sli | lst _ | call | bi | meth | attr | lrange _ | iter _=>exact B1c (by rw [hk]; exact Nat.ne_of_beq_eq_false rfl) h2
theorem C2e {α β:Type} {f:α→Option β} {g:α→β} {P:α→Prop} (hf:∀t y,f t=some y→g t=y∧P t):∀{ts:List α},(ts.filterMap f).length=ts.length→ts.map g=ts.filterMap f∧∀t∈ts,P t:=by
 intro ts
 induction ts with
 | nil=>exact fun _=>⟨rfl,nofun⟩
 | cons t ts ih=>
  intro h
  rw [List.filterMap_cons] at h ⊢
  cases e:f t with
  | none=>rw [e] at h; exact absurd ((h:(ts.filterMap f).length=_)▸List.length_filterMap_le f ts) (Nat.not_succ_le_self _)
  | some y=>
   rw [e] at h
   have i:=ih (Nat.succ.inj h)
   have j:=hf t y e
   exact ⟨by rw [List.map_cons,j.1,i.1],List.forall_mem_cons.mpr ⟨j.2,i.2⟩⟩
theorem A5B (c:Ctx) (line:Nat) {ts:List PySem.Expr}:(A2k c line ts).length=ts.length→ts.map Ac.nm=A2k c line ts∧∀t∈ts,Ac.isNm t=true:=
 C2e fun t y h=>A1p h fun hb h=>⟨Option.some.inj h,(both hb).1⟩
theorem B5o {α β:Type} {R:α→β→Prop} {t':List α} {l':List β} (h':All2 R t' l') {t:List α}:∀{l:List β},All2 R t l→All2 R (t ++ t') (l ++ l'):=by
 induction t with
 | nil=>intro l h; rw [show l=[] from h]; exact h'
 | cons x t ih=>
  intro l h
  refine e2a3 h fun y r e h1 h2=>?_
  exact ⟨y,r ++ l',by rw [e]; rfl,h1,ih h2⟩
theorem A7F {α β:Type} {R:α→β→Prop} {t:List α}:∀{l:List β},All2 R t l→All2 R t.reverse l.reverse:=by
 induction t with
 | nil=>intro l h; rw [show l=[] from h]; rfl
 | cons x t ih=>
  intro l h
  refine e2a3 h fun y r e h1 h2=>?_
  rw [e,List.reverse_cons,List.reverse_cons]
  exact B5o (t':=[x]) (l':=[y]) ⟨y,[],rfl,h1,rfl⟩ (ih h2)
theorem A8X {ρ:Nat→List Nat} {l:List V} {xs:List Value} (h:VRs ρ φ n l xs):VRs ρ φ n l.reverse xs.reverse:=by
 induction h with
 | nil=>exact .nil
 | cons a b ih=>rw [List.reverse_cons,List.reverse_cons]; exact ih.append (.cons a .nil)
theorem A4a {ts:List PySem.Expr} {d:Nat} {p pos:Pos} {value:PySem.Expr} {env:Env} {e:Mine.E} {k:Nat} {c:Ctx} (hv:TrE k c e value):swapsWithSole [.Tuple ts d p] value pos.line env=pure false:=
 (A8V hv).elim (fun h=>show swapsWith value (some (.Tuple ts d p)) pos.line env=pure false from A5a h _ _ _) fun ⟨_,_,_,_,e⟩=>e▸rfl
theorem B2L (O:OkC C) (h:Snd2 C r N) {ts:List PySem.Expr} {d:Nat} {p pos:Pos} {value:PySem.Expr} {tg:Tg} {e:Mine.E} {k k':Nat} {f:Fl} (hE:evS r (.asg [tg] e) σ=some (.f f,σ')) (hR:Room A N) (ht:TrT k fi.cx tg (.Tuple ts d p)) (hv:TrE k' fi.cx e value) (hsw:A3O fi.cx ts value=some none):
  A1b C fi A X σ σ' f (.Assign [.Tuple ts d p] value pos):=fun φ s E Q Iv q=>by
 refine A1R hE fun v σ₁ ha hE=>A0p hE fun σ₂ hs hE=>A0p hs fun σ₃ h3 hs=>?_
 obtain rfl:=Option.some.inj hs
 have h1:∃k tgs,All2 (TrT k fi.cx) tgs ts:=by
  rcases A7D ht with ⟨_,_,e,_⟩ | ⟨k,l,_,_,_,e,h⟩
  ·
   exact nomatch e
  ·
   cases e; exact ⟨k,l,h⟩
 refine e2a1 h1 fun _ _ h1=>?_
 exact Assign_Tuple ((h.e ha hR hv).then Iv fun φ1 s1 r1 e1 I1 v1=>B0f O hR.handled ht h3 I1 v1 fun s2 I2=>(q.fin hE).tidy φ1 s2 e1 I2) (A4a hv) (A3Z Iv.env h1 hv hsw)
theorem B2M {α:Type} {c:Prop} [i:Decidable c] {b:Option (Option α)} {x:α} (h:(if c then some none else b)=some (some x)):¬c∧b=some (some x):=by
 cases i with
 | isTrue hc=>exact nomatch h
 | isFalse hc=>exact ⟨hc,h⟩
theorem C2f {α:Type} {c:Prop} [i:Decidable c] {b:Option α} {x:α} (h:(if c then none else b)=some x):b=some x:=by
 cases i with
 | isTrue hc=>exact A0a h
 | isFalse hc=>exact h
theorem B2N {ts:List PySem.Expr} {value:PySem.Expr} {c:Ctx} {names:List Str} (h:A3O c ts value=some (some names)):ts.map Ac.nm=names∧∀t∈ts,Ac.isNm t=true:=by
 unfold A3O at h
 cases e:Nat.beq (kX value) 5 with
 | false=>rw [e] at h; exact nomatch h
 | true=>
  rw [e] at h
  obtain ⟨h1,h⟩:=B2M (B2M h).2
  have hq:=(not_or.mp (fun e=>h1 (Bool.or_eq_true_iff.mpr e))).1
  rw [←Option.some.inj (Option.some.inj (C2f (B2M h).2))]
  exact A5B c _ (by simpa using hq)
theorem A7G (O:OkC C) {k:Nat} {E:Value→Shared→Prop}:∀{tes:List PySem.Expr} {tgs:List Tg} {vs:List V} {rvs:List Value} {σ σ':St} {s:Shared},(∀t∈tes,Ac.isNm t=true)→All2 (TrT k fi.cx) tgs tes→assignEach tgs vs σ=some σ'→Inv C fi φ X σ s→VRs C.ρ φ σ.nx vs rvs→∀{Q:Unit→Shared→Prop},
  A8S C fi φ X σ' Q→wpAny (MM C) A (assignInOrder (tes.map (fun t=>bindName fi.env (Ac.nm t))) rvs) Q E s
 | tes,[],vs,rvs,σ,σ',s,_,h1,h2,I,hv,Q,q=>by
  rw [show tes=[] from h1]
  cases vs with
  | nil=>obtain rfl:=Option.some.inj h2; exact wpAny_pure (q s I)
  | cons=>exact A0a h2
 | tes,tg::tgs,vs,rvs,σ,σ',s,hn,⟨te,rest,e1,t1,t2⟩,h2,I,hv,Q,q=>by
  rw [e1] at hn ⊢
  have hn:=List.forall_mem_cons.mp hn
  refine e2a1 (Ac.nm_on hn.1) fun x p e2z=>?_
  subst e2z
  cases hv with
  | nil=>exact A0a h2
  | cons a b=>exact A0p h2 fun σ₁ h3 h2=>wpAny_bind (wpAny_holding (wpAny_bindName (A0Q O (B2G t1) h3 I a fun s₁ I₁=>A7G O hn.2 t2 h2 I₁ (by rw [(A0B h3).1]; exact b) q)))
theorem B5p (O:OkC C) (h:Snd2 C r N) {ts:List PySem.Expr} {d:Nat} {p pos:Pos} {value:PySem.Expr} {tgs:List Tg} {e:Mine.E} {k k':Nat} {f:Fl} {names:List Str} (hE:evS r (.swp tgs e) σ=some (.f f,σ')) (hR:Room A N) (ht:All2 (TrT k fi.cx) tgs ts) (hv:TrE k' fi.cx e value) (hsw:A3O fi.cx ts value=some (some names)):
  A1b C fi A X σ σ' f (.Assign [.Tuple ts d p] value pos):=fun φ s E Q Iv q=>by
 have hnames:=B2N hsw
 refine A1R hE fun v σ₁ ha hE=>Assign_Tuple_swapped (names:=names) ((h.e ha hR hv).then Iv fun φ1 s1 r1 e1 I1 v1=>?_) (A4a hv) (A3Z Iv.env ht hv hsw)
 apply r_ok v1 hE; intro j hj hE
 refine A0p hE fun xs hi hE=>A0p hE fun σ₂ hs hE=>B0e hi fun hg=>?_
 refine e2a3 (I1.get hg) fun ws kk g1 r1 l1=>?_
 have hln:names.length=ws.toArray.size:=by
  have:=A0P hs
  rw [List.length_reverse,List.length_reverse] at this
  rw [←hnames.1,List.length_map,A3t ht,this,List.size_toArray,r1.length]
 rw [hln]
 refine unpackItems_tuple hR.handled ⟨_,g1,rfl,kk,rfl⟩ fun h' he=>?_
 have e3:names.reverse.map (fun n=>bindName fi.env n)=ts.reverse.map (fun t=>bindName fi.env (Ac.nm t)):=by
  rw [←hnames.1,←List.map_reverse,List.map_map]; rfl
 rw [e3]
 exact A7G O (fun t ht=>hnames.2 t (List.mem_reverse.mp ht)) (A7F ht) hs (I1.keeps (s':={ s1 with heap:=h' }) O.H (fun b ob e=>he b ob (Nat.ne_of_lt (Heap.lt_size e)) e) rfl rfl rfl) (by simpa using A8X r1) fun s2 I2=>(q.fin hE).tidy φ1 s2 e1 I2
end
end Mine
end
section
namespace Mine
open PySem PyProof.Rows
section
variable {C:Cx} {fi:Fi} {φ φ':Nat→Addr} {X:List (Addr×Obj)} {σ σ' σ₁ σ₂ σ₃:St} {s s':Shared} {A:Around} {n:Nat} {r:Run} {N:Nat} {v:V} {vs:List V}
theorem B0h:∀(l:List V) (k:Nat) (v:V),lset l k v=l.set k v
 | [],_,_=>rfl
 | _::_,0,_=>rfl
 | x::l,k + 1,v=>by show x::lset l k v=x::l.set k v; rw [B0h]
theorem C2g {o i:V} {ro ri:Value} {k:Nat→List V→Int→Option (R×St)} {p:R×St} {q:Value→Value→Prop} (h:(o.r fun j=>i.i fun i=>hL σ.hp j fun xs=>k j xs i)=some p) {φ':Nat→Addr} {m:Nat} (ho:VR C.ρ φ m o ro) (e:Ext φ φ' m) (hi:VR C.ρ φ' n i ri)
  (H:∀j xs i t,hget σ.hp j=some (.list xs)→k j xs i=some p→q (.ref (φ' j)) (.int i t)):q ro ri:=by
 apply r_ok ho h; intro j hj h
 rw [←e j hj]
 apply i_ok hi h; intro i t h
 exact A3j h fun xs hg h=>H j xs i t hg h
theorem B5q (O:OkC C) (h:Snd2 C r N) {o i value:PySem.Expr} {p' pos:Pos} {eo ei e:Mine.E} {k:Nat} {f:Fl} (hE:evS r (.put eo ei e) σ=some (.f f,σ')) (hR:Room A N) (h1:TrE k fi.cx eo o) (h2:TrE k fi.cx ei i) (h3:TrE k fi.cx e value):
  A1b C fi A X σ σ' f (.Assign [.Subscript o i p'] value pos):=fun φ s E Q Iv q=>by
 refine A1R hE fun v σ₁ ha hE=>A1R hE fun vo σ₂ hb hE=>A1R hE fun vi σ₃ hc hE=>?_
 have n1:=h.nx _ _ _ _ ha
 have n2:=h.nx _ _ _ _ hb
 have n3:=h.nx _ _ _ _ hc
 refine wpAny_Assign_Subscript ((h.e ha hR h3).then Iv fun φ1 s1 r1 e1 I1 v1=>(h.e hb hR h1).then I1 fun φ2 s2 r2 e2 I2 v2=>(h.e hc hR h2).then I2 fun φ3 s3 r3 e3 I3 v3=>?_) ?_
 ·
  refine C2g (q:=fun r2 r3=>wpAny (MM C) A (setItem r2 r3 r1) (fun _ s=>Q .next s) E s3) hE v2 e3 v3 fun j xs i t hg hE=>A1p hE fun hm hE=>?_
  refine e2a3 (I3.get hg) fun ws kk g1 r1' l1=>?_
  refine PySem.W.ki_setAt (n:=kk) (items:=ws.toArray) g1 hm.1 (by have:=hm.2; lia) (by have:=r1'.length; simp only [List.size_toArray]; lia) ?_
  have e:=IsL.update g1 (fun x=>x.setIfInBounds i.toNat r1)
  rw [show ws.toArray.setIfInBounds i.toNat r1=(ws.set i.toNat r1).toArray by simp] at e
  exact (((q.fin hE).step e1 n1).step e2 n2).step e3 n3 φ3 _ _ (Ext.refl _ _) (I3.turnList (s':={ s3 with heap:=s3.heap.update (φ3 j) (Obj.mapSeq fun x=>x.setIfInBounds i.toNat r1) }) O.H hg (Heap.SameBut.update ..) e (r1'.set ((v1.ext e2 n2).ext e3 n3) i.toNat) (by rw [B0h,List.length_set]; exact l1) rfl rfl rfl) .next
 ·
  exact (A8V h3).elim (fun hc=>A5a hc _ _ _) fun ⟨_,_,_,_,e⟩=>e▸rfl
theorem C2h {o:Option St} {f:Fl} (h:flow o=some (.f f,σ')):∃σ₁,o=some σ₁∧some (R.f .next,σ₁)=some (R.f f,σ'):=by
 cases o with
 | none=>exact A0a h
 | some τ=>exact ⟨_,rfl,h⟩
theorem B5r (O:OkC C) (h:Snd2 C r N) {x:Str} {p pos:Pos} {value:PySem.Expr} {tg:Tg} {bop:Bop} {e:Mine.E} {k:Nat} {f:Fl} (hE:evS r (.aug tg bop e) σ=some (.f f,σ')) (hld:∀{e:Mine.E} {σ σ':St} {v:V},r (.e e) σ=some (.v v,σ')→(∃i,e=.loc i∨e=.cel i)→∃r',evE r' e σ=some (.v v,σ')) (hR:Room A (N + 1)) (ht:TgN fi.cx tg x) (h3:TrE k fi.cx e value):
  A1b C fi A X σ σ' f (.AugAssign (.Name x p) (opB bop) value pos):=fun φ s E Q Iv q=>by
 refine A1R hE fun v σ₁ ha hE=>A1R hE fun w σ₂ hb hE=>A1D hE fun hr hE=>A0p hE fun u hw hE=>?_
 refine e1a2 (C2h hE) fun σ₄ h4 e4=>?_
 have n1:=h.nx _ _ _ _ ha
 have n2:=h.nx _ _ _ _ hb
 have hn:NmE fi.cx (rdT tg) x∧∃r',evE r' (rdT tg) σ=some (.v v,σ₁):=by
  cases tg with
  | loc i=>exact ⟨ht,hld ha ⟨i,.inl rfl⟩⟩
  | cel i=>exact ⟨⟨.inl ht.1,ht.2⟩,hld ha ⟨i,.inr rfl⟩⟩
  | tup=>exact ht.elim
 obtain ⟨hn1,r',hn2⟩:=hn
 have q:=q.fin e4
 exact wpAny_AugAssign_Name (B2s O hn1 hn2 Iv fun φ1 s1 r1 e1 I1 v1=>(h.e hb hR.dn h3).then I1 fun φ2 s2 r2 e2 I2 v2=>A5N O.H ((Bool.not_eq_true' _).mp hr) hw I2 (v1.ext e2 n2) v2 fun φ3 s3 r3 e3 I3 v3=>
  A0Q O ht h4 I3 v3 fun s4 I4=>(q.step e1 n1).step e2 n2 φ3 s4 _ e3 I4 .next)
theorem B2O (O:OkC C) (h:Snd2 C r N) {g:PySem.Expr} {es:List PySem.Expr} {ks:List Keyword} {p pos:Pos} {e:Mine.E} {k:Nat} {f:Fl} (hE:evS r (.expr e) σ=some (.f f,σ')) (hR:Room A N) (h3:TrE k fi.cx e (.Call g es ks p)):
  A1b C fi A X σ σ' f (.Expr (.Call g es ks p) pos):=fun φ s E Q Iv q=>
 A1R hE fun v σ₁ ha hE=>wpAny_Expr ((h.e ha hR h3).then Iv fun φ1 s1 r1 e1 I1 v1=>by
  apply n_ok v1 hE; intro hE
  exact (q.fin hE).tidy φ1 s1 e1 I1) (B5m Iv.env) rfl
theorem B5s (h:Snd2 C r N) {ex:PySem.Expr} {pos:Pos} {e:Mine.E} {k:Nat} {f:Fl} (hE:evS r (.ret e) σ=some (.f f,σ')) (hR:Room A N) (h3:TrE k fi.cx e ex):A1b C fi A X σ σ' f (.Return (some ex) pos):=fun φ s E Q Iv q=>
 A1R hE fun v σ₁ ha hE=>wpAny_Return_some ((h.e ha hR h3).then Iv fun φ1 s1 r1 e1 I1 v1=>q.fin hE φ1 s1 _ e1 I1 (.ret v1))
theorem B5t (h:Snd2 C r N) {t:PySem.Expr} {a b:List PySem.Stmt} {pos:Pos} {et:Mine.E} {ea eb:List S} {k k':Nat} {f:Fl} (hE:evS r (.ifs et ea eb) σ=some (.f f,σ')) (hR:Room A N) (h1:TrE k fi.cx et t) (h2:TrSS k' fi.cx ea a) (h3:TrSS k' fi.cx eb b):
  A1b C fi A X σ σ' f (.If t a b pos):=fun φ s E Q Iv q=>
 A4S hE fun c σ₁ ha hE=>wpAny_If (h.t ha hR h1 φ s E _ Iv fun φ1 s1 e1 I1=>by
  have I2:=A8T I1 σ.nx .none
  have q2:A4u C fi φ1 X (tidy σ₁ σ.nx .none) σ' f Q:=q.step e1 ((A8I σ.nx .none (σ:=σ₁)).symm▸h.nx _ _ _ _ ha)
  cases c with
  | true=>exact h.ss hE hR h2 φ1 s1 E Q I2 q2
  | false=>exact h.ss hE hR h3 φ1 s1 E Q I2 q2)
theorem A8Y (h:Snd2 C r N) {t:PySem.Expr} {pos:Pos} {et:Mine.E} {k:Nat} {f:Fl} (hE:evS r (.assert et) σ=some (.f f,σ')) (hR:Room A N) (h1:TrE k fi.cx et t):A1b C fi A X σ σ' f (.Assert t none pos):=fun φ s E Q Iv q=>
 A4S hE fun c σ₁ ha hE=>A1D hE fun hc hE=>wpAny_Assert_holds (h.t ha hR h1 φ s E _ Iv fun φ1 s1 e1 I1=>⟨hc,q.fin hE φ1 s1 _ e1 I1 .next⟩)
theorem B5u (O:OkC C) (h:Snd2 C r N) {o i:PySem.Expr} {p' pos:Pos} {eo ei:Mine.E} {k:Nat} {f:Fl} (hE:evS r (.del eo ei) σ=some (.f f,σ')) (hR:Room A N) (h1:TrE k fi.cx eo o) (h2:TrE k fi.cx ei i):
  A1b C fi A X σ σ' f (.Delete [.Subscript o i p'] pos):=fun φ s E Q Iv q=>by
 refine A1R hE fun vo σ₂ hb hE=>A1R hE fun vi σ₃ hc hE=>?_
 have n2:=h.nx _ _ _ _ hb
 have n3:=h.nx _ _ _ _ hc
 refine wpAny_Delete (wpAny_deleteEach_cons (wpAny_delete_Subscript ((h.e hb hR h1).then Iv fun φ2 s2 r2 e2 I2 v2=>(h.e hc hR h2).then I2 fun φ3 s3 r3 e3 I3 v3=>?_)))
 refine C2g (q:=fun r2 r3=>wpAny (MM C) A (delItem r2 r3) (fun _ s=>wpAny (MM C) A (deleteEach [] fi.env) (fun _ s=>Q .next s) E s) E s3) hE v2 e3 v3 fun j xs i t hg hE=>A0p hE fun m hm hE=>?_
 refine e2a3 (I3.get hg) fun ws kk g1 r1' l1=>?_
 have hlen:=r1'.length
 refine e0a3 (A4w hm) fun p1 p2 p3=>?_
 have hfit:Builtin.List.listFitsIndex i=true:=by
  unfold Builtin.List.listFitsIndex
  rcases p3 with ⟨p3,p4⟩ | ⟨p3,p4,p5⟩ <;> simp <;> lia
 refine P.delItem_list g1 hfit (by simpa [hlen] using p2) ?_ (by simp only [List.size_toArray]; unfold sizeLine; lia)
 have e:=IsL.update g1 (fun x=>x.eraseIdxIfInBounds m)
 rw [show ws.toArray.eraseIdxIfInBounds m=(ws.eraseIdx m).toArray by simp] at e
 exact wpAny_deleteEach_nil (((q.fin hE).step e2 n2).step e3 n3 φ3 _ _ (Ext.refl _ _) (I3.turnList (s':={ s3 with heap:=s3.heap.update (φ3 j) (Obj.mapSeq fun x=>x.eraseIdxIfInBounds m) }) O.H hg (Heap.SameBut.update ..) e (r1'.eraseIdx m) (Nat.le_trans (List.length_eraseIdx_le _ _) l1) rfl rfl rfl) .next)
end
end Mine
end
section
namespace Mine
open PySem PyProof.Rows
section
variable {C:Cx} {fi:Fi} {φ φ':Nat→Addr} {X:List (Addr×Obj)} {σ σ' σ₁ σ₂ σ₃:St} {s s':Shared} {A:Around} {n:Nat} {r:Run} {N:Nat} {v:V} {vs:List V}
theorem A4b:∀(hp:List (Nat×O)) (i:Nat),(A0H hp i).Sublist hp
 | [],_=>.slnil
 | (j,x)::hp,i=>by
  unfold A0H
  split
  ·
   exact .cons _ (List.Sublist.refl _)
  ·
   exact .cons_cons _ (A4b hp i)
theorem B1d {hp:List (Nat×O)} {i:Nat} {o:O} (h:hget hp i=some o) (nd:(A0c hp).Nodup) (k:Nat) (hk:k∈i::own o):k∉A0c (A0H hp i):=by
 induction hp with
 | nil=>exact A0a h
 | cons p hp ih=>
  have h:(match Nat.beq p.1 i with | true=>some p.2 | false=>hget hp i)=some o:=h
  show k∉A0c (match Nat.beq p.1 i with | true=>hp | false=>p::A0H hp i)
  rw [A0f] at nd
  have n:=List.nodup_append.mp nd
  cases q:Nat.beq p.1 i with
  | true=>
   rw [q] at h
   rw [←A8y q,←Option.some.inj h] at hk
   exact fun hm=>n.2.2 k hk k hm rfl
  | false=>
   rw [q] at h
   rw [A0f,List.mem_append]
   exact fun hm=>hm.elim (fun hm=>n.2.2 k hm k (A0s (A0l h) k hk) rfl) (ih h n.2.1)
theorem Inv.thaw (H:C.Ok) {j:Nat} {a:Addr} {xs:List V} {vs:List Value} {k:Nat} (I:Inv C fi φ ((a,A0k vs k)::X) σ s) (hj:j < σ.nx) (ha:φ j=a) (hX:a∉X.map (·.1)) (hv:VRs C.ρ φ σ.nx xs vs) (hl:xs.length≤5000):
  Inv C fi φ X { σ with hp:=(j,.list xs)::σ.hp } s:=by
 subst ha
 have hm:φ j∈fi.ads ((φ j,A0k vs k)::X):=by unfold Fi.ads; simp
 have hob:s.heap.get? (φ j)=some (A0k vs k):=I.xs _ (.head _)
 have I0:Inv C fi φ X σ s:=Inv.loose (Y:=[(φ j,A0k vs k)]) I
 have one:∀i,i∈j::own (.list xs)→i=j:=fun i hi=>List.mem_singleton.mp hi
 refine I0.add H (i:=j) (o:=.list xs) (fun i hi=>by rw [one i hi]; exact hj) (List.pairwise_singleton _ _) (fun i hi i' hi' _=>by rw [one i hi,one i' hi']) (fun i hi=>?_) (fun i hi i' hi'=>?_) (fun i hi hm'=>?_) ⟨vs,k,hob,hv,hl⟩
 ·
  rw [one i hi]; exact ⟨(I.off _ hm).1,_,hob⟩
 ·
  rw [one i hi]; exact (I.off _ hm).2 i' hi'
 ·
  rw [one i hi] at hm'
  unfold Fi.ads at hm'
  rcases List.mem_append.mp hm' with h | h
  ·
   exact I.apart _ h (by simp)
  ·
   exact hX h
theorem Inv.freezeL (I:Inv C fi φ X σ s) {j:Nat} {xs:List V} {vs:List Value} {k:Nat} (hg:hget σ.hp j=some (.list xs)) (g1:s.heap.get? (φ j)=some (A0k vs k)):
  Inv C fi φ ((φ j,A0k vs k)::X) { σ with hp:=A0H σ.hp j } s∧φ j∉X.map (·.1)∧φ j∉fi.env.locals::fi.cad∧C.h₀.get? (φ j)=none∧∀i∈A0c (A0H σ.hp j),φ i≠φ j:=by
 have hji:=A0L hg
 have hsub:=A3i (A4b σ.hp j)
 have ne:∀i∈A0c (A0H σ.hp j),φ i≠φ j:=fun i hi e=>by
  have:=I.inj i (hsub.subset hi) j hji e
  subst this
  exact B1d hg I.ids i (.head _) hi
 have off:φ j∉fi.ads X:=fun hm=>(I.off _ hm).2 j hji rfl
 have offL:φ j∉fi.env.locals::fi.cad:=fun hm=>off (by unfold Fi.ads; exact List.mem_append_left _ hm)
 refine ⟨(I.drop (A4b σ.hp j)).hold (Y:=[(φ j,A0k vs k)]) fun p hp=>?_,fun hm=>off (by unfold Fi.ads; exact List.mem_append_right _ hm),offL,(I.live j hji).1,ne⟩
 rw [List.mem_singleton.mp hp]
 exact ⟨(I.live j hji).1,g1,ne,offL⟩
theorem A7H (I:Inv C fi φ X σ s):hget σ.hp σ.nx=none:=by
 cases h:hget σ.hp σ.nx with
 | none=>rfl
 | some o=>exact absurd (I.low _ (A0L h)) (Nat.lt_irrefl _)
theorem A7I {it:PySem.Expr} {env:Env} (h:A8x it=true) (x:Value):foldedSetIterable it env x=pure x:=by
 cases it with
 | Set=>exact noft h
 | _=>rfl
theorem A1t {R:RE} {c:Ctx} {it:PySem.Expr} {kd:ItK} {es:List Mine.E} {env:Env} (h:TrI R c kd es it) (x:Value):foldedSetIterable it env x=pure x:=by
 cases kd with
 | range=>obtain ⟨p,xs,q,rfl,_⟩:=h; rfl
 | gen=>obtain ⟨p,xs,q,rfl,_⟩:=h; rfl
 | enum=>obtain ⟨p,xs,q,rfl,_⟩:=h; rfl
 | fit=>obtain ⟨e,p,_,rfl,_⟩:=h; rfl
 | list=>obtain ⟨e,_,hp,_⟩:=h; exact A7I hp x
theorem A0J (I:Inv C fi φ X σ s) {L:Addr} (hf:s.heap.get? L=none):C.h₀.get? L=none∧(∀i∈A0c σ.hp,φ i≠L)∧L∉fi.ads X:=by
 refine ⟨?_,fun i hi e=>?_,fun hm=>?_⟩
 ·
  cases q:C.h₀.get? L with
  | none=>rfl
  | some o=>exact A0a (hf.symm.trans (I.keep _ _ q))
 ·
  obtain ⟨o,ho⟩:=(I.live i hi).2
  exact A0a (hf.symm.trans (e▸ho))
 ·
  obtain ⟨o,ho⟩:=I.adLive hm
  exact A0a (hf.symm.trans ho)
theorem B5v {a:Addr×Obj} {L:Addr} (h:L∈fi.ads X):L∈fi.ads (a::X):=by
 unfold Fi.ads at h ⊢
 exact (List.mem_append.mp h).elim (List.mem_append_left _) fun h=>List.mem_append_right _ (.tail _ h)
noncomputable def ItGo (C:Cx) (fi:Fi) (A:Around) (X:List (Addr×Obj)) (σ σf σe τ:St) (l:List V) (it:PySem.Expr):Prop:=∀φ s E (Q:Value→Shared→Prop),Inv C fi φ X σ s→
 (∀φ1 s2 I fp wr n P St X',Ext φ φ1 σ.nx→(∀te k c tg,TrT k c tg te→A4X C A te I fp wr n P St)→St 0 s2.heap→l.length=n→(∀j v (hj:j < l.length),P j v→VR C.ρ φ1 σf.nx l[j] v)→
  FpOk C fi φ1 X' σf fp wr→Inv C fi φ1 X' σf s2→(∀φ2 s3,Ext φ1 φ2 σf.nx→σf.nx≤σe.nx→Inv C fi φ2 X' σe s3→Inv C fi φ2 X τ s3∧∀L,s2.heap.get? L=none→(∀i∈A0c σe.hp,φ2 i≠L)→(∀i∈A0c τ.hp,φ2 i≠L)∧L∉fi.ads X)→Q (.ref I) s2)→
 wpAny (MM C) A (eval it fi.env) (fun x s1=>wpAny (MM C) A (pyIter x) Q E s1) E s
theorem B2P (O:OkC C) (h:Snd C r N) (hR:Room A (N + 1)) {k j:Nat} {it:PySem.Expr} {e:Mine.E} {xs:List V} {σe:St} (he:TrE k fi.cx e it) (ha:r (.e e) σ=some (.v (.ref j),σ₁)) (hg:hget σ₁.hp j=some (.list xs)):
  ItGo C fi A X σ { σ₁ with hp:=A0H σ₁.hp j } σe { σe with hp:=(j,.list xs)::σe.hp } xs it:=fun φ s E Q Iv q=>(h.e ha hR.dn he).then Iv fun φ1 s1 r1 e1 I1 v1=>by
 cases v1 with
 | ref _ hj=>
 refine e2a3 (I1.get hg) fun ws kk g1 r1 l1=>?_
 have hlen:=r1.length
 have hL:s1.heap.IsList (φ1 j) ws.toArray:=IsL.isList g1
 refine wpAny_pyIter_list hL ?_
 refine e0a5 (I1.freezeL hg g1) fun I2 f1 f2 f3 f4=>?_
 have hfree:=A0e s1.heap
 have fresh:=A0J I2 hfree
 have I3:Inv C fi φ1 ((φ1 j,A0k ws kk)::X) { σ₁ with hp:=A0H σ₁.hp j } { s1 with heap:=s1.heap.push { cls:=.type "list_iterator",data:=.fields #[.ref (φ1 j),.int 0 0] } }:=I2.keeps O.H (fun _ _ e=>Heap.get?_push_of_some _ e) rfl rfl rfl
 have g2:(s1.heap.push { cls:=.type "list_iterator",data:=.fields #[.ref (φ1 j),.int 0 0] }).get? (φ1 j)=some (A0k ws kk):=Heap.get?_push_of_some _ g1
 refine q φ1 _ s1.heap.objs.size [s1.heap.objs.size,φ1 j] [s1.heap.objs.size] ws.toArray.size _ _ _ e1 (fun te k c' tg ht=>A4X.list hR.handled ht _ (φ1 j) (fun e=>A0a (hfree.symm.trans (e▸g1))) ws.toArray) ⟨⟨_,Heap.get?_push_size _ rfl,rfl,rfl⟩,hL.push _⟩ hlen.symm (fun i v hi hP=>?_)
  ⟨List.forall_mem_cons.mpr ⟨⟨fresh.1,fresh.2.1,fun hm=>fresh.2.2 (by unfold Fi.ads; exact List.mem_append_left _ hm)⟩,fun b hb=>List.mem_singleton.mp hb▸⟨f3,f4,f2⟩⟩,fun b hb=>List.mem_singleton.mp hb▸fresh.2.2⟩ I3 fun φ2 s3 e2 hnx I4=>?_
 ·
  have hi':i < ws.length:=hlen▸hi
  have e3:ws.toArray[i]?=some v:=hP
  rw [List.getElem?_toArray,List.getElem?_eq_getElem hi'] at e3
  exact Option.some.inj e3▸r1.get hi hi'
 ·
  have ej:φ2 j=φ1 j:=e2 j hj
  refine ⟨I4.thaw O.H (Nat.lt_of_lt_of_le hj hnx) ej f1 (r1.ext e2 hnx) l1,fun L hL hids=>⟨fun i hi e=>?_,fun hm=>(I3.adLive (B5v hm)).elim fun o ho=>A0a (hL.symm.trans ho)⟩⟩
  rw [A0f,List.mem_append] at hi
  refine hi.elim (fun hi=>?_) fun hi=>hids i hi e
  rw [List.mem_singleton.mp hi,ej] at e
  subst e
  exact A0a (hL.symm.trans g2)
theorem B1e (O:OkC C) (h:Snd C r N) (hR:Room A (N + 1)) {k:Nat} {it:PySem.Expr} {es:List Mine.E} {l:List V} (ht:A2D (TrE k fi.cx) fi.cx "range" es it) (ha:r (.es es) σ=some (.vs vs,σ₁)) (hl:A4I vs=some l) {σe:St}:
  ItGo C fi A X σ σ₁ σe σe l it:=fun φ s E Q Iv q=>by
 refine e3a6 (A4V hl) fun a b c hT b1 b2 b3 b4 e8z=>?_
 subst e8z
 refine A3Y O h hR ht ha hT b3 b4 Iv fun φ1 s1 ra t u w e1 I1 hr=>wpAny_pyIter_range hr (A4U b1 b2 b3 b4) ?_
 have I2:Inv C fi φ1 X σ₁ { s1 with heap:=s1.heap.push { cls:=.type "range_iterator",data:=.fields #[rawInt a,rawInt (Builtin.Range.rangeSize a b c),rawInt c] } }:=I1.keeps O.H (fun _ _ e=>Heap.get?_push_of_some _ e) rfl rfl rfl
 have fresh:=A0J I1 (A0e s1.heap)
 refine q φ1 _ s1.heap.objs.size [s1.heap.objs.size] [s1.heap.objs.size] (A4j a b c) _ _ X e1 (fun te k c' tg ht=>A4X.range hR.handled ht _ a c (A4j a b c)) ?_ (A1K _ _ _) (fun j v hj hP=>?_)
  ⟨fun b hb=>List.mem_singleton.mp hb▸⟨fresh.1,fresh.2.1,fun hm=>fresh.2.2 (by unfold Fi.ads; exact List.mem_append_left _ hm)⟩,fun b hb=>List.mem_singleton.mp hb▸fresh.2.2⟩ I2 fun φ2 s3 _ _ I3=>⟨I3,fun L hL hids=>⟨hids,fun hm=>(I2.adLive hm).elim fun o ho=>A0a (hL.symm.trans ho)⟩⟩
 ·
  show IsRangeIter _ _ _ _ _
  have e0:(A4j a b c:Int) - ((0:Nat):Int)=Builtin.Range.rangeSize a b c:=by rw [A2U b3]; simp
  rw [e0]
  have:=Heap.get?_push_size s1.heap (o:={ cls:=.type "range_iterator",data:=.fields #[rawInt a,rawInt (Builtin.Range.rangeSize a b c),rawInt c] }) rfl
  simpa using this
 ·
  obtain ⟨t,rfl⟩:=hP
  rw [A3X _ _ _ _ hj]
  exact .int _ _
theorem A8Z (O:OkC C) (h:Snd C r N) (hR:Room A (N + 1)) {k:Nat} {it:PySem.Expr} {kd:ItK} {es:List Mine.E} (ht:TrI (TrE k fi.cx) fi.cx kd es it) {K:List V→St→Option (R×St)} {p:R×St} {q:Prop}
  (hE:A8u r kd es σ (fun j l σ=>A0A σ j (K l))=some p) (hq:∀l σf x σe,K l σf=some (x,σe)→σ.nx≤σf.nx→p.1=x→p.2.nx=σe.nx→ItGo C fi A X σ σf σe p.2 l it→q):q:=by
 cases kd with
 | list=>
  refine e1a3 ht fun e e1z _ he=>?_
  subst e1z
  refine A1R hE fun v σ₁ ha h1=>r_on h1 fun j ev h2=>A3j h2 fun xs hg h3=>?_
  have h3:A0A σ₁ j (K xs)=some p:=h3
  unfold A0A at h3
  rw [hg] at h3
  refine A0p h3 fun y hy h4=>?_
  obtain rfl:=Option.some.inj h4
  exact hq xs _ y.1 y.2 hy (show σ.nx≤σ₁.nx from h.nx _ _ _ _ ha) rfl rfl (B2P O h hR he (ev▸ha) hg)
 | range=>
  refine A4m hE fun vs σ₁ ha hE=>A0p hE fun l hl hE=>?_
  have n1:=h.nx _ _ _ _ ha
  rcases A5R hE with ⟨o,x,σe,hg,hK,rfl⟩ | ⟨_,hK⟩
  ·
   exact hq l _ x σe hK n1 rfl rfl fun φ s E Q Iv q=>by
    refine e3a6 (A4V hl) fun a b c hT b1 b2 b3 b4 e8z=>?_
    subst e8z
    exact A3Y O h hR ht ha hT b3 b4 Iv fun φ1 s1 ra t u w e1 I1 hr=>A0a ((A7H I1).symm.trans hg)
  ·
   exact hq l _ p.1 p.2 hK n1 rfl rfl (B1e O h hR ht ha hl)
 | enum | fit | gen=>exact A0a hE
end
end Mine
end
section
namespace Mine
open PySem PyProof.Rows
section
variable {C:Cx} {fi:Fi} {φ φ':Nat→Addr} {X:List (Addr×Obj)} {σ σ' σ₁ σ₂ σ₃:St} {s s':Shared} {A:Around} {n:Nat} {r:Run} {N:Nat} {v:V} {vs:List V}
theorem A7J (O:OkC C) (h:Snd2 C r N) {tg:Tg} {kd:ItK} {es:List Mine.E} {b:List S} {k k1 k':Nat} {te it:PySem.Expr} {body:List PySem.Stmt} {p:Pos} {f:Fl} (hE:A8u r kd es σ (fun j l σ=>A0A σ j (fun σ=>r (.for_ tg b l) σ))=some (.f f,σ')) (hR:Room A (N + 1))
  (h1:TrT k fi.cx tg te) (h2:TrI (TrE k1 fi.cx) fi.cx kd es it) (h3:TrSS k' fi.cx b body):A1b C fi A X σ σ' f (.For te it body [] p):=fun φ s E Q Iv q=>
 A8Z (X:=X) (K:=fun l σ=>r (.for_ tg b l) σ) O h.toSnd hR h2 hE fun l σf x σe hK n1 e1 e2 key=>by
  cases e1
  have e2:σ'.nx=σe.nx:=e2
  have nE:=h.nx _ _ _ _ hK
  exact wpAny_For (key φ s E _ Iv fun φ1 s2 I fp wr n P St X' x1 hT hst hlen hP hfp I2 thaw=>h.for_ hK hR.dn h1 h3 φ1 s2 _ I fp wr n P St 0 (hT te k _ tg h1) hst (hlen▸Nat.zero_add _) (fun j v hj hp=>hP j v hj (Nat.zero_add j▸hp)) hfp I2 fun φ2 s3 rf x2 I3 fr=>
   q φ2 s3 rf (x1.trans x2 n1) (thaw φ2 s3 x2 nE I3).1 (e2.symm▸fr)) (A1t h2)
noncomputable def Ld (r:Run):Prop:=∀{e:Mine.E} {σ σ':St} {v:V},r (.e e) σ=some (.v v,σ')→(∃i,e=.loc i∨e=.cel i)→∃r',evE r' e σ=some (.v v,σ')
theorem B5w (O:OkC C) (h:Snd2 C r N) (hu:A6H C r N) {ts:List Tg} {e:Mine.E} {l:List PySem.Expr} {v:PySem.Expr} {k:Nat} {p:Pos} {f:Fl} (hE:evS r (.asg ts e) σ=some (.f f,σ')) (hR:Room A N) (hl:AsgL fi.cx l v) (ht:All2 (TrT k fi.cx) ts l) (hv:TrE k fi.cx e v):A1b C fi A X σ σ' f (.Assign l v p):=by
 have one:∀{x:PySem.Expr} {r:List PySem.Expr} {ts:List Tg},All2 (TrT k fi.cx) ts (x::r)→∃t ts',ts=t::ts'∧TrT k fi.cx t x∧All2 (TrT k fi.cx) ts' r:=fun {x r ts} h=>by
  cases ts with
  | nil=>exact nomatch h
  | cons t ts'=>
   refine e2a3 h fun _ _ e h1 h2=>?_
   cases e; exact ⟨t,ts',rfl,h1,h2⟩
 have nil:∀{ts:List Tg},All2 (TrT k fi.cx) ts []→ts=[]:=fun {ts} h=>by
  cases ts with
  | nil=>rfl
  | cons _ _=>
   refine e2a2 h fun _ _ e _=>?_
   exact nomatch e
 rcases hl with ⟨x,q,rfl⟩ | ⟨x,q,y,q',rfl⟩ | ⟨xs,d,q,rfl,hs⟩
 ·
  refine e2a3 (one ht) fun t r e2z h1 h2=>?_
  subst e2z
  obtain rfl:=nil h2
  exact B2I O h hu hE hR (B2G h1) hv
 ·
  refine e2a3 (one ht) fun t r e2z h1 h2=>?_
  subst e2z
  refine e2a3 (one h2) fun t' r e2z h3 h4=>?_
  subst e2z
  obtain rfl:=nil h4
  exact B2J O h hE hR (B2G h1) (B2G h3) hv
 ·
  refine e2a3 (one ht) fun t r e2z h1 h2=>?_
  subst e2z
  obtain rfl:=nil h2
  exact B2L O h hE hR h1 hv hs
theorem C2i (O:OkC C) (h:Snd2 C r N) (hl:Ld r) (hu:A6H C r N) (hlo:B8m C r N) {st:PySem.Stmt} {t:S} {k:Nat} {f:Fl} (hE:evS r t σ=some (.f f,σ')) (hR:Room A (N + 1)) (ht:TrS k fi.cx t st):A1b C fi A X σ σ' f st:=by
 have hR1:Room A N:=hR.dn
 cases k with
 | zero=>exact ht.elim
 | succ k=>
 cases t with
 | asg ts e=>obtain ⟨l,v,p,rfl,h1,h2,h3⟩:=ht; exact B5w O h hu hE hR1 h1 h2 h3
 | swp ts e=>obtain ⟨xs,d,q,v,p,o,rfl,h1,h2,h3⟩:=ht; exact B5p O h hE hR1 h2 h3 h1
 | put o i e=>obtain ⟨x,y,q,v,p,rfl,_,h1,h2,h3⟩:=ht; exact B5q O h hE hR1 h1 h2 h3
 | aug t op e=>obtain ⟨x,q,v,p,rfl,h1,h2⟩:=ht; exact B5r O h hE hl hR (B2G h1) h2
 | expr e=>obtain ⟨g,xs,ks,q,p,rfl,h1⟩:=ht; exact B2O O h hE hR1 h1
 | ret e=>obtain ⟨v,p,rfl,h1⟩:=ht; exact B5s h hE hR1 h1
 | brk=>obtain ⟨p,rfl⟩:=ht; exact fun φ s E Q I q=>wpAny_Break (q.fin hE φ s _ (Ext.refl _ _) I .brk)
 | cont=>obtain ⟨p,rfl⟩:=ht; exact fun φ s E Q I q=>wpAny_Continue (q.fin hE φ s _ (Ext.refl _ _) I .cont)
 | ifs t a b=>obtain ⟨x,y,z,p,rfl,h1,h2,h3⟩:=ht; exact B5t h hE hR1 h1 h2 h3
 | whl t b=>obtain ⟨x,y,p,rfl,h1,h2⟩:=ht; exact fun φ s E Q I q=>wpAny_While (h.whl hE hR1 h1 h2 φ s _ I q)
 | assert t=>obtain ⟨x,p,rfl,h1⟩:=ht; exact A8Y h hE hR1 h1
 | del o i=>obtain ⟨x,y,q,p,rfl,_,h1,h2⟩:=ht; exact B5u O h hE hR1 h1 h2
 | for_ tg kd es b=>
  refine e4a4 ht fun x it y p e4z h1 h2 h3=>?_
  subst e4z
  cases kd with
  | list=>exact A7J (kd:=.list) O h hE hR h1 h2 h3
  | range=>exact A7J (kd:=.range) O h hE hR h1 h2 h3
  | fit=>exact hlo (.inl rfl) hE hR1 h1 h2 h3
  | gen=>exact hlo (.inr (.inl rfl)) hE hR1 h1 h2 h3
  | enum=>exact hlo (.inr (.inr rfl)) hE hR1 h1 h2 h3
end
end Mine
end
section
namespace Mine
open PySem PyProof.Rows
noncomputable def A0Y (fd:FuncData):List PySem.Stmt:=match fd.body with | .stmts b=>b | _=>[]
theorem anyQ {M:Model} {A:Around} {m:Sem Flow} {Q:Flow→Shared→Prop} {E:Value→Shared→Prop} {s:Shared} {T:Value→Shared→Prop} (k:∀v s',T v s'→Q (.ret v) s') (k':∀s',T .none s'→Q .next s')
  (h:∀(Qf:Flow→Shared→Prop) (Ef:Value→Shared→Prop),(∀v s',T v s'→Qf (.ret v) s')→(∀s',T .none s'→Qf .next s')→wpAny M A m Qf Ef s):wpAny M A m Q E s:=h Q E k k'
structure A9a (h:Heap) (a:Addr) (fd:FuncData) (ps:List Str):Prop where
 obj:∃o,h.get? a=some o∧o.data=.func fd
 code:h.CodeRec fd.code fd.qualname
 body:fd.body=.stmts (A0Y fd)
 co:fd.scope.isCoroutine=false
 gen:fd.scope.isGenerator=false
 kind:fd.scope.kind=.function
 cell:∀x∈fd.scope.names,x.2≠.cell
 loc:∀x∈ps,fd.scope.names.lookup x=some .local
 env:∀L,A2E ⟨callEnv fd L a,A0i fd.scope,[]⟩
theorem A9a.mono {h h':Heap} {a:Addr} {fd:FuncData} {ps:List Str} (R:A9a h a fd ps) (hk:∀b o,h.get? b=some o→h'.get? b=some o):A9a h' a fd ps:={ R with obj:=R.obj.imp fun o z=>⟨hk _ _ z.1,z.2⟩,code:=R.code.keeps hk }
structure B9t (C:Cx) (f:Nat) (fn:Fn) (fd:FuncData) (ps:List Str) (k:Nat):Prop where
 R:A9a C.h₀ (C.fv f) fd ps
 len:ps.length=fn.params
 nd:ps.Nodup
 idx:∀i x,ps[i]?=some x→at? (A0i fd.scope).locs x=some i
 tr:TrSS k (A0i fd.scope) fn.body (A0Y fd)
 bind:∀(s:Shared) (rvs:List Value),rvs.length=fn.params→BindsTo s fd ⟨rvs,[]⟩ (ps.zip rvs)
structure FnIs (C:Cx) (f:Nat) (fn:Fn):Prop where
 ex:∃fd ps k,B9t C f fn fd ps k
section
variable {C:Cx} {fi:Fi} {φ φ':Nat→Addr} {X:List (Addr×Obj)} {σ σ' σ₁ σ₂ σ₃:St} {s s':Shared} {A:Around} {n:Nat} {r:Run} {N:Nat} {v:V} {vs:List V}
theorem B0i (I:Inv C fi φ X σ s):∃Y:List (Addr×Obj),Y.map (·.1)=fi.env.locals::fi.cad∧∀p∈Y,s.heap.get? p.1=some p.2:=
 A4Y fun b hb=>I.adLive (by unfold Fi.ads; exact List.mem_append_left _ hb)
theorem B1f:∀{ps:List Str} {rvs:List Value} {i:Nat} {x:Str} {rv:Value},ps.Nodup→ps[i]?=some x→rvs[i]?=some rv→(ps.zip rvs).reverse.lookup x=some rv:=by
 have look:∀{l l':List (Str×Value)} {x:Str} {rv:Value},(l ++ l').lookup x=(match l.lookup x with | some v=>some v | none=>l'.lookup x):=by
  intro l l' x rv
  induction l with
  | nil=>rfl
  | cons p l ih=>
   obtain ⟨y,w⟩:=p
   rw [List.cons_append,List.lookup_cons,List.lookup_cons]
   cases (x == y) with
   | true=>rfl
   | false=>exact ih
 intro ps
 induction ps with
 | nil=>intro rvs i x rv _ h; cases i <;> cases h
 | cons p ps ih=>
  intro rvs i x rv nd h1 h2
  cases rvs with
  | nil=>cases i <;> cases h2
  | cons w rvs=>
  obtain ⟨n1,n2⟩:=List.nodup_cons.mp nd
  rw [List.zip_cons_cons,List.reverse_cons,look (rv:=rv)]
  cases i with
  | zero=>
   simp only [List.getElem?_cons_zero,Option.some.injEq] at h1 h2
   subst h1 h2
   have hn:(ps.zip rvs).reverse.lookup p=none:=by
    rw [List.lookup_eq_none_iff]
    intro q hq
    have hq:=List.mem_reverse.mp hq
    have:=List.of_mem_zip hq
    exact bne_iff_ne.mpr fun e=>n1 (by rw [e]; exact this.1) |> fun h=>by simpa using h
   rw [hn]
   simp [List.lookup_cons]
  | succ i=>
   simp only [List.getElem?_cons_succ] at h1 h2
   rw [ih n2 h1 h2]
theorem Inv.enter (H:C.Ok) (I:Inv C fi φ X σ s) {fi':Fi} {Y:List (Addr×Obj)} {m:Str→Option Value} {loc:List V} (he:A2E fi') (hc:fi'.cad=[]) (hk:∀b o,s.heap.get? b=some o→s'.heap.get? b=some o) (hfree:s.heap.get? fi'.env.locals=none)
  (hY1:Y.map (·.1)=fi.env.locals::fi.cad) (hY2:∀p∈Y,s.heap.get? p.1=some p.2) (hns:s'.heap.Ns fi'.env.locals m) (hl:∀x k v,at? fi'.cx.locs x=some k→nth loc k=some v→v≠.unb→∃rv,m x=some rv∧VR C.ρ φ σ.nx v rv)
  (hg:s'.gens=s.gens) (hd:s'.drawn=s.drawn) (ho:s'.os=s.os):Inv C fi' φ (Y ++ X) { loc:=loc,cel:=[],hp:=σ.hp,nx:=σ.nx } s' where
 keep:=fun b o e=>hk b o (I.keep b o e)
 inj:=I.inj
 live:=fun i hi=>⟨(I.live i hi).1,let ⟨ob,e⟩:=(I.live i hi).2; ⟨ob,hk _ _ e⟩⟩
 env:=he
 ids:=I.ids
 low:=I.low
 nd:=by rw [hc]; simp
 off:=fun a ha=>by
  unfold Fi.ads at ha
  rw [hc] at ha
  rcases List.mem_append.mp ha with h | h
  ·
   rw [List.mem_singleton.mp h]
   refine ⟨?_,fun i hi e=>?_⟩
   ·
    exact (A0J I hfree).1
   ·
    exact (A0J I hfree).2.1 i hi e
  ·
   rw [List.map_append,List.mem_append,hY1] at h
   exact I.off a (by unfold Fi.ads; exact List.mem_append.mpr h)
 apart:=fun a ha hm=>by
  rw [hc] at ha
  rw [List.mem_singleton.mp ha,List.map_append,List.mem_append,hY1] at hm
  obtain ⟨ob,e⟩:=I.adLive (a:=fi'.env.locals) (by unfold Fi.ads; exact List.mem_append.mpr hm)
  rw [hfree] at e; cases e
 loc:=⟨m,hns,hl⟩
 cel:=fun k a h=>by rw [hc] at h; cases h
 hp:=fun p hp=>OR.ext H (I.hp p hp) (Ext.refl _ _) (Nat.le_refl _) (I.lowH hp) fun _ _ _ e=>hk _ _ e
 xs:=fun p hp=>by
  rcases List.mem_append.mp hp with hp | hp
  ·
   exact hk _ _ (hY2 p hp)
  ·
   exact hk _ _ (I.xs p hp)
 gens:=by rw [hg]; exact I.gens
 drawn:=hd.trans I.drawn
 os:=ho.trans I.os
theorem Inv.leave (I:Inv C fi φ X σ s) {fi':Fi} {Y:List (Addr×Obj)} (hY1:Y.map (·.1)=fi.env.locals::fi.cad) (hY2:∀p∈Y,s.heap.get? p.1=some p.2) (I':Inv C fi' φ' (Y ++ X) σ₂ s') (e:Ext φ φ' σ.nx) (hn:σ.nx≤σ₂.nx):
  Inv C fi φ' X { σ₂ with loc:=σ.loc,cel:=σ.cel } s' where
 keep:=I'.keep
 inj:=I'.inj
 live:=I'.live
 env:=I.env
 ids:=I'.ids
 low:=I'.low
 nd:=I.nd
 off:=fun a ha=>I'.off a (by
  unfold Fi.ads at ha ⊢
  rw [List.map_append,hY1]
  exact List.mem_append_right _ ha)
 apart:=I.apart
 loc:=by
  obtain ⟨m,⟨ob,es,ep,e1,e2⟩,h⟩:=I.loc
  have hm:fi.env.locals∈Y.map (·.1):=by rw [hY1]; exact .head _
  refine e1a2 (List.mem_map.mp hm) fun p hp hpe=>?_
  have e3:=hY2 p hp
  have e4:=I'.xs p (List.mem_append_left _ hp)
  rw [hpe] at e3 e4
  rw [e1] at e3
  cases e3
  refine ⟨m,⟨_,es,ep,e4,e2⟩,fun x k v h1 h2 h3=>?_⟩
  refine e1a2 (h x k v h1 h2 h3) fun rv h4 h5=>?_
  exact ⟨rv,h4,h5.ext e hn⟩
 cel:=fun k a hk=>by
  refine e2a3 (I.cel k a hk) fun o cv h1 h2 h3=>?_
  have hm:a∈Y.map (·.1):=by rw [hY1]; exact .tail _ (List.mem_of_getElem? hk)
  refine e1a2 (List.mem_map.mp hm) fun p hp hpe=>?_
  have e3:=hY2 p hp
  have e4:=I'.xs p (List.mem_append_left _ hp)
  rw [hpe] at e3 e4
  rw [h1] at e3
  cases e3
  refine ⟨_,cv,e4,h2,fun v h4 h5=>?_⟩
  refine e1a2 (h3 v h4 h5) fun rv h6 h7=>?_
  exact ⟨rv,h6,h7.ext e hn⟩
 hp:=I'.hp
 xs:=fun p hp=>I'.xs p (List.mem_append_right _ hp)
 gens:=I'.gens
 drawn:=I'.drawn
 os:=I'.os
theorem B2Q:∀{l:List V} {m k:Nat} {v:V},nth (l ++ List.replicate m .unb) k=some v→v≠.unb→nth l k=some v
 | [],m,k,v,h,hv=>by
  exfalso
  have:∀(m k:Nat) (v:V),nth (List.replicate m V.unb) k=some v→v=.unb:=by
   intro m
   induction m with
   | zero=>intro k v h; cases k <;> cases h
   | succ m ih=>
    intro k v h
    cases k with
    | zero=>cases h; rfl
    | succ k=>exact ih k v h
  exact hv (this m k v h)
 | x::l,m,0,v,h,hv=>h
 | x::l,m,k + 1,v,h,hv=>B2Q (l:=l) h hv
noncomputable def B9u (C:Cx) (K:Nat):Prop:=∀{fi:Fi} {A:Around} {X:List (Addr×Obj)} {σ σ':St} {f:Nat} {vs:List V} {v:V},nat f vs σ=some (v,σ')→Room A K→A3r C fi A X σ σ' f vs v
theorem B9v {o:Option (R×St)} {q:Prop} (h:back σ o=some (.v v,σ')) (H:∀fl w σ₂,o=some (.f fl,σ₂)→(fl=.next∧w=.none∨fl=.ret w)→some (w,{ tidy σ₂ σ.nx w with loc:=σ.loc,cel:=σ.cel })=some (v,σ')→q):q:=by
 match o with
 | some (.f .next,σ₂)=>exact H _ .none σ₂ rfl (.inl ⟨rfl,rfl⟩) (A4t h)
 | some (.f (.ret w),σ₂)=>exact H _ w σ₂ rfl (.inr rfl) (A4t h)
 | none | some (.v _,_) | some (.vs _,_) | some (.b _,_) | some (.f .brk,_) | some (.f .cont,_)=>exact A0a h
theorem B9t.locs {f:Nat} {fn:Fn} {fd:FuncData} {ps:List Str} {k:Nat} (F:B9t C f fn fd ps k) {ρ:Nat→List Nat} {nx m:Nat} {rvs:List Value} (hv:VRs ρ φ nx vs rvs) (hrl:rvs.length=fn.params):∀x i w,at? (A0i fd.scope).locs x=some i→nth (vs ++ List.replicate m .unb) i=some w→w≠.unb→∃rv,(ps.zip rvs).reverse.lookup x=some rv∧VR ρ φ nx w rv:=fun x i w h1 h2 h3=>by
 refine e1a2 (hv.nth (B2Q h2 h3)) fun rv h5 h6=>?_
 have hi:i < ps.length:=Nat.lt_of_lt_of_eq (List.getElem?_eq_some_iff.mp h5).1 (hrl.trans F.len.symm)
 have e1:=A1C (F.idx i ps[i] (List.getElem?_eq_getElem hi))
 rw [A1C h1] at e1
 exact ⟨rv,B1f F.nd (by rw [List.getElem?_eq_getElem hi]; exact e1.symm) h5,h6⟩
theorem B5x (O:OkC C) (h:Snd2 C r N) {FT:List Fn} {K:Nat} (hN:(nth FT 11).isSome=true→B9u C K) {f:Nat} (F:∀f fn,nth FT f=some fn→fn.params < 50→FnIs C f fn) (h30:K≤N + 1) (hE:step FT r (.app f vs) σ=some (.v v,σ')) (hR:Room A (N + 1)):A3r C fi A X σ σ' f vs v:=by
 intro φ s E Q rvs Iv hv q
 have hE:B0H FT r f vs σ=some (.v v,σ'):=hE
 unfold B0H at hE
 cases hn:A7d (nth FT 11).isSome f vs σ with
 | some p=>
  rw [hn] at hE
  unfold A7d at hn
  cases hb:(nth FT 11).isSome with
  | true=>rw [hb] at hn; exact hN hb (hn.trans (A4t hE)) (hR.mono h30) φ s E Q rvs Iv hv q
  | false=>rw [hb] at hn; exact A0a hn
 | none=>
  rw [hn] at hE
  refine A0p hE fun fn hfn hE=>A1p hE fun hlen hE=>?_
  refine e3a1 ((F f fn hfn (hlen.1▸hlen.2)).ex) fun fd ps k F=>?_
  refine e1a2 F.R.obj fun o f1 f2=>?_
  refine e1a2 (B0i Iv) fun Y hY1 hY2=>?_
  have hrl:rvs.length=fn.params:=hv.length.trans hlen.1
  refine wpAny_call (codeAny_call_def (A0v hR) (Iv.keep _ _ f1) f2 (O.H.nolimit.keeps Iv.keep) (F.R.code.keeps Iv.keep) F.R.body (F.bind s rvs hrl) F.R.cell (fun x hx=>F.R.loc _ (List.of_mem_zip hx).1) (fun h₁ hns hk=>?_) F.R.co F.R.gen F.R.kind)
  have I1:=Iv.enter O.H (loc:=vs ++ List.replicate (fn.size - vs.length) .unb) (s':={ heap:=h₁,gens:=s.gens,drawn:=s.drawn,toks:=s.toks + (ps.zip rvs).length,os:=s.os }) (F.R.env _) rfl hk (A0e s.heap) hY1 hY2 hns (F.locs hv hrl) rfl rfl rfl
  refine B9v hE fun fl w σ₂ hb hw hE=>h.ss hb hR.deep F.tr φ _ _ _ I1 fun φ' s' rf e I' fr=>?_
  have q:=q.fin hE
  have tn:(tidy σ₂ σ.nx w).nx=σ₂.nx:=A8I ..
  have I2:=Iv.leave hY1 hY2 (A8T I' σ.nx w) e (by rw [tn]; exact (h.nx _ _ _ _ hb :))
  rcases hw with ⟨rfl,rfl⟩ | rfl
  ·
   cases fr
   exact q φ' s' _ e I2 .none
  ·
   cases fr with
   | ret hv=>exact q φ' s' _ e I2 (by show VR C.ρ φ' (tidy σ₂ σ.nx w).nx w _; rw [tn]; exact hv)
end
end Mine
end
section
namespace Mine
open PySem PyProof.Rows
section
variable {prog:Program} {w:World} {A:Around} {s:Shared} {R:Result→Shared→Prop}
noncomputable def A4c (ifs:List PySem.Expr) (env:Env) (b:Bool):Sem Bool:=forIn ifs b fun c r=>if r=true then do let ok ←PySem.isTrue c env (eval c env); pure (ForInStep.yield ok) else pure (ForInStep.yield r)
theorem A9b (elt:PySem.Expr) (gens:List Comprehension) (scope:Scope) (pos:Pos) (d:Nat) (it acc:Value) (env:Env) {target iter:PySem.Expr} {ifs:List PySem.Expr} (hg:gens[d]?=some ⟨target,iter,ifs,0⟩):
  compTurn (.ListComp elt gens scope pos) d it acc env=(do
   standAt iter.pos
   match ←pyNext it with
   | none=>pure (.done .next)
   | some v=>
    letOwnedTupleGo target it v
    PySem.assign target env v
    let ok ←A4c ifs env true
    if ok then
     match gens[d + 1]? with
     | some g'=>
      let x ←eval g'.iter env
      standAt g'.iter.pos
      let x ←if g'.is_async != 0 then foldedIterable g'.iter x else foldedSetIterable g'.iter env x
      let _ ←runOwn (.compStart (.ListComp elt gens scope pos) (d + 1) (←holding [x] (if g'.is_async != 0 then asyncIter x else pyIter x)) acc env) env
     | none=>(do let _ ←call (.builtin "list.append") [acc,←eval elt env])
    again (.compLoop (.ListComp elt gens scope pos) d it acc env)):=by
 unfold compTurn
 simp only [hg]
 rfl
structure TP where
 (C:Cx) (A:Around) (R:Result→Shared→Prop) (elt:PySem.Expr) (gens:List Comprehension) (scope:Scope) (pos:Pos) (d:Nat) (it acc:Value) (env:Env) (target:PySem.Expr) (ifs:List PySem.Expr)
noncomputable def TP.again (Z:TP) (s:Shared):Prop:=codeAny (MM Z.C) Z.A (.compLoop (.ListComp Z.elt Z.gens Z.scope Z.pos) Z.d Z.it Z.acc Z.env) Z.R s
noncomputable def TP.nest (Z:TP) (E:Value→Shared→Prop) (g':Comprehension) (s:Shared):Prop:=wpAny (MM Z.C) Z.A (eval g'.iter Z.env) (fun x s=>wpAny (MM Z.C) Z.A (pyIter x) (fun it' s=>codeAny (MM Z.C) Z.A (.compStart (.ListComp Z.elt Z.gens Z.scope Z.pos) (Z.d + 1) it' Z.acc Z.env) (fun r s=>match r with
        | .ok _=>Z.again s
        | .error e=>False) s) E s) E s
noncomputable def TP.leaf (Z:TP) (E:Value→Shared→Prop) (s:Shared):Prop:=wpAny (MM Z.C) Z.A (eval Z.elt Z.env) (fun x s=>wpAny (MM Z.C) Z.A (call (.builtin "list.append") [Z.acc,x]) (fun _ s=>Z.again s) E s) E s
noncomputable def TP.tested (Z:TP) (E:Value→Shared→Prop) (ok:Bool) (s:Shared):Prop:=match ok with
 | true=>match Z.gens[Z.d + 1]? with
  | some g'=>Z.nest E g' s
  | none=>Z.leaf E s
 | false=>Z.again s
noncomputable def TP.asg (Z:TP) (E:Value→Shared→Prop) (v:Value) (s:Shared):Prop:=wpAny (MM Z.C) Z.A (PySem.assign Z.target Z.env v) (fun _ s=>wpAny (MM Z.C) Z.A (A4c Z.ifs Z.env true) (Z.tested E) E s) E s
noncomputable def TP.item (Z:TP) (E:Value→Shared→Prop) (r:Option Value) (s:Shared):Prop:=match r with
 | none=>Z.R (.ok .next) s
 | some v=>wpAny (MM Z.C) Z.A (letOwnedTupleGo Z.target Z.it v) (fun _ s=>Z.asg E v s) E s
theorem A9c (Z:TP) {iter:PySem.Expr} (hg:Z.gens[Z.d]?=some ⟨Z.target,iter,Z.ifs,0⟩)
  (hz:∀g',Z.gens[Z.d + 1]?=some g'→g'.is_async=0∧∀x,foldedSetIterable g'.iter Z.env x=pure x)
  (h:∀E,wpAny (MM Z.C) Z.A (pyNext Z.it) (Z.item E) E s):Z.again s:=by
 refine codeAny_of_tree ?_
 show wpAny _ Z.A ((compTurn (.ListComp Z.elt Z.gens Z.scope Z.pos) Z.d Z.it Z.acc Z.env).onRaise (fun x=>do noteFrame x Z.env; theTreesLotGoes x)) _ _ s
 refine wpAny_noted ?_
 rw [A9b Z.elt Z.gens Z.scope Z.pos Z.d Z.it Z.acc Z.env hg]
 refine wpAny_bind (wpAny_standAt (wpAny_bind (wpAny_mono (h _) (fun r s₁ h₁=>?_) fun _ _ h'=>h')))
 cases r with
 | none=>exact wpAny_pure h₁
 | some v=>
  refine wpAny_bind (wpAny_mono (h₁:wpAny _ _ _ _ _ _) (fun _ s₁' h₁'=>?_) fun _ _ h'=>h')
  refine wpAny_bind (wpAny_mono (h₁':wpAny _ _ _ _ _ _) (fun _ s₂ h₂=>wpAny_bind (wpAny_mono h₂ (fun ok s₃ h₃=>?_) fun _ _ h'=>h')) fun _ _ h'=>h')
  cases ok with
  | false=>exact wpAny_pure ⟨rfl,h₃⟩
  | true=>
   have h₃:(match Z.gens[Z.d + 1]? with | some g'=>Z.nest _ g' s₃ | none=>Z.leaf _ s₃):=h₃
   rw [if_pos rfl]
   cases hn:Z.gens[Z.d + 1]? with
   | none=>
    rw [hn] at h₃
    exact wpAny_bind (wpAny_bind (wpAny_mono (h₃:wpAny _ _ _ _ _ _) (fun x s₄ h₄=>wpAny_bind (wpAny_mono h₄ (fun _ s₅ h₅=>wpAny_pure (wpAny_pure ⟨rfl,h₅⟩)) fun _ _ h'=>h')) fun _ _ h'=>h'))
   | some g'=>
    rw [hn] at h₃
    obtain ⟨ha,hf⟩:=hz g' hn
    have hb:(g'.is_async != 0)=false:=by rw [ha]; rfl
    refine wpAny_bind (wpAny_mono (h₃:wpAny _ _ _ _ _ _) (fun x s₄ h₄=>?_) fun _ _ h'=>h')
    refine wpAny_bind (wpAny_standAt ?_)
    simp only [hb,Bool.false_eq_true,if_false]
    refine wpAny_bind (wpAny_of_eq (hf x) (wpAny_bind (wpAny_holding (wpAny_mono h₄ (fun it' s₅ h₅=>?_) fun _ _ h'=>h'))))
    refine wpAny_bind (wpAny_runOwn (codeAny_mono h₅ fun r s₆ h₆=>?_))
    cases r with
    | ok f=>exact wpAny_pure ⟨rfl,h₆⟩
    | error e=>exact h₆.elim
theorem A5X {elt:PySem.Expr} {gens:List Comprehension} {scope:Scope} {pos:Pos} {d:Nat} {it acc:Value} {env:Env} {target iter:PySem.Expr} {ifs:List PySem.Expr} (hg:gens[d]?=some ⟨target,iter,ifs,0⟩)
  (h0:codeAny (model prog w) A (.compLoop (.ListComp elt gens scope pos) d it acc env) R s)
  (h:∀E,wpAny (model prog w) A (pyIter it) (fun it' s'=>codeAny (model prog w) A (.compLoop (.ListComp elt gens scope pos) d it' acc env) R s') E s):
  codeAny (model prog w) A (.compStart (.ListComp elt gens scope pos) d it acc env) R s:=by
 refine codeAny_of_tree ?_
 show wpAny _ _ ((compStart (.ListComp elt gens scope pos) d it acc env).onRaise (fun x=>do noteFrame x env; standAt theWindowsPlace)) _ _ s
 refine wpAny_notedAt ?_
 unfold compStart
 rw [show (clausesOf (.ListComp elt gens scope pos))[d]?=some ⟨target,iter,ifs,0⟩ from hg]
 show wpAny _ _ (if ((0:Nat) != 0)=true then _ else _) _ _ s
 rw [if_neg (by decide)]
 show wpAny _ _ (ask >>= _) _ _ s
 refine wpAny_bind (wpAny_askSetting (wpAny_ite ?_))
 split
 ·
  first
   | exact wpAny_bind (wpAny_pure (wpAny_pure (And.intro rfl h0)))
   | exact wpAny_pure (And.intro rfl h0)
 ·
  first
   | exact wpAny_bind (wpAny_rule (wpAny_bind (wpAny_standAt (wpAny_bind (wpAny_mono (h _) (fun it' s' h'=>wpAny_pure (And.intro rfl h')) fun _ _ x=>x)))))
   | (refine wpAny_bind (wpAny_rule ?_); show wpAny _ _ (standAt iter.pos >>= _) _ _ s; exact wpAny_bind (wpAny_standAt (wpAny_bind (wpAny_mono (h _) (fun it' s' h'=>wpAny_pure (And.intro rfl h')) fun _ _ x=>x))))
end
end Mine
end
section
namespace Mine
open PySem PyProof.Rows
section
variable {C:Cx} {fi:Fi} {φ φ':Nat→Addr} {X:List (Addr×Obj)} {σ σ' σ₁ σ₂ σ₃:St} {s s':Shared} {A:Around} {n:Nat} {r:Run} {N:Nat} {v:V} {vs:List V}
noncomputable def A5Y (C:Cx) (fi:Fi) (A:Around) (X:List (Addr×Obj)) (σ σ':St) (b:Bool) (exs:List PySem.Expr):Prop:=∀φ s E Q,Inv C fi φ X σ s→A8D C fi φ X σ σ' b Q→wpAny (MM C) A (A4c exs fi.env true) Q E s
noncomputable def B2R (k:Nat) (c:Ctx) (gens:List Gen) (l:List Comprehension):Prop:=All2 (TrG (TrT k c) (TrE k c) c) gens l
structure B8n (cx:Ctx) (eltx:PySem.Expr) (gensx:List Comprehension) (d:Nat) (te:PySem.Expr) (ifsx:List PySem.Expr) (elt:Mine.E) (tg:Tg) (ifs:List Mine.E) (gens:List (Tg×ItK×List Mine.E×List Mine.E)):Prop where
 g:∃itx,gensx[d]?=some ⟨te,itx,ifsx,0⟩
 e:∃k,TrE k cx elt eltx
 t:∃k,TrT k cx tg te
 i:∃k,TrL (TrE k cx) ifs ifsx
 r:∃k,B2R k cx gens (gensx.drop (d + 1))
noncomputable def A5Z (C:Cx) (fi:Fi) (A:Around) (X:List (Addr×Obj)) (σ σ':St) (acc:Nat) (l:List V) (te eltx:PySem.Expr) (gensx:List Comprehension) (d:Nat):Prop:=
 ∀φ s R I fp wr n P St i sc pos,A4X C A te I fp wr n P St→St i s.heap→i + l.length=n→(∀j v (hj:j < l.length),P (i + j) v→VR C.ρ φ σ.nx l[j] v)→FpOk C fi φ X σ fp wr→Inv C fi φ X σ s→acc < σ.nx→
  (∀φ' s',Ext φ φ' σ.nx→Inv C fi φ' X σ' s'→R (.ok .next) s')→codeAny (MM C) A (.compLoop (.ListComp eltx gensx sc pos) d (.ref I) (.ref (φ acc)) fi.env) R s
noncomputable def A7K (C:Cx) (fi:Fi) (A:Around) (X:List (Addr×Obj)) (σ σ':St) (acc:Nat) (eltx:PySem.Expr) (gensx:List Comprehension) (d:Nat) (itx:PySem.Expr):Prop:=
 ∀φ s E (Q:Shared→Prop) sc pos,Inv C fi φ X σ s→acc < σ.nx→(∀φ' s',Ext φ φ' σ.nx→Inv C fi φ' X σ' s'→Q s')→
  wpAny (MM C) A (eval itx fi.env) (fun x s₄=>wpAny (MM C) A (pyIter x) (fun it' s₅=>codeAny (MM C) A (.compStart (.ListComp eltx gensx sc pos) d it' (.ref (φ acc)) fi.env) (fun r s₆=>match r with
        | .ok _=>Q s₆
        | .error e=>False) s₅) E s₄) E s
structure Snd3 (C:Cx) (r:Run) (N:Nat):Prop extends Snd2 C r N where
 tests:∀{σ σ':St} {b:Bool} {l:List Mine.E} {fi:Fi} {A:Around} {X:List (Addr×Obj)} {k:Nat} {exs:List PySem.Expr},r (.ts true l) σ=some (.b b,σ')→Room A N→TrL (TrE k fi.cx) l exs→A5Y C fi A X σ σ' b exs
 turns:∀{σ σ':St} {elt:Mine.E} {tg:Tg} {ifs:List Mine.E} {gens:List (Tg×ItK×List Mine.E×List Mine.E)} {acc:Nat} {l:List V} {fi:Fi} {A:Around} {X:List (Addr×Obj)} {eltx te:PySem.Expr} {gensx:List Comprehension} {d:Nat} {ifsx:List PySem.Expr},
  r (.turns elt tg ifs gens acc l) σ=some (.f .next,σ')→Room A N→B8n fi.cx eltx gensx d te ifsx elt tg ifs gens→A5Z C fi A X σ σ' acc l te eltx gensx d
 comp:∀{σ σ':St} {elt:Mine.E} {gens:List (Tg×ItK×List Mine.E×List Mine.E)} {acc:Nat} {fi:Fi} {A:Around} {X:List (Addr×Obj)} {eltx:PySem.Expr} {gensx:List Comprehension} {d:Nat} {g':Comprehension},
  r (.comp elt gens acc) σ=some (.f .next,σ')→Room A N→gensx[d]?=some g'→(∃k,TrE k fi.cx elt eltx)→(∃k,B2R k fi.cx gens (gensx.drop d))→A7K C fi A X σ σ' acc eltx gensx d g'.iter
theorem A5c {M:Model} {E:Value→Shared→Prop} {env:Env}:∀{exs:List PySem.Expr} {s:Shared} {Q:Bool→Shared→Prop},Q false s→wpAny M A (A4c exs env false) Q E s
 | [],s,Q,h=>wpAny_pure h
 | x::r,s,Q,h=>by
  unfold A4c
  rw [List.forIn_cons]
  simp only [Bool.false_eq_true,if_false]
  refine wpAny_bind (wpAny_pure ?_)
  exact A5c (exs:=r) h
theorem B1g (h:Snd3 C r N) {b:Bool} {exs:List PySem.Expr} {l:List Mine.E} {k:Nat} {FT:List Fn} (hE:step FT r (.ts true l) σ=some (.b b,σ')) (hR:Room A (N + 1)) (h1:TrL (TrE k fi.cx) l exs):A5Y C fi A X σ σ' b exs:=by
 intro φ s E Q Iv q
 cases l with
 | nil=>
  cases hE
  rw [show exs=[] from h1]
  exact wpAny_pure (q φ s (Ext.refl _ _) Iv)
 | cons e l=>
  refine e2a3 h1 fun x rest ex t1 t2=>?_
  rw [ex]
  refine A4S hE fun c σ₁ ha hE=>?_
  unfold A4c
  rw [List.forIn_cons,if_pos rfl]
  refine wpAny_bind (wpAny_bind (h.t ha hR.dn t1.2 φ s E _ Iv fun φ1 s1 e1 I1=>wpAny_pure ?_))
  cases c with
  | true=>exact h.tests hE hR.dn t2 φ1 s1 E Q I1 (q.step e1 (h.nx _ _ _ _ ha))
  | false=>cases hE; exact A5c (exs:=rest) (q φ1 s1 e1 I1)
theorem B2S (O:OkC C) (h:Snd3 C r N) {FT:List Fn} {elt:Mine.E} {gens:List (Tg×ItK×List Mine.E×List Mine.E)} {acc:Nat} {eltx:PySem.Expr} {gensx:List Comprehension} {d:Nat} {g':Comprehension} (hE:step FT r (.comp elt gens acc) σ=some (.f .next,σ')) (hR:Room A (N + 1)) (hg:gensx[d]?=some g')
  (he:∃k,TrE k fi.cx elt eltx) (ht:∃k,B2R k fi.cx gens (gensx.drop d)):A7K C fi A X σ σ' acc eltx gensx d g'.iter:=by
 intro φ s E Q sc pos Iv hacc q
 obtain ⟨kg,ht⟩:=ht
 have hdrop:gensx.drop d=g'::gensx.drop (d + 1):=by
  obtain ⟨hlt,hge⟩:=List.getElem?_eq_some_iff.mp hg
  rw [List.drop_eq_getElem_cons hlt,hge]
 rw [hdrop] at ht
 match gens,ht with
 | [],ht=>exact nomatch ht
 | (tg,kd,es,ifs)::gens,⟨g0,rest0,e0,t1,t2⟩=>
 obtain ⟨rfl,rfl⟩:=List.cons.inj e0
 refine e3a4 t1 fun te it ifsx e3z u1 u2 u3=>?_
 subst e3z
 refine A8Z (X:=X) (K:=fun l σ=>r (.turns elt tg ifs gens acc l) σ) O h.toSnd hR u2 hE fun l σf x σe hK n1 e1 e2 key=>?_
 cases e1
 have nE:=h.nx _ _ _ _ hK
 refine key φ s E _ Iv fun φ1 s2 I fp wr n P St X' x1 hT hst hlen hP hfp I2 thaw=>?_
 have loop:∀s2,St 0 s2.heap→Inv C fi φ1 X' σf s2→codeAny (MM C) A (.compLoop (.ListComp eltx gensx sc pos) d (.ref I) (.ref (φ acc)) fi.env) (fun r s₆=>match r with
        | .ok _=>Q s₆
        | .error e=>False) s2:=fun s2 hst I2=>by
  rw [←x1 acc hacc]
  exact h.turns hK hR.dn ⟨⟨_,hg⟩,he,⟨kg,u1⟩,⟨kg,u3⟩,⟨kg,t2⟩⟩ φ1 s2 _ I fp wr n P St 0 sc pos (hT te kg _ tg u1) hst (hlen▸Nat.zero_add _) (fun j v hj hp=>hP j v hj (Nat.zero_add j▸hp)) hfp I2 (Nat.lt_of_lt_of_le hacc n1) fun φ2 s3 x2 I3=>
   q φ2 s3 (x1.trans x2 n1) (thaw φ2 s3 x2 nE I3).1
 exact A5X hg (loop s2 hst I2) fun E'=>(hT te kg _ tg u1).self 0 s2 _ E' hst (loop s2 hst I2)
noncomputable abbrev tpOf (C:Cx) (fi:Fi) (A:Around) (R:Result→Shared→Prop) (eltx:PySem.Expr) (gensx:List Comprehension) (sc:Scope) (pos:Pos) (d:Nat) (I a:Addr) (te:PySem.Expr) (ifsx:List PySem.Expr):TP:=⟨C,A,R,eltx,gensx,sc,pos,d,.ref I,.ref a,fi.env,te,ifsx⟩
theorem B1h (O:OkC C) (h:Snd3 C r N) {FT:List Fn} {elt:Mine.E} {tg:Tg} {ifs:List Mine.E} {gens:List (Tg×ItK×List Mine.E×List Mine.E)} {acc:Nat} {l:List V} {eltx te:PySem.Expr} {gensx:List Comprehension} {d:Nat} {ifsx:List PySem.Expr}
  (hE:step FT r (.turns elt tg ifs gens acc l) σ=some (.f .next,σ')) (hR:Room A (N + 1)) (hT:B8n fi.cx eltx gensx d te ifsx elt tg ifs gens):A5Z C fi A X σ σ' acc l te eltx gensx d:=by
 intro φ s R I fp wr n P St i sc pos W hst hn hP hfp Iv hacc q
 obtain ⟨itx,hg⟩:=hT.g
 obtain ⟨ke,he⟩:=hT.e
 obtain ⟨kt,h1⟩:=hT.t
 obtain ⟨ki,h2⟩:=hT.i
 obtain ⟨kr,h3⟩:=hT.r
 have hwr:∀b∈wr,C.h₀.get? b=none∧(∀j∈A0c σ.hp,φ j≠b)∧b∉fi.ads X:=fun b hb=>let z:=hfp.1 b (W.sub b hb); ⟨z.1,z.2.1,hfp.2 b hb⟩
 have hdrop:∀g',gensx[d + 1]?=some g'→gensx.drop (d + 1)=g'::gensx.drop (d + 1 + 1):=fun g' hg'=>by
  obtain ⟨hlt,hge⟩:=List.getElem?_eq_some_iff.mp hg'
  rw [List.drop_eq_getElem_cons hlt,hge]
 have hz:∀g',gensx[d + 1]?=some g'→g'.is_async=0∧∀x,foldedSetIterable g'.iter fi.env x=pure x:=fun g' hg'=>by
  have h3:=h3
  rw [hdrop g' hg'] at h3
  match gens,h3 with
  | [],h3=>exact nomatch h3
  | t::gens,⟨g0,rest0,e0,t1,t2⟩=>
  obtain ⟨rfl,rfl⟩:=List.cons.inj e0
  refine e3a4 t1 fun te' it' ifs' e3z u1 u2 u3=>?_
  subst e3z
  exact ⟨rfl,fun x=>A1t u2 x⟩
 refine A9c (tpOf C fi A R eltx gensx sc pos d I (φ acc) te ifsx) hg hz fun E=>?_
 cases l with
 | nil=>
  have e:=Prod.mk.inj (Option.some.inj hE)
  have hin:i=n:=hn
  subst hin
  refine wpAny_mono (W.done s (fun s₁=>R (.ok .next) s₁) E hst fun h' tk hk=>?_) (fun o s₁ h₁=>?_) fun _ _ e=>e
  ·
   exact q φ _ (Ext.refl _ _) (e.2▸Iv.keepsBut O.H wr hwr hk rfl rfl rfl)
  ·
   cases o with
   | none=>exact h₁
   | some v=>exact h₁.elim
 | cons x xs=>
  refine A0p hE fun σ₁ ha hE=>?_
  have hanx:=(A1J ha).1
  have hn1:i + 1 + xs.length=n:=(Nat.succ_add_eq_add_succ i xs.length).trans hn
  refine wpAny_mono (W.item i s ((tpOf C fi A R eltx gensx sc pos d I (φ acc) te ifsx).asg E) E (Nat.lt_of_lt_of_le (Nat.lt_of_lt_of_le (Nat.lt_succ_self i) (Nat.le_add_right _ _)) (Nat.le_of_eq hn1)) hst fun v h' tk hPv hst' hk=>?_) (fun o s₁ h₁=>?_) fun _ _ e=>e
  ·
   have I1:Inv C fi φ X σ { s with heap:=h',toks:=tk }:=Iv.keepsBut O.H wr hwr hk rfl rfl rfl
   refine e1a2 (A4Y (s:={ s with heap:=h',toks:=tk }) (W.live _ _ hst')) fun Y hY1 hY2=>?_
   have inY:∀b∈fp,∃p∈Y,p.1=b:=fun b hb=>List.mem_map.mp (hY1▸hb)
   have I2:Inv C fi φ (Y ++ X) σ { s with heap:=h',toks:=tk }:=I1.hold fun p hp=>
    have z:=hfp.1 p.1 (hY1▸List.mem_map_of_mem hp)
    ⟨z.1,hY2 p hp,z.2.1,z.2.2⟩
   have again:∀{σ₂:Mine.St} {φ':Nat→Addr} {s₃:Shared},r (.turns elt tg ifs gens acc xs) σ₂=some (.f .next,σ')→Ext φ φ' σ.nx→σ.nx≤σ₂.nx→Inv C fi φ' (Y ++ X) σ₂ s₃→codeAny (MM C) A (.compLoop (.ListComp eltx gensx sc pos) d (.ref I) (.ref (φ acc)) fi.env) R s₃:=fun {σ₂ φ' s₃} hE e3 n3 I4=>by
    have st3:St (i + 1) s₃.heap:=W.frame _ _ _ hst' fun b hb o e=>(inY b hb).elim fun p hp=>by
     obtain ⟨hp,rfl⟩:=hp
     rw [Option.some.inj (e.symm.trans (hY2 p hp))]
     exact I4.xs p (List.mem_append_left _ hp)
    rw [←e3 acc hacc]
    refine h.turns hE hR.dn hT φ' s₃ R I fp wr n P St (i + 1) sc pos W st3 hn1 (fun j v hj hp=>VR.ext (hP (j + 1) v (Nat.succ_lt_succ hj) (Nat.succ_add_eq_add_succ i j▸hp)) e3 n3) ⟨fun b hb=>?_,hfp.2⟩ I4.loose (Nat.lt_of_lt_of_le hacc n3) fun φ2 s4 e4 I5=>q φ2 s4 (e3.trans e4 n3) I5
    have z:=hfp.1 b hb
    refine ⟨z.1,?_,z.2.2⟩
    refine e1a2 (inY b hb) fun p hp e2z=>?_
    subst e2z
    exact (I4.off p.1 (I4.xIn (List.mem_append_left _ hp))).2
   refine B0f O hR.handled h1 ha I2 (hP 0 v (Nat.succ_pos _) hPv) fun s₂ I3=>A9Y hE fun b σ₂ hb hE=>h.tests (X:=Y ++ X) hb hR.dn h2 φ s₂ E _ I3 fun φ1 s₃ e1 I4=>?_
   have n2:σ.nx≤σ₂.nx:=hanx▸h.nx _ _ _ _ hb
   have e1:Ext φ φ1 σ.nx:=hanx▸e1
   cases b with
   | false=>exact again hE e1 n2 I4
   | true=>
    show (match gensx[d + 1]? with | some g'=>(tpOf C fi A R eltx gensx sc pos d I (φ acc) te ifsx).nest E g' s₃ | none=>(tpOf C fi A R eltx gensx sc pos d I (φ acc) te ifsx).leaf E s₃)
    cases gens with
    | nil=>
     have hn1:gensx[d + 1]?=none:=by
      cases hq:gensx[d + 1]? with
      | none=>rfl
      | some g'=>exact nomatch (hdrop g' hq).symm.trans h3
     rw [hn1]
     refine A1R hE fun y σ₃ hc hE=>A3j hE fun ys hga hE=>A1p hE fun hlen hE=>?_
     have n3:=h.nx _ _ _ _ hc
     refine (h.e hc hR.dn he).then I4 fun φ2 s₄ ry e2 I5 vy=>?_
     have ea:φ2 acc=φ acc:=(e2 acc (Nat.lt_of_lt_of_le hacc n2)).trans (e1 acc hacc)
     rw [←ea]
     refine A7u O.H I5 hga hlen vy fun φ3 s₅ rv e3 I6 _=>?_
     rw [ea]
     exact again hE ((e1.trans e2 n2).trans e3 (Nat.le_trans n2 n3)) (Nat.le_trans n2 n3) I6
    | cons t gens=>
     cases hq:gensx[d + 1]? with
     | none=>
      rw [List.drop_of_length_le (List.getElem?_eq_none_iff.mp hq)] at h3
      refine e2a2 h3 fun _ _ e _=>?_
      exact nomatch e
     | some g'=>
      refine A9Z hE fun σ₃ hc hE=>?_
      show wpAny (MM C) A (eval g'.iter fi.env) _ E s₃
      rw [←e1 acc hacc]
      refine h.comp hc hR.dn hq ⟨ke,he⟩ ⟨kr,h3⟩ φ1 s₃ E _ sc pos I4 (Nat.lt_of_lt_of_le hacc n2) fun φ2 s₄ e2 I5=>?_
      rw [e1 acc hacc]
      exact again hE (e1.trans e2 n2) (Nat.le_trans n2 (h.nx _ _ _ _ hc)) I5
  ·
   cases o with
   | none=>exact h₁.elim
   | some v=>exact h₁
end
end Mine
end
section
namespace Mine
open PySem PyProof.Rows
section
variable {C:Cx} {fi:Fi} {φ φ':Nat→Addr} {X:List (Addr×Obj)} {σ σ' σ₁ σ₂ σ₃:St} {s s':Shared} {A:Around} {n:Nat} {r:Run} {N:Nat} {v:V} {vs:List V}
theorem A4d (env:Env):∀(names:List (Str×NameKind)) (cs:List (Str×Addr)),(∀p∈names,p.2=.free→∃a,env.cells.lookup p.1=some a)→(∀x a,cs.lookup x=some a→env.cells.lookup x=some a)→
  ∃cl:List (Str×Addr),(forIn names cs fun (p:Str×NameKind) (cs:List (Str×Addr))=>(if (p.2 == .free)=true then do let a ←cellOf env p.1; pure (ForInStep.yield ((p.1,a)::cs)) else pure (ForInStep.yield cs):Sem (ForInStep (List (Str×Addr)))))=(pure cl:Sem _)∧
   (∀x a,cl.lookup x=some a→env.cells.lookup x=some a)∧(∀x,(cs.lookup x).isSome=true→(cl.lookup x).isSome=true)∧∀x,(x,NameKind.free)∈names→(cl.lookup x).isSome=true
 | [],cs,_,h=>⟨cs,rfl,h,fun _ h=>h,fun x hx=>nomatch hx⟩
 | (x,k)::names,cs,hf,h=>by
  rw [List.forIn_cons]
  by_cases hk:k=.free
  ·
   subst hk
   obtain ⟨a,ha⟩:=hf (x,.free) (.head _) rfl
   have hc:cellOf env x=pure a:=by unfold cellOf; rw [ha]
   obtain ⟨cl,e1,e2,e3,e4⟩:=A4d env names ((x,a)::cs) (fun p hp=>hf p (.tail _ hp)) fun y b hb=>by
    rw [List.lookup_cons] at hb
    cases q:y == x with
    | true=>rw [q] at hb; cases hb; rw [beq_iff_eq.mp q]; exact ha
    | false=>rw [q] at hb; exact h y b hb
   refine ⟨cl,?_,e2,fun y hy=>e3 y ?_,fun y hy=>?_⟩
   ·
    simp only [beq_self_eq_true,if_true,hc,pure_bind]
    exact e1
   ·
    rw [List.lookup_cons]
    cases y == x with
    | true=>rfl
    | false=>exact hy
   ·
    rcases List.mem_cons.mp hy with e | hy
    ·
     cases e
     exact e3 x (by rw [List.lookup_cons,beq_self_eq_true]; rfl)
    ·
     exact e4 y hy
  ·
   refine e1a4 (A4d env names cs (fun p hp=>hf p (.tail _ hp)) h) fun cl e1 e2 e3 e4=>?_
   have hb:(k == NameKind.free)=false:=by simpa using hk
   refine ⟨cl,?_,e2,e3,fun y hy=>?_⟩
   ·
    simp only [hb,Bool.false_eq_true,if_false,pure_bind]
    exact e1
   ·
    rcases List.mem_cons.mp hy with e | hy
    ·
     cases e; exact absurd rfl hk
    ·
     exact e4 y hy
theorem A6I (env:Env) (sc:Scope) (hf:∀p∈sc.names,p.2=.free→∃a,env.cells.lookup p.1=some a):
  ∃cl:List (Str×Addr),closureFor sc env=pure cl∧∀x,(x,NameKind.free)∈sc.names→cl.lookup x=env.cells.lookup x:=by
 refine e1a4 (A4d env sc.names [] hf (fun x a h=>by cases h)) fun cl e1 e2 e3 e4=>?_
 refine ⟨cl,?_,fun x hx=>?_⟩
 ·
  have e0:closureFor sc env=((forIn sc.names [] fun (p:Str×NameKind) (cs:List (Str×Addr))=>(if (p.2 == .free)=true then do let a ←cellOf env p.1; pure (ForInStep.yield ((p.1,a)::cs)) else pure (ForInStep.yield cs):Sem (ForInStep (List (Str×Addr))))) >>= fun cs=>pure cs):=rfl
  rw [e0,e1]
  rfl
 ·
  obtain ⟨a,ha⟩:=Option.isSome_iff_exists.mp (e4 x hx)
  rw [ha,e2 x a ha]
theorem A0O {α β:Type} [BEq α] [LawfulBEq α]:∀{l:List (α×β)} {x:α} {k:β},l.lookup x=some k→(x,k)∈l
 | [],_,_,h=>by cases h
 | (y,k')::l,x,k,h=>by
  rw [List.lookup_cons] at h
  cases q:x == y with
  | true=>rw [q] at h; cases h; rw [beq_iff_eq.mp q]; exact .head _
  | false=>rw [q] at h; exact .tail _ (A0O h)
theorem A2r {env:Env} {k0:NameKind} (hk0:k0≠.free):∀{names:List (Str×NameKind)} {x:Str},names.lookup x=some k0→
  (names.map fun (p:Str×NameKind)=>match p with | (n,k)=>if (k == NameKind.free && env.scope.kind == .function && env.kindOf n == some .cell) then (n,NameKind.cell) else (n,k)).lookup x=some k0
 | [],_,h=>by cases h
 | (n,k)::r,x,h=>by
  have ih:=@A2r env k0 hk0 r x
  rw [List.lookup_cons] at h
  rw [List.map_cons]
  cases hx:x == n with
  | true=>
   rw [hx] at h
   cases h
   have:(k0 == NameKind.free)=false:=by simpa using hk0
   simp only [this,Bool.false_and,Bool.false_eq_true,if_false]
   rw [List.lookup_cons,hx]
  | false=>
   rw [hx] at h
   simp only
   split <;> (rw [List.lookup_cons,hx]; exact ih h)
theorem A4n {env:Env}:∀{names:List (Str×NameKind)} {x:Str},names.lookup x=some .free→
  (names.map fun (p:Str×NameKind)=>match p with | (n,k)=>if (k == NameKind.free && env.scope.kind == .function && env.kindOf n == some .cell) then (n,NameKind.cell) else (n,k)).lookup x=some .cell∨
  (names.map fun (p:Str×NameKind)=>match p with | (n,k)=>if (k == NameKind.free && env.scope.kind == .function && env.kindOf n == some .cell) then (n,NameKind.cell) else (n,k)).lookup x=some .free
 | [],_,h=>by cases h
 | (n,k)::r,x,h=>by
  have ih:=@A4n env r x
  rw [List.lookup_cons] at h
  rw [List.map_cons]
  cases hx:x == n with
  | true=>
   rw [hx] at h
   cases h
   simp only
   split
   ·
    left; rw [List.lookup_cons,hx]
   ·
    right; rw [List.lookup_cons,hx]
  | false=>
   rw [hx] at h
   simp only
   split <;> (rw [List.lookup_cons,hx]; exact ih h)
theorem A3w {c:Ctx} {sc:Scope} (h:A0x c sc=true):sc.kind=.function∧∀p∈sc.names,p.1≠("__debug__" : Str)∧(p.2=.local→sc.names.lookup p.1=some .local)∧p.2≠.cell∧
  (p.2=.free→(at? c.cels p.1).isSome=true∧(c.names.lookup p.1=some .cell∨c.names.lookup p.1=some .free)):=by
 unfold A0x at h
 rw [Bool.and_eq_true] at h
 refine ⟨beq_iff_eq.mp h.1,fun p hp=>?_⟩
 have:=List.all_eq_true.mp h.2 p hp
 rw [Bool.and_eq_true] at this
 obtain ⟨h1,h2⟩:=this
 obtain ⟨x,k⟩:=p
 refine ⟨by simpa using h1,?_⟩
 cases k with
 | «local»=>exact ⟨fun _=>beq_iff_eq.mp h2,(fun e=>nomatch e),(fun e=>nomatch e)⟩
 | free=>
  simp only [Bool.and_eq_true,Bool.or_eq_true,beq_iff_eq] at h2
  exact ⟨(fun e=>nomatch e),(fun e=>nomatch e),fun _=>h2⟩
 | globalImplicit=>exact ⟨(fun e=>nomatch e),(fun e=>nomatch e),(fun e=>nomatch e)⟩
 | _=>exact (Bool.false_ne_true h2).elim
theorem B5y (he:A2E fi) {sc:Scope} {cl:List (Str×Addr)} {L:Addr} (h:A0x fi.cx sc=true) (hcl:∀x,(x,NameKind.free)∈sc.names→cl.lookup x=fi.env.cells.lookup x):
  A2E ⟨compEnvC sc cl L fi.env,⟨sc.names,A0t sc.names,fi.cx.cels⟩,fi.cad⟩:=by
 obtain ⟨hk,hp⟩:=A3w h
 exact {
  kind:=hk
  globals:=he.globals
  builtins:=he.builtins
  loc:=fun x hx=>A2r (by decide) hx
  glob:=fun x hx=>A2r (by decide) hx
  celk:=fun x hx=>absurd rfl (hp _ (A0O hx)).2.2.1
  frek:=fun x hx=>A4n hx
  cell:=fun x k hx hc=>by
   rcases hx with hx | hx
   ·
    exact absurd rfl (hp _ (A0O hx)).2.2.1
   ·
    have hm:=A0O hx
    refine e1a2 (he.cell x k ((hp _ hm).2.2.2 rfl).2 hc) fun a h1 h2=>?_
    exact ⟨a,h1,(hcl x hm).trans h2⟩
  nclass:=he.nclass
  ndebug:=fun x hx=>by
   obtain ⟨k,hk⟩:=Option.isSome_iff_exists.mp hx
   exact beq_false_of_ne (hp _ (A0O hk)).1 }
end
end Mine
end
section
namespace Mine
open PySem PyProof.Rows
section
variable {C:Cx} {fi:Fi} {φ φ':Nat→Addr} {X:List (Addr×Obj)} {σ σ' σ₁ σ₂ σ₃:St} {s s':Shared} {A:Around} {n:Nat} {r:Run} {N:Nat} {v:V} {vs:List V}
theorem Inv.enterC (H:C.Ok) (I:Inv C fi φ X σ s) {fi':Fi} {ob:Obj} {m:Str→Option Value} {loc:List V} (he:A2E fi') (hc:fi'.cad=fi.cad) (hk:∀b o,s.heap.get? b=some o→s'.heap.get? b=some o) (hfree:s.heap.get? fi'.env.locals=none)
  (hob:s.heap.get? fi.env.locals=some ob) (hns:s'.heap.Ns fi'.env.locals m) (hl:∀x k v,at? fi'.cx.locs x=some k→nth loc k=some v→v≠.unb→∃rv,m x=some rv∧VR C.ρ φ σ.nx v rv)
  (hg:s'.gens=s.gens) (hd:s'.drawn=s.drawn) (ho:s'.os=s.os):Inv C fi' φ ((fi.env.locals,ob)::X) { loc:=loc,cel:=σ.cel,hp:=σ.hp,nx:=σ.nx } s' where
 keep:=fun b o e=>hk b o (I.keep b o e)
 inj:=I.inj
 live:=fun i hi=>⟨(I.live i hi).1,let ⟨ob,e⟩:=(I.live i hi).2; ⟨ob,hk _ _ e⟩⟩
 env:=he
 ids:=I.ids
 low:=I.low
 nd:=by
  rw [hc]
  refine List.nodup_cons.mpr ⟨fun hm=>?_,(List.nodup_cons.mp I.nd).2⟩
  obtain ⟨o,e⟩:=I.adLive (I.cadIn hm)
  rw [hfree] at e; cases e
 off:=fun a ha=>by
  unfold Fi.ads at ha
  rw [hc] at ha
  rcases List.mem_append.mp ha with h | h
  ·
   rcases List.mem_cons.mp h with rfl | h
   ·
    refine ⟨?_,fun i hi e=>?_⟩
    ·
     cases q:C.h₀.get? fi'.env.locals with
     | none=>rfl
     | some o=>have:=I.keep _ _ q; rw [hfree] at this; cases this
    ·
     obtain ⟨ob,e2⟩:=(I.live i hi).2
     rw [e,hfree] at e2; cases e2
   ·
    exact I.off a (I.cadIn h)
  ·
   rw [List.map_cons] at h
   rcases List.mem_cons.mp h with rfl | h
   ·
    exact I.off _ I.lad
   ·
    exact I.off a (by unfold Fi.ads; exact List.mem_append_right _ h)
 apart:=fun a ha hm=>by
  rw [hc] at ha
  rw [List.map_cons] at hm
  rcases List.mem_cons.mp ha with rfl | ha
  ·
   have:∃o,s.heap.get? fi'.env.locals=some o:=by
    rcases List.mem_cons.mp hm with e | hm
    ·
     rw [e]; exact ⟨_,hob⟩
    ·
     exact I.adLive (by unfold Fi.ads; exact List.mem_append_right _ hm)
   obtain ⟨o,e⟩:=this
   rw [hfree] at e; cases e
  ·
   rcases List.mem_cons.mp hm with rfl | hm
   ·
    exact (List.nodup_cons.mp I.nd).1 ha
   ·
    exact I.apart a (.tail _ ha) hm
 loc:=⟨m,hns,hl⟩
 cel:=fun k a h=>by
  rw [hc] at h
  refine e2a2 (I.cel k a h) fun o cv h1 h2=>?_
  exact ⟨o,cv,hk _ _ h1,h2⟩
 hp:=fun p hp=>OR.ext H (I.hp p hp) (Ext.refl _ _) (Nat.le_refl _) (I.lowH hp) fun _ _ _ e=>hk _ _ e
 xs:=fun p hp=>by
  rcases List.mem_cons.mp hp with rfl | hp
  ·
   exact hk _ _ hob
  ·
   exact hk _ _ (I.xs p hp)
 gens:=by rw [hg]; exact I.gens
 drawn:=hd.trans I.drawn
 os:=ho.trans I.os
theorem Inv.leaveC (I:Inv C fi φ X σ s) {fi':Fi} {ob:Obj} (hc:fi'.cad=fi.cad) (hob:s.heap.get? fi.env.locals=some ob) (I':Inv C fi' φ' ((fi.env.locals,ob)::X) σ₂ s') (e:Ext φ φ' σ.nx) (hn:σ.nx≤σ₂.nx):
  Inv C fi φ' X { σ₂ with loc:=σ.loc } s' where
 keep:=I'.keep
 inj:=I'.inj
 live:=I'.live
 env:=I.env
 ids:=I'.ids
 low:=I'.low
 nd:=I.nd
 off:=fun a ha=>I'.off a (by
  unfold Fi.ads at ha ⊢
  rw [hc,List.map_cons]
  rcases List.mem_append.mp ha with h | h
  ·
   rcases List.mem_cons.mp h with rfl | h
   ·
    exact List.mem_append_right _ (.head _)
   ·
    exact List.mem_append_left _ (.tail _ h)
  ·
   exact List.mem_append_right _ (.tail _ h))
 apart:=I.apart
 loc:=by
  obtain ⟨m,⟨ob',es,ep,e1,e2⟩,h⟩:=I.loc
  rw [hob] at e1
  cases e1
  refine ⟨m,⟨_,es,ep,I'.xs _ (.head _),e2⟩,fun x k v h1 h2 h3=>?_⟩
  refine e1a2 (h x k v h1 h2 h3) fun rv h4 h5=>?_
  exact ⟨rv,h4,h5.ext e hn⟩
 cel:=fun k a hk=>I'.cel k a (by rw [hc]; exact hk)
 hp:=I'.hp
 xs:=fun p hp=>I'.xs p (.tail _ hp)
 gens:=I'.gens
 drawn:=I'.drawn
 os:=I'.os
theorem B2T:∀(m k:Nat) (v:V),nth (List.replicate m V.unb) k=some v→v=.unb
 | 0,k,v,h=>by cases k <;> cases h
 | m + 1,0,v,h=>by cases h; rfl
 | m + 1,k + 1,v,h=>B2T m k v h
end
end Mine
end
section
namespace Mine
open PySem PyProof.Rows
section
variable {C:Cx} {fi:Fi} {φ φ':Nat→Addr} {X:List (Addr×Obj)} {σ σ' σ₁ σ₂ σ₃:St} {s s':Shared} {A:Around} {n:Nat} {r:Run} {N:Nat} {v:V} {vs:List V}
theorem C2j {e:Mine.E} {q:Prop} (h:6=kE e) (H:∀a b c d x y z,e=.comp a b c d x y z→q):q:=by
 cases e with
 | comp=>exact H _ _ _ _ _ _ _ rfl
 | bool | not_ _ | neg _ | cmp | lineNe | ife | tup _ | lit _ | loc _ | cel _ | bin | idx | sli | lst _ | call | bi | meth | attr | lrange _ | iter _=>exact absurd h (Nat.ne_of_beq_eq_false rfl)
theorem A6J {k:Nat} {c:Ctx} {eltx:PySem.Expr} {gensx:List Comprehension} {sc:Scope} {p:Pos} {e:Mine.E} {q:Prop} (h:TrE (k + 1) c e (.ListComp eltx gensx sc p))
  (H:∀te it ifsx rest elt tg kd es ifs gens,gensx=⟨te,it,ifsx,0⟩::rest→A0x c sc=true→TrE k (cc c sc) elt eltx→TrT k (cc c sc) tg te→TrI (TrE k c) c kd es it→
   TrL (TrE k (cc c sc)) ifs ifsx→B2R k (cc c sc) gens rest→e=.comp elt (A0t sc.names).length tg kd es ifs gens→q):q:=
 C2j h.1 fun _ _ _ _ _ _ _ e2=>by
  subst e2
  exact C1q (R':=fun sc=>TrE k (cc c sc)) (T:=fun sc=>TrT k (cc c sc)) (I:=TrI (TrE k c) c) (G:=fun sc=>B2R k (cc c sc)) h.2 fun te it ifx gx eg hs hm h1 h2 h3 h4 h5=>H te it ifx gx _ _ _ _ _ _ eg hs h1 h2 h3 h4 h5 (by rw [hm])
theorem A7L (O:OkC C) (h:Snd3 C r N) (hR:Room A (N + 1)) {k:Nat} {e:Mine.E} {eltx:PySem.Expr} {gensx:List Comprehension} {sc:Scope} {p pos:Pos} {use:Option (Value→Sem Unit)} {σu:St} (ht:TrE (k + 1) fi.cx e (.ListComp eltx gensx sc p)) (hE:evE r e σ=some (.v v,σ'))
  {E:Value→Shared→Prop} {Q:Value→Shared→Prop} (Iv:Inv C fi φ X σ s)
  (q:match use with
   | none=>Post C fi φ X σ σ' v Q
   | some u=>(∀X' φ' s' rv E Q,Inv C fi φ' X' σ' s'→VR C.ρ φ' σ'.nx v rv→A8S C fi φ' X' σu Q→wpAny (MM C) A (u rv) Q E s')∧∀φ' s',Ext φ φ' σ.nx→Inv C fi φ' X σu s'→Q .none s'):
  wpAny (MM C) A (comprehension (.ListComp eltx gensx sc p) sc fi.env pos (newList []) false (firstIter gensx fi.env) use) Q E s:=by
 refine A6J ht fun te it ifsx rest elt tg kd es ifs gens eg hs h1 h2 h3 h4 h5 ee=>?_
 subst eg ee
 obtain ⟨hkind,hnm⟩:=A3w hs
 refine A8Z (X:=X) (K:=fun l σ=>A7e (r (.turns elt tg ifs gens σ.nx l) { loc:=List.replicate (A0t sc.names).length .unb,cel:=σ.cel,hp:=(σ.nx,.list [])::σ.hp,nx:=σ.nx + 1 }) fun σ₂=>some (.v (.ref σ.nx),{ σ₂ with loc:=σ.loc })) O h.toSnd hR h3 hE fun l σf x σe hK n1 e1 e2 key=>A9Z hK fun σ₂ hb hK=>?_
 ·
  obtain ⟨rfl,rfl⟩:=Prod.mk.inj (Option.some.inj hK)
  have e1:R.v v=R.v (.ref σf.nx):=e1
  cases e1
  have n2:σf.nx + 1≤σ₂.nx:=h.nx _ _ _ _ hb
  have e2:σ'.nx=σ₂.nx:=e2
  obtain ⟨cl,hcl,hcl2⟩:=A6I fi.env sc fun p hp hf=>by
   obtain ⟨hx1,hx2⟩:=(hnm p hp).2.2.2 hf
   obtain ⟨kx,hkx⟩:=Option.isSome_iff_exists.mp hx1
   refine e1a2 (Iv.env.cell p.1 kx hx2 hkx) fun a _ ha=>?_
   exact ⟨a,ha⟩
  refine wpAny_comprehension_free (g:=⟨te,it,ifsx,0⟩) (gs:=rest) rfl (fun x=>A1t h3 x) hcl hkind (fun p hp hl=>(hnm p hp).2.1 hl) ?_
  show wpAny (MM C) A (eval it fi.env) _ E s
  refine key φ s E _ Iv fun φ1 s2 I fp wr nn P St X' x1 hT hst hlen hP hfp I2 thaw=>?_
  have W:=hT te k _ tg h2
  have hfr2:=A0e s2.heap
  have I3:=I2.newList (xs:=[]) (vs:=[]) O.H .nil (by simp) (t:=s2.toks)
  refine wpAny_newObj_type (wpAny_newFunctionEnv (fun x hx=>(hnm x hx).2.2.1) (by intro y hy; cases hy) (fun h' hns hsb=>?_) hkind) (by unfold sizeOk; simp)
  have hfree3:=A0e (s2.heap.push (A0k [] 0))
  have keep3:∀b o,(s2.heap.push (A0k [] 0)).get? b=some o→h'.get? b=some o:=fun b o e=>by
   refine hsb.extBut b o (fun q=>?_) (Heap.get?_push_of_some _ e)
   have:b=(s2.heap.push (A0k [] 0)).objs.size:=q
   rw [this,hfree3] at e; cases e
  have keep2:∀b o,s2.heap.get? b=some o→h'.get? b=some o:=fun b o e=>keep3 b o (Heap.get?_push_of_some _ e)
  have hL2:s2.heap.get? (s2.heap.push (A0k [] 0)).objs.size=none:=by
   cases q:s2.heap.get? (s2.heap.push (A0k [] 0)).objs.size with
   | none=>rfl
   | some o=>have:=Heap.get?_push_of_some (A0k [] 0) q; rw [hfree3] at this; cases this
  obtain ⟨ob,hob⟩:=I2.adLive I2.lad
  have hob3:(s2.heap.push (A0k [] 0)).get? fi.env.locals=some ob:=Heap.get?_push_of_some _ hob
  generalize hLdef:(s2.heap.push (A0k [] 0)).objs.size=L at *
  have he':A2E ⟨compEnvC sc cl L fi.env,⟨sc.names,A0t sc.names,fi.cx.cels⟩,fi.cad⟩:=B5y Iv.env hs hcl2
  have I4:Inv C ⟨compEnvC sc cl L fi.env,⟨sc.names,A0t sc.names,fi.cx.cels⟩,fi.cad⟩ (putAt φ1 σf.nx s2.heap.objs.size) ((fi.env.locals,ob)::X') { loc:=List.replicate (A0t sc.names).length .unb,cel:=σf.cel,hp:=(σf.nx,.list [])::σf.hp,nx:=σf.nx + 1 } { heap:=h',gens:=s2.gens,drawn:=s2.drawn,toks:=s2.toks + ([]:List (Str×Value)).length,os:=s2.os }:=
   I3.enterC O.H he' rfl keep3 hfree3 hob3 hns (fun x k v _ h2 h3=>absurd (B2T _ _ _ h2) h3) rfl rfl rfl
  have W:=hT te k _ tg h2
  have x2:Ext φ1 (putAt φ1 σf.nx s2.heap.objs.size) σf.nx:=Ext.putAt _ _ _
  have fpLive:∀b∈fp,∃o,s2.heap.get? b=some o:=W.live _ _ hst
  have st4:St 0 h':=W.frame _ _ _ hst fun b _ o e=>keep2 b o e
  have fp4:FpOk C ⟨compEnvC sc cl L fi.env,⟨sc.names,A0t sc.names,fi.cx.cels⟩,fi.cad⟩ (putAt φ1 σf.nx s2.heap.objs.size) ((fi.env.locals,ob)::X') { loc:=List.replicate (A0t sc.names).length .unb,cel:=σf.cel,hp:=(σf.nx,.list [])::σf.hp,nx:=σf.nx + 1 } fp wr:=by
   refine ⟨fun b hb=>⟨(hfp.1 b hb).1,fun i hi e=>?_,fun hm=>?_⟩,fun b hb hm=>?_⟩
   ·
    rw [A0f,List.mem_append] at hi
    rcases hi with hi | hi
    ·
     have hij:i=σf.nx:=List.mem_singleton.mp hi
     rw [hij,A0E] at e
     obtain ⟨o,ho⟩:=fpLive b hb
     rw [←e,hfr2] at ho; cases ho
    ·
     rw [x2 i (I2.low i hi)] at e
     exact (hfp.1 b hb).2.1 i hi e
   ·
    rcases List.mem_cons.mp hm with e | hm
    ·
     obtain ⟨o,ho⟩:=fpLive b hb
     have e:b=L:=e
     rw [e,hL2] at ho; cases ho
    ·
     exact (hfp.1 b hb).2.2 (.tail _ hm)
   ·
    unfold Fi.ads at hm
    have hbw:=hfp.2 b hb
    rcases List.mem_append.mp hm with hm | hm
    ·
     rcases List.mem_cons.mp hm with e | hm
     ·
      obtain ⟨o,ho⟩:=fpLive b (W.sub b hb)
      have e:b=L:=e
      rw [e,hL2] at ho; cases ho
     ·
      exact hbw (I2.cadIn hm)
    ·
     rw [List.map_cons] at hm
     rcases List.mem_cons.mp hm with e | hm
     ·
      exact hbw (by rw [e]; exact I2.lad)
     ·
      exact hbw (by unfold Fi.ads; exact List.mem_append_right _ hm)
  have hg0:((⟨te,it,ifsx,0⟩:Comprehension)::rest)[0]?=some ⟨te,it,ifsx,0⟩:=rfl
  have fin:∀φ' s',Ext (putAt φ1 σf.nx s2.heap.objs.size) φ' (σf.nx + 1)→Inv C ⟨compEnvC sc cl L fi.env,⟨sc.names,A0t sc.names,fi.cx.cels⟩,fi.cad⟩ φ' ((fi.env.locals,ob)::X') σ₂ s'→compPost (MM C) A E use Q (.ref s2.heap.objs.size) L (.ok .next) s':=by
   intro φ3 s5 e3 I5
   have e3':Ext φ1 φ3 σf.nx:=x2.trans (e3.le (Nat.le_succ _)) (Nat.le_refl _)
   have ea:φ3 σf.nx=s2.heap.objs.size:=(e3 σf.nx (Nat.lt_succ_self _)).trans (A0E _ _ _)
   have nf:σf.nx≤σ₂.nx:=Nat.le_trans (Nat.le_succ _) n2
   have I6:Inv C fi φ3 X' { σ₂ with loc:=σf.loc } s5:=I2.leaveC (fi':=⟨compEnvC sc cl L fi.env,⟨sc.names,A0t sc.names,fi.cx.cels⟩,fi.cad⟩) rfl hob I5 e3' nf
   have offL:=I5.off L (by unfold Fi.ads; simp [compEnvC])
   have vr:VR C.ρ φ3 σ'.nx (.ref σf.nx) (.ref s2.heap.objs.size):=by
    have:=VR.ref (ρ:=C.ρ) (φ:=φ3) (n:=σ'.nx) σf.nx (by rw [e2]; lia)
    rwa [ea] at this
   refine e1a2 I5.loc fun mL hmL _=>?_
   have LX:L∉fi.ads X':=fun hm=>by
    obtain ⟨o,ho⟩:=I2.adLive hm
    rw [hL2] at ho; cases ho
   have back:=thaw φ3
   cases use with
   | none=>
    refine ⟨mL,hmL,fun h'' hS=>?_⟩
    have I7:Inv C fi φ3 X' { σ₂ with loc:=σf.loc } { s5 with heap:=h'' }:=I6.keepsBut O.H [L] (fun b hb=>by rw [List.mem_singleton.mp hb]; exact ⟨offL.1,offL.2,LX⟩) (fun b o hb e=>hS.extBut b o (fun q=>hb (List.mem_singleton.mpr q)) e) rfl rfl rfl
    exact q φ3 _ _ (x1.trans e3' n1) (back _ e3' nf I7).1 vr
   | some u=>
    obtain ⟨ob5,ho5⟩:∃o,s5.heap.get? L=some o:=I5.adLive I5.lad
    obtain ⟨I7,idL⟩:=back _ e3' nf I6
    obtain ⟨idL',LXX⟩:=idL L hL2 offL.2
    have LX0:L∉fi.env.locals::fi.cad:=fun hm=>LX (by unfold Fi.ads; exact List.mem_append_left _ hm)
    have I8:Inv C fi φ3 ([(L,ob5)] ++ X) σ' s5:=I7.hold fun p hp=>by
     rw [List.mem_singleton.mp hp]
     exact ⟨offL.1,ho5,idL',LX0⟩
    refine q.1 _ φ3 s5 _ E _ I8 vr fun s6 I9=>?_
    have ho6:s6.heap.get? L=some ob5:=I9.xs _ (.head _)
    have hmL':s5.heap.Ns L mL:=hmL
    refine e3a2 hmL' fun oL es ep g1 g2=>?_
    rw [ho5] at g1
    cases g1
    refine ⟨mL,⟨_,es,ep,ho6,g2⟩,fun h'' hS=>?_⟩
    have offL6:=I9.off L (by unfold Fi.ads; simp)
    have I10:Inv C fi φ3 X σu { s6 with heap:=h'' }:=by
     refine I9.loose.keepsBut O.H [L] (fun b hb=>?_) (fun b o hb e=>hS.extBut b o (fun q=>hb (List.mem_singleton.mpr q)) e) rfl rfl rfl
     rw [List.mem_singleton.mp hb]
     exact ⟨offL6.1,offL6.2,LXX⟩
    exact q.2 φ3 _ (x1.trans e3' n1) I10
  have loop:codeAny (MM C) A (.compLoop (.ListComp eltx (⟨te,it,ifsx,0⟩::rest) sc p) 0 (.ref I) (.ref s2.heap.objs.size) (compEnvC sc cl L fi.env)) (compPost (MM C) A E use Q (.ref s2.heap.objs.size) L) { heap:=h',gens:=s2.gens,drawn:=s2.drawn,toks:=s2.toks + ([]:List (Str×Value)).length,os:=s2.os }:=by
   have:=h.turns (d:=0) (gensx:=⟨te,it,ifsx,0⟩::rest) hb hR.dn ⟨⟨_,hg0⟩,⟨k,h1⟩,⟨k,h2⟩,⟨k,h4⟩,⟨k,h5⟩⟩ (putAt φ1 σf.nx s2.heap.objs.size) _ _ I fp wr nn P St 0 sc p W st4 (by lia) (fun j v hj hp=>VR.ext (hP j v hj (by simpa using hp)) x2 (Nat.le_succ _)) fp4 I4 (Nat.lt_succ_self _) fin
   rw [A0E] at this
   exact this
  exact A5X hg0 loop fun E'=>W.self 0 _ _ E' st4 loop
end
end Mine
end
section
namespace Mine
open PySem PyProof.Rows
section
variable {C:Cx} {fi:Fi} {φ φ':Nat→Addr} {X:List (Addr×Obj)} {σ σ' σ₁ σ₂ σ₃:St} {s s':Shared} {A:Around} {n:Nat} {r:Run} {N:Nat} {v:V} {vs:List V}
theorem B9w (O:OkC C) (h:Snd3 C r N):B8j C r N:=by
 intro σ σ' v e fi A X k elt gens sc p hE hR ht φ s E Q Iv q
 rw [eval_ListComp]
 refine A6J ht fun te it ifsx rest _ _ _ _ _ _ eg _ _ _ _ _ _ _=>?_
 subst eg
 exact A7L O h hR (use:=none) (σu:=σ') ht hE Iv q
theorem B5z (O:OkC C) (h:Snd3 C r N) {σ σ₁ σ₂:St} {v:V} {e:Mine.E} {fi:Fi} {A:Around} {X:List (Addr×Obj)} {k:Nat} {elt:PySem.Expr} {gens:List Comprehension} {sc:Scope} {p:Pos} {φ:Nat→Addr} {s:Shared} {E:Value→Shared→Prop} {Q:Unit→Shared→Prop} {use:Value→Sem Unit}
  (hE:evE r e σ=some (.v v,σ₁)) (hR:Room A (N + 1)) (ht:TrE k fi.cx e (.ListComp elt gens sc p)) (Iv:Inv C fi φ X σ s) (hnx:σ₂.nx=σ₁.nx)
  (hu:∀X' φ' s' rv E Q,Inv C fi φ' X' σ₁ s'→VR C.ρ φ' σ₁.nx v rv→A8S C fi φ' X' σ₂ Q→wpAny (MM C) A (use rv) Q E s')
  (q:∀φ' s',Ext φ φ' σ.nx→Inv C fi φ' X σ₂ s'→Q () s'):wpAny (MM C) A (evalThenUse (.ListComp elt gens sc p) fi.env use) Q E s:=by
 cases k with
 | zero=>exact ht.elim
 | succ k=>
 rw [arm_evalThenUse_ListComp]
 refine A6J ht fun te it ifsx rest _ _ _ _ _ _ eg _ _ _ _ _ _ _=>?_
 subst eg
 exact wpAny_bind (A7L O h hR (use:=some use) (σu:=σ₂) ht hE Iv ⟨hu,fun φ' s' e I=>wpAny_pure (q φ' s' e I)⟩)
end
end Mine
end
section
namespace Mine
open PySem PyProof.Rows
section
variable {C:Cx} {fi:Fi} {φ φ':Nat→Addr} {X:List (Addr×Obj)} {σ σ' σ₁ σ₂ σ₃:St} {s s':Shared} {A:Around} {n:Nat} {r:Run} {N:Nat} {v:V} {vs:List V}
theorem B9x (O:OkC C) (h:Snd C r N) {e:Mine.E} {k:Nat} {ex:PySem.Expr} {b:Bool} (hv:∃v σ₁,r (.e e) σ=some (.v v,σ₁)∧A4H σ₁.hp v=some b∧σ'=σ₁) (hR:Room A N) (ht:TrE k fi.cx e ex)
  (hx:∀env whole,PySem.isTrue ex env whole=(do let v ←whole; standAt ex.pos; holding [v] (truthy v))):A5T C fi A X σ σ' b ex:=by
 intro φ s E Q Iv q
 obtain ⟨v,σ₁,ha,hb,rfl⟩:=hv
 have n1:=h.nx _ _ _ _ ha
 exact wpAny_isTrue_value ((h.e ha hR ht).then Iv fun φ1 s1 r1 e1 I1 v1=>A2y O.H O.S O.pos hb I1 v1 (q.step e1 n1)) (hx _ _)
end
end Mine
end
section
namespace Mine
open PySem PyProof.Rows
section
variable {C:Cx} {fi:Fi} {φ φ':Nat→Addr} {X:List (Addr×Obj)} {σ σ' σ₁ σ₂ σ₃:St} {s s':Shared} {A:Around} {n:Nat} {r:Run} {N:Nat} {v:V} {vs:List V}
noncomputable def C2k (n:Nat):Bool:=match n with
 | 0=>true
 | 5=>true
 | 6=>true
 | _=>false
theorem A7M {ex:PySem.Expr} (h:C2k (kX ex)=true) (env:Env) (whole:Sem Value):PySem.isTrue ex env whole=(do let v ←whole; standAt ex.pos; holding [v] (truthy v)):=by
 cases ex with
 | BoolOp=>exact noft h
 | UnaryOp=>exact noft h
 | Compare=>exact noft h
 | IfExp=>exact noft h
 | _=>rfl
theorem B8o {v:V} {b:Bool} {q:Prop} (h:tru v σ=some (.b b,σ')) (H:A4H σ.hp v=some b→σ=σ'→q):q:=
 A0p h fun c hc h=>by
  have e:=Prod.mk.inj (Option.some.inj (B9e h))
  exact H (e.1▸hc) e.2
theorem C3W (O:OkC C) (h:Snd C r N) {op:Cop} {x y:Mine.E} {k:Nat} {x' y':PySem.Expr} {p:Pos} {b:Bool} (hE:(ev r x σ fun a σ=>ev r y σ fun b σ=>(A5w op σ.hp a b).bind fun b=>some (.b b,σ))=some (.b b,σ')) (hR:Room A (N + 1)) (hm:behindInMarks (opC op) y'=false) (h1:TrE k fi.cx x x') (h3:TrE k fi.cx y y'):A5T C fi A X σ σ' b (.Compare x' [opC op] [y'] p):=
 fun φ s E Q I q=>wpAny_isTrue_Compare1 (h.ev hR hE h1 I fun va σ₁ φ1 s1 r1 n1 hE e1 I1 v1=>h.ev hR hE h3 I1 fun vb σ₂ φ2 s2 r2 n2 hE e2 I2 v2=>A0p hE fun d hc hE=>by
  have e:=Prod.mk.inj (Option.some.inj (B9e hE))
  rw [e.2] at n2 I2 hc v2
  have q:=(q.step e1 n1).step e2 n2
  exact A6B O.H O.S hc I2 hR.cl (v1.ext e2 n2) v2 fun φ3 s3 r3 e3 I3 v3=>A2y O.H O.S O.pos (show A4H σ'.hp (.bool d)=some b from congrArg some e.1) I3 v3 (q.step e3 (Nat.le_refl _))) hm
theorem C2l (O:OkC C) {K:Nat} (L:A2p C K) (h:Snd C r N) {FT:List Fn} {e:Mine.E} {k:Nat} {ex:PySem.Expr} {b:Bool} (hE:step FT r (.t e) σ=some (.b b,σ')) (hR:Room A (N + 1)) (ht:TrE k fi.cx e ex):A5T C fi A X σ σ' b ex:=by
 have plain:ev r e σ tru=some (.b b,σ')→(∀env whole,PySem.isTrue ex env whole=(do let v ←whole; standAt ex.pos; holding [v] (truthy v)))→A5T C fi A X σ σ' b ex:=fun hE hx=>
  A1R hE fun v σ₁ ha hE=>B8o hE fun hb e1=>B9x O h ⟨v,σ₁,ha,hb,e1.symm⟩ hR.dn ht hx
 cases k with
 | zero=>exact ht.elim
 | succ k=>cases e with
  | ife=>exact A0a hE
  | lineNe o t=>exact B7W ht.2 fun yn zn p p1 p2 q a p0 p3 k1 k2 p4 p5 h1 h2 h3=>B2t hE fun v σ₁ ha hE=>B8o hE fun hb e1=>A8Q O L h (e1▸ha) (e1▸hb) hR h1 h2 h3
  | cmp op x y=>exact C1m ht.2 fun x' y' p hm h1 h3=>C3W O h hE hR hm h1 h3
  | not_ a=>
   exact y_un ht.2 fun x p h1 φ s E Q Iv q=>A4S hE fun c σ₁ ha hE=>wpAny_isTrue_Not (h.t ha hR.dn h1 φ s E _ Iv fun φ1 s1 e1 I1=>by
    have e:=Prod.mk.inj (Option.some.inj (B9e hE))
    rw [e.1]
    exact q φ1 s1 e1 (e.2▸I1))
  | bool i es=>
   refine B7V ht.2 fun xs p h1 φ s E Q Iv q=>?_
   cases i with
   | true=>exact wpAny_isTrue_BoolOp (h.ts (isAnd:=true) hE hR.dn h1 φ s E Q Iv q)
   | false=>exact wpAny_isTrue_BoolOp (h.ts (isAnd:=false) hE hR.dn h1 φ s E Q Iv q)
  | neg a=>exact plain hE (y_un (P:=fun ex=>∀env whole,PySem.isTrue ex env whole=(do let v ←whole; standAt ex.pos; holding [v] (truthy v))) ht.2 fun _ _ _ _ _=>rfl)
  | _=>exact plain hE (A7M (by rw [ht.1]; rfl))
end
end Mine
end
section
namespace Mine
open PySem
section
variable {prog:Program} {w:World} {A:Around} {R:GenEnd} {Y:Protocol} {n:Nat} {s₀:Shared} {c:Code} {fs:List Frame} {s:Shared} {env:Env}
 {K:Flow→Sem Fin} {H:Value→Sem Fin} {gd:Bool→Bool} {lv:List Value→List Value}
theorem A2s {α β:Type} {m:Sem α} {f:α→Sem β} {K:β→Sem Fin} {H:Value→Sem Fin} {gd:Bool→Bool} {lv:List Value→List Value}
  (h:wpAny (model prog w) (A.over c fs) m (fun a s'=>Seg (model prog w) A R Y n s₀ c ((f a).wrap K H gd lv) fs s') (fun x s'=>Seg (model prog w) A R Y n s₀ c (H x) fs s') s):
  Seg (model prog w) A R Y n s₀ c ((m >>= f).wrap K H gd lv) fs s:=by
 rw [Sem.bind_eq_wrap',Sem.wrap_wrap]
 exact seg_wrap h
theorem B2U {test:PySem.Expr} {body orelse:List Stmt} {pos:Pos}
  (h:wpAny (model prog w) (A.over c fs) (isTrue test env (eval test env)) (fun b s'=>Seg (model prog w) A R Y n s₀ c ((if b=true then execs body env else execs orelse env).wrap K H gd lv) fs s')
   (fun x s'=>Seg (model prog w) A R Y n s₀ c (H x) fs s') s):
  Seg (model prog w) A R Y n s₀ c ((exec (.If test body orelse pos) env).wrap K H gd lv) fs s:=by
 rw [exec_If]
 refine A2s (wpAny_standAt ?_)
 exact A2s (wpAny_mono h (fun b s' hb=>hb) fun _ _ e=>e)
theorem A4A {st:Stmt} (h:wpAny (model prog w) (A.over c fs) (exec st env) (fun f s'=>Seg (model prog w) A R Y n s₀ c (K f) fs s') (fun x s'=>Seg (model prog w) A R Y n s₀ c (H x) fs s') s):
  Seg (model prog w) A R Y n s₀ c ((exec st env).wrap K H gd lv) fs s:=seg_wrap h
theorem B9y {target iter:PySem.Expr} {body:List Stmt} {pos:Pos} (hs:∀x,foldedSetIterable iter env x=pure x)
  (h:wpAny (model prog w) (A.over c fs) (eval iter env) (fun x s₁=>wpAny (model prog w) (A.over c fs) (pyIter x) (fun it s₂=>
    ∀p,Seg (model prog w) A R Y n s₀ (.forLoop target it body [] env) ((model prog w).den (.forLoop target it body [] env))
     (.ret (fun r=>((match r with | .ok f=>(.pure f:Sem Flow) | .error e=>.raise e).onRaise fun (x:Value)=>do
      if (←field x 1) == Value.none then unsupported "frame.own-activation:exception-without-traceback"
      setFlight x env.frame).wrap K H gd lv) none (gd false) (lv []) c p []::fs) s₂) (fun x s'=>Seg (model prog w) A R Y n s₀ c (H x) fs s') s₁)
   (fun x s'=>Seg (model prog w) A R Y n s₀ c (H x) fs s') s):
  Seg (model prog w) A R Y n s₀ c ((exec (.For target iter body [] pos) env).wrap K H gd lv) fs s:=by
 rw [exec_For]
 refine A2s (wpAny_standAt ?_)
 refine A2s (wpAny_mono h (fun x s₁ h₁=>?_) fun _ _ e=>e)
 refine A2s (wpAny_of_eq (hs x) ?_)
 refine A2s (wpAny_standAt ?_)
 refine A2s (wpAny_holding (wpAny_mono h₁ (fun it s₂ h₂=>?_) fun _ _ e=>e))
 exact seg_call h₂
theorem A5d {target:PySem.Expr} {it:Value} {body:List Stmt}
  (h:∀E,wpAny (model prog w) (A.over (.forLoop target it body [] env) fs) (pyNext it) (fun r s₁=>match r with
    | none=>Seg (model prog w) A R Y n s₀ (.forLoop target it body [] env) (.pure (.again (.block [] env))) fs s₁
    | some v=>wpAny (model prog w) (A.over (.forLoop target it body [] env) fs) (letOwnedTupleGo target it v) (fun _ s₂=>wpAny (model prog w) (A.over (.forLoop target it body [] env) fs) (PySem.assign target env v) (fun _ s₃=>
      Seg (model prog w) A R Y n s₀ (.forLoop target it body [] env) ((execs body env).wrap (fun f=>match f with
       | .next | .cont=>.pure (.again (.forLoop target it body [] env))
       | .brk=>.pure (.done .next)
       | .ret v=>.pure (.done (.ret v))) (fun e=>(do noteFrame e env; theTreesLotGoes e:Sem Unit).wrap (fun _=>.raise e) .raise id id) id id) fs s₃) E s₂) E s₁) E s):
  Seg (model prog w) A R Y n s₀ (.forLoop target it body [] env) ((model prog w).den (.forLoop target it body [] env)) fs s:=by
 show Seg _ A R Y n s₀ _ ((forTurn target it body [] env).onRaise (fun x=>do noteFrame x env; theTreesLotGoes x)) fs s
 unfold forTurn
 rw [Sem.onRaise_eq_wrap]
 refine A2s (wpAny_standAt ?_)
 refine A2s (wpAny_onRaise (wpAny_mono (h _) (fun r s₁ h₁=>?_) fun x s' hx=>wpAny_standAt hx))
 cases r with
 | none=>exact h₁
 | some v=>
  refine A2s (wpAny_mono h₁ (fun _ s₂ h₂=>?_) fun _ _ e=>e)
  refine A2s (wpAny_mono h₂ (fun _ s₃ h₃=>?_) fun _ _ e=>e)
  rw [Sem.bind_eq_wrap',Sem.wrap_wrap]
  rw [Sem.wrap_congr (execs body env) _ _ (K':=fun f=>match f with
      | .next | .cont=>.pure (.again (.forLoop target it body [] env))
      | .brk=>.pure (.done .next)
      | .ret v=>.pure (.done (.ret v))) (H':=(fun e=>(do noteFrame e env; theTreesLotGoes e:Sem Unit).wrap (fun _=>.raise e) .raise id id))
    (fun f=>by cases f <;> rfl)
    (fun e=>by first | exact Sem.bind_eq_wrap _ _ | (show (do noteFrame e env; theTreesLotGoes e:Sem Unit).bind (fun _=>.raise e)=_; rw [Sem.bind_eq_wrap]))]
  exact h₃
end
end Mine
end
section
namespace Mine
open PySem
noncomputable def esc:Bool→Nat→Int→List Nat→List (Int×Str)
 | true,i,l,c::r=>((i:Int),⟨#[92,c]⟩)::esc false (i + 1) i r
 | false,i,l,c::r=>if c=92 then esc true (i + 1) i r else ((i:Int),⟨#[c]⟩)::esc false (i + 1) i r
 | true,i,l,[]=>[(l,⟨#[92]⟩)]
 | false,i,l,[]=>[]
noncomputable def A6a (h:Heap) (v:Value) (p:Int×Str):Prop:=∃a t u,v=.ref a∧h.IsTuple a #[.int p.1 t,.str p.2 u]
noncomputable def A1u (Pr:Addr→Prop) (a b:Shared):Prop:=(∀x o,Pr x→a.heap.get? x=some o→b.heap.get? x=some o)∧b.gens=a.gens∧b.drawn=a.drawn∧b.os=a.os
theorem A1u.refl {Pr:Addr→Prop} (a:Shared):A1u Pr a a:=⟨fun _ _ _ e=>e,rfl,rfl,rfl⟩
theorem A1u.step {Pr:Addr→Prop} {a b:Shared} {h':Heap} {tk:Tok} (x:A1u Pr a b) (k:∀y o,Pr y→b.heap.get? y=some o→h'.get? y=some o):A1u Pr a { b with heap:=h',toks:=tk }:=
 ⟨fun y o h1 e=>k y o h1 (x.1 y o h1 e),x.2.1,x.2.2.1,x.2.2.2⟩
noncomputable def escY (Pr:Addr→Prop) (ps:List (Int×Str)):Protocol:=fun m s₀ v s kap=>(∃p,ps[ps.length - 1 - m]?=some p∧A6a s.heap v p)∧A1u Pr s₀ s∧
 ∃W:List Addr,(∀b∈W,¬Pr b∧∃o,s.heap.get? b=some o)∧∀s'':Shared,(∀b∈W,∀o,s.heap.get? b=some o→s''.heap.get? b=some o)→kap (.send .none) s''
noncomputable def escR (Pr:Addr→Prop):GenEnd:=fun n s₀ r s=>r=.ok (.ret .none)∧n=0∧A1u Pr s₀ s
noncomputable def B2V (q:Nat→Pos):PySem.Expr:=.Tuple [.Name "pos" (q 0),.Name "ch" (q 1)] 0 (q 2)
noncomputable def C3X (q:Nat→Pos):Stmt:=.Expr (.Yield (some (.Tuple [.Name "pos" (q 4),.BinOp (.Constant (.str "\\") 0 (q 5)) .Add (.Name "ch" (q 6)) (q 7)] 0 (q 8))) (q 9)) (q 10)
noncomputable def C3Y (q:Nat→Pos):Stmt:=.Assign [.Name "escape" (q 11)] (.Constant (.bool false) 0 (q 12)) (q 13)
noncomputable def C3Z (q:Nat→Pos):Stmt:=.Assign [.Name "escape" (q 17)] (.Constant (.bool true) 0 (q 18)) (q 19)
noncomputable def C4a (q:Nat→Pos):Stmt:=.Expr (.Yield (some (.Tuple [.Name "pos" (q 20),.Name "ch" (q 21)] 0 (q 22))) (q 23)) (q 24)
noncomputable def escE (q:Nat→Pos):Stmt:=.If (.Compare (.Name "ch" (q 14)) [.Eq] [.Constant (.str "\\") 0 (q 15)] (q 16)) [C3Z q] [C4a q] (q 25)
noncomputable def A6K (q:Nat→Pos):List Stmt:=[.If (.Name "escape" (q 3)) [C3X q,C3Y q] [escE q] (q 26)]
structure GEnv (env:Env):Prop where
 kind:env.scope.kind=.function
 co:env.scope.isCoroutine=false
 kpos:env.kindOf "pos" = some .local
 kch:env.kindOf "ch" = some .local
 kesc:env.kindOf "escape" = some .local
 kaddr:env.kindOf "addr" = some .local
 ken:env.kindOf "enumerate" = some .globalImplicit
theorem GEnv.hp {env:Env} (G:GEnv env):(env.scope.kind == .class || (env.scope.kind == .module && env.locals != env.globals))=false:=by rw [G.kind]; rfl
theorem GEnv.quiet {env:Env} (G:GEnv env):interactive env=false:=by unfold interactive; rw [G.kind]; rfl
structure A9d (C e it:Addr) (ty:String) (t:Str) (tk:Tok) (i:Nat) (l:Int) (b:Bool) (s:Shared):Prop where
 en:∃old,IsEnum s.heap e it i old
 st:s.heap.IsStrIter it ty t tk i
 ns:∃m u,s.heap.Ns C m∧m "escape" = some (.bool b)∧m "pos" = some (.int l u)
section
variable {prog:Program} {w:World} {A:Around} {E:Value→Shared→Prop} {s:Shared} {env:Env}
theorem A7N:2≤sizeLine:=by unfold sizeLine; lia
theorem A3x (G:GEnv env) {x:Str} {m:Str→Option Value} {v:Value} {p:Pos} {Q:Value→Shared→Prop} (hx:env.kindOf x=some .local) (hn:s.heap.Ns env.locals m) (hv:m x=some v) (hd:(x == ("__debug__" : Str))=false) (h:Q v s):
  wpAny (model prog w) A (eval (.Name x p) env) Q E s:=wpAny_Name (wpAny_loadName_local G.kind hx hn hv h) hd
theorem C4b (G:GEnv env) {m:Str→Option Value} {i:Int} {u:Tok} {c:Str} {v:Tok} {p1 p2 p3:Pos} {Q:Value→Shared→Prop} (hn:s.heap.Ns env.locals m) (h1:m "pos" = some (.int i u)) (h2:m "ch" = some (.str c v))
  (h:∀a h',A6a h' (.ref a) (i,c)→(∀b o,s.heap.get? b=some o→h'.get? b=some o)→Q (.ref a) { s with heap:=h' }):
  wpAny (model prog w) A (eval (.Tuple [.Name "pos" p1,.Name "ch" p2] 0 p3) env) Q E s:=by
 refine wpAny_Tuple (wpAny_items_cons (A3x G G.kpos hn h1 (by decide) (wpAny_items_cons (A3x G G.kch hn h2 (by decide) (wpAny_items_nil ⟨A7N,?_⟩)))))
 exact h _ _ ⟨_,u,v,rfl,_,Heap.get?_push_size _ rfl,rfl,_,rfl⟩ fun b o e=>Heap.get?_push_of_some _ e
theorem C4c (G:GEnv env) {m:Str→Option Value} {i:Int} {u:Tok} {c:Nat} {v:Tok} {p1 p2 p3 p4 p5:Pos} {Q:Value→Shared→Prop} (hn:s.heap.Ns env.locals m) (h1:m "pos" = some (.int i u)) (h2:m "ch" = some (.str ⟨#[c]⟩ v))
  (h:∀a h' tk,A6a h' (.ref a) (i,⟨#[92,c]⟩)→(∀b o,s.heap.get? b=some o→h'.get? b=some o)→Q (.ref a) { s with heap:=h',toks:=tk }):
  wpAny (model prog w) A (eval (.Tuple [.Name "pos" p1,.BinOp (.Constant (.str "\\") 0 p2) .Add (.Name "ch" p3) p4] 0 p5) env) Q E s:=by
 refine wpAny_Tuple (wpAny_items_cons (A3x G G.kpos hn h1 (by decide) (wpAny_items_cons (wpAny_BinOp (wpAny_Constant_str (A3x G G.kch hn h2 (by decide) (SB.add (fun t' k=>wpAny_items_nil ⟨A7N,?_⟩) ?_)))))))
 ·
  exact h _ _ _ ⟨_,u,t',rfl,_,Heap.get?_push_size _ rfl,rfl,_,rfl⟩ fun b o e=>Heap.get?_push_of_some _ e
 ·
  exact A7N
theorem B2W (G:GEnv env) {m:Str→Option Value} {b:Bool} {p1 p2 p3:Pos} {Q:Flow→Shared→Prop} (hn:s.heap.Ns env.locals m)
  (h:∀h' tk,h'.Ns env.locals (fun x=>if x = "escape" then some (.bool b) else m x)→Heap.SameBut env.locals s.heap h'→Q .next { s with heap:=h',toks:=tk }):
  wpAny (model prog w) A (exec (.Assign [.Name "escape" p1] (.Constant (.bool b) 0 p2) p3) env) Q E s:=
 wpAny_Assign_Name (wpAny_Constant_bool (wpAny_storeName_local G.kesc hn (fun h' hn' hs'=>h h' _ hn' hs') G.hp)) (by cases b <;> rfl)
end
end Mine
end
section
namespace Mine
open PySem
theorem A5e {α:Type} {ps:List α} {n:Nat} {x:α} {r:List α} (h:ps.drop (ps.length - (n + 1))=x::r) (hn:n + 1≤ps.length):ps[ps.length - 1 - n]?=some x∧ps.drop (ps.length - n)=r:=by
 rw [Nat.sub_sub,Nat.add_comm 1 n,←List.head?_drop,h]
 refine ⟨rfl,?_⟩
 have e:ps.length - n=ps.length - (n + 1) + 1:=by rw [Nat.sub_add_eq,Nat.sub_add_cancel (Nat.sub_pos_of_lt hn)]
 rw [e,←List.drop_drop,h]; rfl
structure EscG where
 (prog:Program) (w:World) (A:Around) (env:Env) (q:Nat→Pos) (e it:Addr) (ty:String) (t:Str) (tk:Tok) (Pr:Addr→Prop) (ps:List (Int×Str)) (fr:List Frame)
 G:GEnv env
 hh:(A.over (.forLoop (B2V q) (.ref e) (A6K q) [] env) fr).handled=none
 ei:e≠it
 eC:e≠env.locals
 iC:it≠env.locals
 hP:∀y∈[env.locals,e,it],¬Pr y
 D:∀A':Around,A'.handled=none→Draws prog w A' it [it] t.cps.size (fun i v=>∃c u,t.cps[i]?=some c∧v=.str ⟨#[c]⟩ u) (fun i h=>h.IsStrIter it ty t tk i)
 f1:splitAtGen fr=none
 f2:fr.any Frame.guarded=false
noncomputable def EscG.loop (X:EscG):Code:=.forLoop (B2V X.q) (.ref X.e) (A6K X.q) [] X.env
noncomputable abbrev EscG.Sg (X:EscG) (n:Nat) (s₀:Shared) (m:Sem Fin) (s:Shared):Prop:=Seg (model X.prog X.w) X.A (escR X.Pr) (escY X.Pr X.ps) n s₀ X.loop m X.fr s
noncomputable abbrev EscG.At (X:EscG) (i:Nat) (l:Int) (b:Bool) (s:Shared):Prop:=A9d X.env.locals X.e X.it X.ty X.t X.tk i l b s
structure EscG.To (X:EscG) (i:Nat) (l:Int) (b:Bool) (n:Nat):Prop where
 cnt:n=(esc b i l (X.t.cps.toList.drop i)).length
 le:n≤X.ps.length
 ps:X.ps.drop (X.ps.length - n)=esc b i l (X.t.cps.toList.drop i)
structure EscG.Mid (X:EscG) (i:Nat) (c:Nat) (b:Bool) (s:Shared):Prop where
 en:∃old,IsEnum s.heap X.e X.it ((i + 1:Nat):Int) old
 st:s.heap.IsStrIter X.it X.ty X.t X.tk (i + 1)
 ns:∃m u v,s.heap.Ns X.env.locals m∧m "escape" = some (.bool b)∧m "pos" = some (.int i u)∧m "ch" = some (.str ⟨#[c]⟩ v)
theorem A9d.keep {C e it:Addr} {ty:String} {t:Str} {tk:Tok} {i:Nat} {l:Int} {b:Bool} {s s':Shared} (x:A9d C e it ty t tk i l b s) (k:∀y∈[C,e,it],∀o,s.heap.get? y=some o→s'.heap.get? y=some o):A9d C e it ty t tk i l b s' where
 en:=x.en.imp fun _ z=>k _ (.tail _ (.head _)) _ z
 st:=x.st.imp fun _ z=>⟨k _ (.tail _ (.tail _ (.head _))) _ z.1,z.2⟩
 ns:=let ⟨m,u,h,r⟩:=x.ns; ⟨m,u,h.at fun o z=>k _ (.head _) o z,r⟩
theorem A9d.live {C e it:Addr} {ty:String} {t:Str} {tk:Tok} {i:Nat} {l:Int} {b:Bool} {s:Shared} (x:A9d C e it ty t tk i l b s):∀y∈[C,e,it],∃o,s.heap.get? y=some o:=
 List.forall_mem_cons.mpr ⟨x.ns.elim fun _ h=>h.elim fun _ h=>h.1.elim fun o h=>h.elim fun _ h=>h.elim fun _ z=>⟨o,z.1⟩,List.forall_mem_cons.mpr ⟨x.en.elim fun _ z=>⟨_,z⟩,List.forall_mem_cons.mpr ⟨x.st.elim fun o z=>⟨o,z.1⟩,fun _ h=>nomatch h⟩⟩⟩
section
variable (X:EscG) {K:Flow→Sem Fin} {H:Value→Sem Fin} {i c n:Nat} {l:Int} {b:Bool} {s s₀ s':Shared}
theorem EscG.Mid.at_ (x:X.Mid i c b s):X.At (i + 1) i b s:=⟨x.en,x.st,x.ns.imp fun _=>Exists.imp fun _ h=>h.elim fun _ h=>⟨h.1,h.2.1,h.2.2.1⟩⟩
theorem EscG.yield {a:Addr} {x:Int×Str} {kap:Resume→Shared→Prop} {m:Sem Fin} (g1:X.ps[X.ps.length - 1 - n]?=some x) (hp:A6a s.heap (.ref a) x) (S:A1u X.Pr s₀ s) (Y:X.At i l b s)
  (hkap:∀x s'',(match x with | .ref _=>False | _=>X.Sg n s'' m s'')→kap (.send x) s'') (next:∀s'',X.At i l b s''→X.Sg n s'' m s''):escY X.Pr X.ps n s₀ (.ref a) s kap:=
 ⟨⟨x,g1,hp⟩,S,[X.env.locals,X.e,X.it],fun y hy=>⟨X.hP y hy,Y.live y hy⟩,fun s'' hw=>hkap .none s'' (next s'' (Y.keep hw))⟩
theorem EscG.To.more (x:X.To i l b n) {p:Int×Str} {r:List (Int×Str)} (e:esc b i l (X.t.cps.toList.drop i)=p::r):∃k,n=k + 1∧k=r.length∧k≤X.ps.length∧X.ps[X.ps.length - 1 - k]?=some p∧X.ps.drop (X.ps.length - k)=r:=by
 have h1:=x.cnt
 have h2:=x.le
 have h3:=x.ps
 rw [e] at h1 h3
 subst h1
 have g:=A5e h3 h2
 exact ⟨r.length,rfl,rfl,Nat.le_of_lt h2,g⟩
theorem EscG.setFlag {b':Bool} {p1 p2 p3:Pos} {A':Around} {E:Value→Shared→Prop} {Q:Flow→Shared→Prop} (x:X.At i l b s) (S:A1u X.Pr s₀ s) (q:∀s',X.At i l b' s'→A1u X.Pr s₀ s'→Q .next s'):wpAny (model X.prog X.w) A' (exec (.Assign [.Name "escape" p1] (.Constant (.bool b') 0 p2) p3) X.env) Q E s:=by
 refine e2a3 x.ns fun m u h h1 h2=>?_
 refine B2W X.G h fun h' tk hn hs=>q _ ⟨x.en.imp fun _ z=>hs.extBut _ _ X.eC z,x.st.imp fun _ z=>⟨hs.extBut _ _ X.iC z.1,z.2⟩,_,u,hn,rfl,h2⟩ (S.step fun y o h3 x=>hs.extBut y o (fun q=>X.hP _ (.head _) (q▸h3)) x)
theorem EscG.body (d:X.t.cps.toList.drop i=c::X.t.cps.toList.drop (i + 1)) (x:X.Mid i c b s) (S:A1u X.Pr s₀ s) (T:X.To i l b n) (next:∀b' s₀' s₆ n',X.At (i + 1) i b' s₆→A1u X.Pr s₀' s₆→X.To (i + 1) i b' n'→X.Sg n' s₀' (K .next) s₆):
  X.Sg n s₀ ((execs (A6K X.q) X.env).wrap K H id id) s:=by
 refine e3a4 x.ns fun m u v h h1 h2 h3=>?_
 refine seg_execs_cons (B2U (wpAny_isTrue_value (A3x X.G X.G.kesc h (v:=.bool b) h1 (by decide) (wpAny_truthy_bool ?_)) rfl))
 cases b with
 | true=>
  obtain ⟨k,rfl,k1,k2,g1,g2⟩:=T.more X (by rw [d]; rfl)
  refine seg_execs_cons (seg_Expr_Yield X.f1 rfl X.f2 (C4c X.G h h2 h3 fun a h₆ tk₆ hpair hk₆ kap hkap=>?_) X.G.co X.G.quiet)
  refine X.yield g1 hpair (S.step fun y o _ x=>hk₆ y o x) ((x.at_ X).keep fun y _ o z=>hk₆ y o z) hkap fun s'' Y=>?_
  exact seg_execs_cons (A4A (X.setFlag Y (A1u.refl s'') fun s' Y' S'=>seg_execs_nil (next false s'' s' k Y' S' ⟨k1,k2,g2⟩)))
 | false=>
  refine seg_execs_cons (B2U (wpAny_isTrue_Compare1 (A3x X.G X.G.kch h h3 (by decide) (wpAny_Constant_str (P.eq_str (wpAny_truthy_bool ?_))))))
  by_cases h92:c=92
  ·
   subst h92
   rw [if_pos (show ((({ cps:=#[92] }:Str).cps.toList == ("\\" : Str).cps.toList)=true) by decide)]
   have e1:esc false i l (X.t.cps.toList.drop i)=esc true (i + 1) i (X.t.cps.toList.drop (i + 1)):=by rw [d]; exact if_pos rfl
   refine seg_execs_cons (A4A (X.setFlag (b':=true) ((x.at_ X).keep fun y _ o z=>z) (S.step fun y o _ x=>x) fun s' Y' S'=>?_))
   exact seg_execs_nil (seg_execs_nil (seg_execs_nil (next true s₀ s' n Y' S' ⟨e1▸T.cnt,T.le,e1▸T.ps⟩)))
  ·
   rw [if_neg (show ¬((({ cps:=#[c] }:Str).cps.toList == ("\\" : Str).cps.toList)=true) from fun h=>h92 (List.cons.inj (beq_iff_eq.mp h)).1)]
   obtain ⟨k,rfl,k1,k2,g1,g2⟩:=T.more X (p:=((i:Int),⟨#[c]⟩)) (by rw [d]; exact if_neg h92)
   refine seg_execs_cons (seg_Expr_Yield X.f1 rfl X.f2 (C4b X.G h h2 h3 fun a h₆ hpair hk₆ kap hkap=>?_) X.G.co X.G.quiet)
   refine X.yield g1 hpair (S.step fun y o _ x=>hk₆ y o x) ((x.at_ X).keep fun y _ o z=>hk₆ y o z) hkap fun s'' Y=>?_
   exact seg_execs_nil (seg_execs_nil (seg_execs_nil (next false s'' s'' k Y (A1u.refl s'') ⟨k1,k2,g2⟩)))
theorem EscG.draw (hlt:i < X.t.cps.size) (x:X.At i l b s) (S:A1u X.Pr s₀ s) {A':Around} (hh:A'.handled=none) {E:Value→Shared→Prop} {Q:Option Value→Shared→Prop}
  (q:∀c v s₁,X.t.cps.toList.drop i=c::X.t.cps.toList.drop (i + 1)→(∀{Q:Unit→Shared→Prop} {E1 E2:Value→Shared→Prop},(∀s',X.Mid i c b s'→A1u X.Pr s₀ s'→Q () s')→wpAny (model X.prog X.w) A' (letOwnedTupleGo (B2V X.q) (.ref X.e) v) (fun _ s₂=>wpAny (model X.prog X.w) A' (PySem.assign (B2V X.q) X.env v) Q E2 s₂) E1 s₁)→Q (some v) s₁):
  wpAny (model X.prog X.w) A' (pyNext (.ref X.e)) Q E s:=by
 obtain ⟨old,he⟩:=x.en
 refine e2a3 x.ns fun m u hm h1 _=>?_
 refine wpAny_pyNext_enum_itemD (X.D _ hh) he x.st hlt X.ei (fun hx=>X.ei (List.mem_singleton.mp hx)) fun v₁ h₁ tk₁ hP heo hst₁ ht₁ hz₁ hk₁=>?_
 refine e2a2 hP fun c v hc e3z=>?_
 subst e3z
 have heH:X.e < s.heap.objs.size:=Heap.lt_size he
 refine q c _ _ ?_ fun {Q E1 E2} q=>wpAny_letOwnedTupleGo_enum heo fun h₂ he₂ hs₂=>?_
 ·
  have h3:X.t.cps.toList[i]?=some c:=by rw [Array.getElem?_toList]; exact hc
  obtain ⟨h4,h5⟩:=List.getElem?_eq_some_iff.mp h3
  rw [List.drop_eq_getElem_cons h4,h5]
 replace hs₂:Heap.SameBut X.e h₁ h₂:=hs₂
 have ht₂:h₂.IsTuple s.heap.objs.size #[.int i tk₁,.str ⟨#[c]⟩ v]:=⟨_,(hs₂.2 _ (Nat.ne_of_gt heH)).trans ht₁,rfl,_,rfl⟩
 have hz₂:h₂.objs.size=s.heap.objs.size + 1:=hs₂.1.trans hz₁
 refine wpAny_assign_Tuple hh ht₂ rfl rfl fun h₃ hx₃=>?_
 replace hx₃:Heap.ExtBut h₂.objs.size h₂ h₃:=hx₃
 have old₃:∀y o,y < s.heap.objs.size→h₂.get? y=some o→h₃.get? y=some o:=fun y o hy x=>hx₃ y o (by rw [hz₂]; exact Nat.ne_of_lt (Nat.lt_succ_of_lt hy)) x
 have hn₃:h₃.Ns X.env.locals m:=((hm.at fun o x=>hk₁ _ o (Ne.symm X.eC) (Ne.symm X.iC) x).sameBut hs₂ (Ne.symm X.eC)).at fun o x=>old₃ _ o hm.lt x
 show wpAny _ _ (do holding [.str ⟨#[c]⟩ v] (PySem.assign (.Name "pos" (X.q 0)) X.env (.int i tk₁)); do holding [] (PySem.assign (.Name "ch" (X.q 1)) X.env (.str ⟨#[c]⟩ v)); pure ()) _ _ _
 refine wpAny_bind (wpAny_holding (wpAny_assign_Name (wpAny_storeName_local X.G.kpos hn₃ (fun h₄ hn₄ hs₄=>?_) X.G.hp)))
 replace hs₄:Heap.SameBut X.env.locals h₃ h₄:=hs₄
 refine wpAny_bind (wpAny_holding (wpAny_assign_Name (wpAny_storeName_local X.G.kch hn₄ (fun h₅ hn₅ hs₅=>wpAny_pure ?_) X.G.hp)))
 replace hs₅:Heap.SameBut X.env.locals h₄ h₅:=hs₅
 have up:∀y o,y≠X.env.locals→y < s.heap.objs.size→h₂.get? y=some o→h₅.get? y=some o:=fun y o h3 h4 x=>hs₅.extBut y o h3 (hs₄.extBut y o h3 (old₃ y o h4 x))
 refine q _ ⟨⟨_,(Int.natCast_add i 1).symm▸up X.e _ X.eC heH he₂⟩,(hst₁.extBut hs₂.extBut (Ne.symm X.ei)).imp fun o z=>⟨up X.it o X.iC (let ⟨_,h3,_⟩:=x.st; Heap.lt_size h3) z.1,z.2⟩,_,tk₁,v,hn₅,h1,rfl,rfl⟩ (S.step fun y o h4 x=>?_)
 have ye:y≠X.e:=fun q=>X.hP _ (.tail _ (.head _)) (q▸h4)
 have yi:y≠X.it:=fun q=>X.hP _ (.tail _ (.tail _ (.head _))) (q▸h4)
 exact up y o (fun q=>X.hP _ (.head _) (q▸h4)) (Heap.lt_size x) (hs₂.extBut y o ye (hk₁ y o ye yi x))
theorem EscG.run (hF:∀b l s₀ s n,(∃m u,s.heap.Ns X.env.locals m∧m "escape" = some (.bool b)∧m "pos" = some (.int l u))→A1u X.Pr s₀ s→X.To X.t.cps.size l b n→X.Sg n s₀ (.pure (.again (.block [] X.env))) s):
  ∀k i b l (s₀ s:Shared) n,i + k=X.t.cps.size→X.At i l b s→A1u X.Pr s₀ s→X.To i l b n→X.Sg n s₀ ((model X.prog X.w).den X.loop) s:=by
 intro k
 induction k with
 | zero=>
  intro i b l s₀ s n hk x S T
  obtain rfl:i=X.t.cps.size:=hk
  obtain ⟨old,he⟩:=x.en
  refine e2a3 x.ns fun m u hm h1 h2=>?_
  exact A5d fun E=>wpAny_pyNext_enum_endD (X.D _ X.hh) he x.st fun h' hx=>hF b l s₀ _ n ⟨m,u,hm.extBut hx (Ne.symm X.iC),h1,h2⟩ (S.step (tk:=s.toks) fun y o y2 e'=>hx y o (fun q=>X.hP _ (.tail _ (.tail _ (.head _))) (q▸y2)) e') T
 | succ k ih=>
  intro i b l s₀ s n hk x S T
  exact A5d fun E=>X.draw (hk▸Nat.lt_add_of_pos_right (Nat.succ_pos k)) x S X.hh fun c v s₁ d q=>q fun s' y S'=>X.body d y S' T fun b' s₀' s₆ n' x' S6 T'=>seg_again rfl (ih (i + 1) b' i s₀' s₆ n' ((Nat.succ_add_eq_add_succ i k).trans hk) x' S6 T')
end
end Mine
end
section
namespace Mine
open PySem
noncomputable def escI (q:Nat→Pos):Stmt:=.If (.Name "escape" (q 37)) [.Expr (.Yield (some (.Tuple [.Name "pos" (q 38),.Constant (.str "\\") 0 (q 39)] 0 (q 40))) (q 41)) (q 42)] [] (q 43)
noncomputable def escF (q:Nat→Pos):Stmt:=.For (B2V q) (.Call (.Name "enumerate" (q 33)) [.Name "addr" (q 34)] [] (q 35)) (A6K q) [] (q 36)
noncomputable def esc0 (q:Nat→Pos):Stmt:=.Assign [.Name "pos" (q 27)] (.Constant (.int 0) 0 (q 28)) (q 29)
noncomputable def esc1 (q:Nat→Pos):Stmt:=.Assign [.Name "escape" (q 30)] (.Constant (.bool false) 0 (q 31)) (q 32)
noncomputable def A6b (q:Nat→Pos):List Stmt:=[esc0 q,esc1 q,escF q,escI q]
section
variable {prog:Program} {w:World} {A:Around} {E:Value→Shared→Prop} {s:Shared} {env:Env}
theorem C4d (G:GEnv env) {m:Str→Option Value} {i:Int} {u:Tok} {p1 p2 p3:Pos} {Q:Value→Shared→Prop} (hn:s.heap.Ns env.locals m) (h1:m "pos" = some (.int i u))
  (h:∀a h' tk,A6a h' (.ref a) (i,⟨#[92]⟩)→(∀b o,s.heap.get? b=some o→h'.get? b=some o)→Q (.ref a) { s with heap:=h',toks:=tk }):
  wpAny (model prog w) A (eval (.Tuple [.Name "pos" p1,.Constant (.str "\\") 0 p2] 0 p3) env) Q E s:=by
 refine wpAny_Tuple (wpAny_items_cons (A3x G G.kpos hn h1 (by decide) (wpAny_items_cons (wpAny_Constant_str (wpAny_items_nil ⟨A7N,?_⟩)))))
 exact h _ _ _ ⟨_,u,s.toks,rfl,_,Heap.get?_push_size _ rfl,rfl,_,rfl⟩ fun b o e=>Heap.get?_push_of_some _ e
theorem B2X {A':Around} (hh:A'.handled=none) (it:Addr) (t:Str) (tk:Tok):
  Draws prog w A' it [it] t.cps.size (fun i v=>∃c u,t.cps[i]?=some c∧v=.str ⟨#[c]⟩ u) (fun i h=>h.IsStrIter it (strIterType t) t tk i):=by
 unfold strIterType
 cases q:t.cps.all (· < 128)
 ·
  exact Draws.strWide hh it t tk
 ·
  exact Draws.strAscii hh it t tk
noncomputable def escK:Flow→Sem Fin:=fun f=>.pure (.done (.ret (match f with | .ret v=>v | _=>.none)))
noncomputable def escH (env:Env):Value→Sem Fin:=fun e=>(leaving env e).wrap (fun _=>.raise e) .raise id id
theorem B5A (G:GEnv env) {q:Nat→Pos} {Pr:Addr→Prop} {ps:List (Int×Str)} {n k:Nat} {l:Int} {b:Bool} {c:Code} {s₀ s₆:Shared} (hns:∃m u,s₆.heap.Ns env.locals m∧m "escape" = some (.bool b)∧m "pos" = some (.int l u)) (S:A1u Pr s₀ s₆) (hn:n=(esc b k l []).length) (hle:n≤ps.length) (hps:ps.drop (ps.length - n)=esc b k l []):
  Seg (model prog w) A (escR Pr) (escY Pr ps) n s₀ c ((execs [escI q] env).wrap escK (escH env) id id) [] s₆:=by
 refine e2a3 hns fun m₆ u₆ hm₆ e1 e2=>?_
 refine seg_execs_cons (B2U (wpAny_isTrue_value (A3x G G.kesc hm₆ e1 (by decide) (wpAny_truthy_bool ?_)) rfl))
 cases b with
 | false=>
  rw [if_neg (by decide)]
  refine seg_execs_nil (seg_execs_nil ?_)
  exact seg_end (.ok (.ret .none)) ⟨rfl,hn,S⟩
 | true=>
  rw [if_pos rfl]
  have hn':n=1:=hn
  subst hn'
  obtain ⟨g1,g2⟩:=A5e (n:=0) hps hle
  refine seg_execs_cons (seg_Expr_Yield rfl rfl rfl (C4d G hm₆ e2 fun a h₇ tk₇ hpair hk₇ kap hkap=>?_) G.co G.quiet)
  refine ⟨⟨_,g1,hpair⟩,S.step fun y o _ x=>hk₇ y o x,[],(fun y hy=>nomatch hy),fun s'' hw=>hkap .none s'' ?_⟩
  refine seg_execs_nil (seg_execs_nil ?_)
  exact seg_end (.ok (.ret .none)) ⟨rfl,rfl,A1u.refl s''⟩
theorem C2m (X:EscG) (hps:X.ps=esc false 0 0 X.t.cps.toList) (F:∀n s₀ s₆,Seg (model X.prog X.w) X.A (escR X.Pr) (escY X.Pr X.ps) n s₀ (.func (A6b X.q) X.env) ((execs [escI X.q] X.env).wrap escK (escH X.env) id id) [] s₆→X.Sg n s₀ (.pure (.again (.block [] X.env))) s₆) {s₀ s:Shared} (st0:X.At 0 0 false s) (S:A1u X.Pr s₀ s):
  X.Sg X.ps.length s₀ ((model X.prog X.w).den X.loop) s:=by
 have hd:X.t.cps.toList.drop X.t.cps.size=[]:=List.drop_eq_nil_of_le (Nat.le_of_eq Array.length_toList)
 exact EscG.run X (fun b l s₀ s₆ n hns S T=>F _ _ _ (B5A X.G hns S (hd▸T.cnt) T.le (hd▸T.ps))) X.t.cps.size 0 false 0 s₀ s _ (Nat.zero_add _) st0 S ⟨by rw [hps]; rfl,Nat.le_refl _,by rw [Nat.sub_self,hps]; rfl⟩
theorem B2Y (G:GEnv env) (hh:A.handled=none) {q:Nat→Pos} {Pr:Addr→Prop} {m:Str→Option Value} {t:Str} {tk:Tok} (hm:s.heap.Ns env.locals m) (ha:m "addr" = some (.str t tk)) (hPC:¬Pr env.locals) (hlive:∀b,Pr b→∃o,s.heap.get? b=some o)
  (hen:∀(A':Around) (s':Shared) E Q,(∀b o,b≠env.locals→s.heap.get? b=some o→s'.heap.get? b=some o)→Q (.type "enumerate") s'→wpAny (model prog w) A' (loadName env "enumerate") Q E s'):
  Seg (model prog w) A (escR Pr) (escY Pr (esc false 0 0 t.cps.toList)) (esc false 0 0 t.cps.toList).length s (.func (A6b q) env) ((model prog w).den (.func (A6b q) env)) [] s:=by
 refine seg_func ?_
 show Seg _ _ _ _ _ _ _ ((execs (A6b q) env).wrap escK (escH env) id id) _ _
 refine seg_execs_cons (A4A (wpAny_Assign_Name (wpAny_Constant_int (wpAny_storeName_local G.kpos hm (fun h₁ hn₁ hs₁=>?_) G.hp))))
 replace hs₁:Heap.SameBut env.locals s.heap h₁:=hs₁
 refine seg_execs_cons (A4A (B2W G hn₁ fun h₂ tk₂ hn₂ hs₂=>?_))
 replace hs₂:Heap.SameBut env.locals h₁ h₂:=hs₂
 have k₂:∀b o,b≠env.locals→s.heap.get? b=some o→h₂.get? b=some o:=fun b o h x=>hs₂.extBut b o h (hs₁.extBut b o h x)
 refine seg_execs_cons (B9y (fun x=>rfl) ?_)
 refine wpAny_Call_NameR (wpAny_Name (hen _ _ _ _ k₂ ?_) (by decide))
 refine callWith_type1 ?_
 refine A3x G G.kaddr hn₂ (v:=.str t tk) ha (by decide) ?_
 refine call_enumerate_str fun h₃ he₃ hst₃ hz₃ hk₃=>?_
 have live₃:∀b,Pr b→b < h₂.objs.size:=fun b hb=>by
  obtain ⟨o,ho⟩:=hlive b hb
  rw [hs₂.1,hs₁.1]
  exact Heap.lt_size ho
 have hCs:env.locals < h₂.objs.size:=hn₂.lt
 refine wpAny_pyIter_enum he₃ fun p=>?_
 have hBe:¬Pr (h₂.objs.size + 1):=fun h=>absurd (live₃ _ h) (Nat.not_lt.mpr (Nat.le_succ _))
 have hBi:¬Pr h₂.objs.size:=fun h=>absurd (live₃ _ h) (Nat.lt_irrefl _)
 have st0:A9d env.locals (h₂.objs.size + 1) h₂.objs.size (strIterType t) t tk 0 0 false { s with heap:=h₃,toks:=tk₂ }:=⟨⟨_,he₃⟩,hst₃,_,_,hn₂.at fun o x=>hk₃ _ o x,rfl,rfl⟩
 exact C2m ⟨prog,w,A,env,q,h₂.objs.size + 1,h₂.objs.size,strIterType t,t,tk,Pr,esc false 0 0 t.cps.toList,_,G,by exact hh,Nat.succ_ne_self _,Nat.ne_of_gt (Nat.lt_succ_of_lt hCs),Nat.ne_of_gt hCs,List.forall_mem_cons.mpr ⟨hPC,List.forall_mem_cons.mpr ⟨hBe,List.forall_mem_cons.mpr ⟨hBi,fun _ h=>nomatch h⟩⟩⟩,fun A' h=>B2X h _ t tk,by rfl,by rfl⟩ rfl
  (fun n s₀ s₆ h=>seg_again rfl (seg_leaf (.ok .next) h)) st0 ((A1u.refl s).step fun y o h1 x=>hk₃ y o (k₂ y o (fun q=>hPC (q▸h1)) x))
end
end Mine
end
section
namespace Mine
open PySem
section
variable {prog:Program} {w:World} {A:Around} {E:Value→Shared→Prop} {s:Shared}
theorem A9e {a:Addr} {g n:Nat} {gs:GenState} {P:Nat→Shared→Shared→Prop} {Y:Protocol} {Q:Option Value→Shared→Prop} (hh:A.handled=none)
  (hl:s.heap.NoLimit) (hroom:A.depth < recursionLimit)
  (hg:s.heap.IsGen a g) (hgs:s.gens[g]?=some gs)
  (hgo:gs.Goes (model prog w) A.in1 (fun n s₀ r s₁=>r=.ok (.ret .none)∧P n s₀ s₁) Y n (.send .none) (s.setGen g .running))
  (hY:∀v s₁ gs',gs'.bare=true→Y (n - 1) (s.setGen g .running) v s₁ (fun r' s''=>match n with
    | 0=>False
    | m + 1=>gs'.Goes (model prog w) A.in1 (fun n s₀ r s₁=>r=.ok (.ret .none)∧P n s₀ s₁) Y m r' s'')→Q (some v) (s₁.setGen g gs'))
  (hP:∀s₁,P n (s.setGen g .running) s₁→∀h',(∀b o,s₁.heap.get? b=some o→h'.get? b=some o)→Q none { s₁.setGen g .finished with heap:=h' }):
  wpAny (model prog w) A (pyNext (.ref a)) Q E s:=by
 unfold pyNext
 refine wpAny_bind (wpAny_attempt (wpAny_callSpecial?_slot (name:=Str.ofString "__next__") hg.typeIs slot_gen_next
  (wpAny_call_entry slot_gen_next hg.typeIs entry_gen_next ?_ (args_gen_next _))))
 show wpAny _ _ (Builtin.Generator.genWake (.ref a) (.send .none)) _ _ s
 unfold Builtin.Generator.genWake
 refine wpAny_bind (wpAny_holding (wpAny_genNumber hg (wpAny_bind (wpAny_genState hgs ?_))))
 cases gs with
 | running=>exact hgo.elim
 | finished=>exact hgo.elim
 | _=>
  refine wpAny_bind (wpAny_roomToWake hl hroom ?_)
  show wpAny _ _ (.resume g (.send .none) [] _) _ _ s
  refine wpAny_resumeQ hgs hgo (fun x s₁ hx=>?_) (fun v s₁ gs' hb hv=>?_)
  ·
   obtain ⟨rfl,hp⟩:=hx
   show wpAny _ _ (newExc (.type "StopIteration") [] >>= _) _ _ _
   refine wpAny_bind ?_
   simp only [newExc,newTuple]
   refine wpAny_bind (wpAny_newObj_type ?_ (by size_fits))
   refine wpAny_bind (m:=firstArgMember _ _) (wpAny_of_eq (a:=Value.none) (by first | rfl | (simp only [firstArgMember]; rfl)) ?_)
   refine wpAny_newObj_type ?_ (by size_fits)
   simp only [raiseNew]
   refine wpAny_bind (wpAny_bind (wpAny_handled ?_))
   rw [show A.in1.handled=none from hh]
   refine wpAny_throw ?_
   refine wpAny_bind (wpAny_isInstance (T := "StopIteration") (b:=true) ⟨_,Heap.get?_push_size _ rfl,rfl⟩ isSubtype_stop ?_)
   exact wpAny_pure (hP s₁ hp _ fun b o hb=>Heap.get?_push_of_some _ (Heap.get?_push_of_some _ hb))
  ·
   exact wpAny_pure ⟨v,rfl,wpAny_pure (hY v s₁ gs' hb hv)⟩
end
noncomputable def Kept (Pr:Addr→Prop) (H0:Heap) (h:Heap):Prop:=(∀b,Pr b→∃o,h.get? b=some o)∧(∀b o,H0.get? b=some o→h.get? b=some o)
structure GenW (prog:Program) (w:World) (A:Around) (Pr:Addr→Prop) (H0:Heap) (g:Nat) (rest:List (Int×Str)) (s:Shared) (gs:GenState) (W:List Addr) (ps:List (Int×Str)):Prop where
 at_:s.gens[g]?=some gs
 bare:gs.bare=true
 own:∀b∈W,¬Pr b∧∃o,s.heap.get? b=some o
 more:rest=ps.drop (ps.length - rest.length)
 le:rest.length≤ps.length
 go:∀s'':Shared,Kept Pr H0 s''.heap→(∀b∈W,∀o,s.heap.get? b=some o→s''.heap.get? b=some o)→gs.Goes (model prog w) A.in1 (escR Pr) (escY Pr ps) rest.length (.send .none) s''
noncomputable def B1i (prog:Program) (w:World) (A:Around) (Pr:Addr→Prop) (H0:Heap) (g:Nat) (rest:List (Int×Str)) (s:Shared):Prop:=∃gs W ps,GenW prog w A Pr H0 g rest s gs W ps
structure A9f (Pr:Addr→Prop) (g:Nat) (s s':Shared):Prop where
 keep:∀x o,Pr x→s.heap.get? x=some o→s'.heap.get? x=some o
 gens:GenOnly g s.gens s'.gens
 bare:∀x,s'.gens[g]?=some x→x.bare=true
 drawn:s'.drawn=s.drawn
 os:s'.os=s.os
section
variable {prog:Program} {w:World} {A:Around} {E:Value→Shared→Prop} {s:Shared}
theorem B0j {Pr:Addr→Prop} {H0:Heap} {a:Addr} {g:Nat} {rest:List (Int×Str)} {Q:Option Value→Shared→Prop} (hh:A.handled=none) (hl:s.heap.NoLimit) (hroom:A.depth < recursionLimit) (hg:s.heap.IsGen a g)
  (K:Kept Pr H0 s.heap) (G:B1i prog w A Pr H0 g rest s) (hnone:rest=[]→∀s',A9f Pr g s s'→Q none s')
  (hsome:∀p r,rest=p::r→∀v s',A6a s'.heap v p→A9f Pr g s s'→B1i prog w A Pr H0 g r s'→Q (some v) s'):
  wpAny (model prog w) A (pyNext (.ref a)) Q E s:=by
 obtain ⟨gs,W,ps,Z⟩:=G
 have hgs:=Z.at_
 have hps:=Z.more
 have hle:=Z.le
 refine A9e (P:=fun n s₀ s₁=>n=0∧A1u Pr s₀ s₁) hh hl hroom hg hgs (Z.go _ K fun b _ o e=>e) (fun v s₁ gs' hb' hy=>?_) (fun s₁ hp h' hk=>?_)
 ·
  obtain ⟨⟨p,hp,hpair⟩,S,W',hW',hgo⟩:=hy
  have hr:rest≠[]:=fun e=>by
   subst e
   have:=hgo _ fun b _ o e=>e
   exact this
  refine e2a1 (List.exists_cons_of_ne_nil hr) fun p' r e2z=>?_
  subst e2z
  obtain ⟨g1,g2⟩:=A5e hps.symm hle
  have e:p=p':=by
   have h1:ps[ps.length - 1 - r.length]?=some p:=hp
   rw [g1] at h1; exact (Option.some.inj h1).symm
  subst e
  have hg1:s₁.gens[g]?=some .running:=by rw [S.2.1]; exact setGen_self hgs
  refine hsome p r rfl v _ hpair ⟨fun x o h1 e=>S.1 x o h1 e,?_,fun x hx=>?_,S.2.2.1,S.2.2.2⟩ ⟨gs',W',ps,setGen_self hg1,hb',hW',g2.symm,Nat.le_of_succ_le hle,fun s'' K' hw=>hgo s'' hw⟩
  ·
   have h1:=GenOnly.setGen s g .running
   rw [←S.2.1] at h1
   exact h1.trans (GenOnly.setGen s₁ g gs')
  ·
   rw [setGen_self hg1] at hx; cases hx; exact hb'
 ·
  obtain ⟨h0,S⟩:=hp
  have hr:rest=[]:=List.eq_nil_of_length_eq_zero h0
  have hg1:s₁.gens[g]?=some .running:=by rw [S.2.1]; exact setGen_self hgs
  refine hnone hr _ ⟨fun x o h1 e=>hk x o (S.1 x o h1 e),?_,fun x hx=>?_,S.2.2.1,S.2.2.2⟩
  ·
   have h1:=GenOnly.setGen s g .running
   rw [←S.2.1] at h1
   exact h1.trans (GenOnly.setGen s₁ g .finished)
  ·
   have hx':(s₁.setGen g .finished).gens[g]?=some x:=hx
   rw [setGen_self hg1] at hx'; cases hx'; rfl
end
end Mine
end
section
namespace Mine
open PySem PyProof.Rows
noncomputable abbrev Cx.withGens (C:Cx) (G:Array GenState):Cx:={ C with gens:=G }
noncomputable def A5f (p:Nat×List Nat):Int×Str:=((p.1:Int),⟨p.2.toArray⟩)
theorem B5B (r:List Nat):∀(b:Bool) (i:Nat) (l:Int),(b=true→l=(i:Int) - 1∧1≤i)→esc b i l r=(escA b i r).map A5f:=by
 induction r with
 | nil=>
  intro b i l h
  cases b with
  | false=>rfl
  | true=>
   obtain ⟨h1,h2⟩:=h rfl
   subst h1
   exact congrArg (fun z:Int=>[(z,Str.mk #[92])]) (Int.ofNat_sub h2).symm
 | cons c r ih=>
  intro b i l h
  cases b with
  | true=>exact congrArg (_::·) (ih false (i + 1) i (fun h=>nomatch h))
  | false=>
   show (if c=92 then _ else _)=List.map A5f (if c=92 then _ else _)
   by_cases hc:c=92
   ·
    rw [if_pos hc,if_pos hc]
    exact ih true (i + 1) i fun _=>⟨(Int.add_sub_cancel (i:Int) 1).symm,Nat.le_add_left _ _⟩
   ·
    rw [if_neg hc,if_neg hc]
    exact congrArg (_::·) (ih false (i + 1) i (fun h=>nomatch h))
noncomputable def B8p (l:List (Nat×List Nat)):Prop:=∀p∈l,(∀c∈p.2,c < symB)∧p.2.length≤4000
theorem A6c (r:List Nat):∀(b:Bool) (i:Nat),(∀c∈r,c < symB)→B8p (escA b i r):=by
 induction r with
 | nil=>
  intro b i h p hp
  cases b with
  | true=>rw [List.mem_singleton.mp hp]; exact ⟨List.forall_mem_cons.mpr ⟨by decide +kernel,fun _ h=>nomatch h⟩,Nat.le_of_ble_eq_true rfl⟩
  | false=>exact nomatch hp
 | cons d r ih=>
  intro b i h p hp
  have ih:=fun b i=>ih b i (fun c hc=>h c (.tail _ hc)) p
  cases b with
  | true=>
   rcases List.mem_cons.mp hp with rfl | hp
   ·
    exact ⟨List.forall_mem_cons.mpr ⟨by decide +kernel,List.forall_mem_cons.mpr ⟨h d (.head _),fun _ h=>nomatch h⟩⟩,Nat.le_of_ble_eq_true rfl⟩
   ·
    exact ih false (i + 1) hp
  | false=>
   have hp:p∈(if d=92 then escA true (i + 1) r else (i,[d])::escA false (i + 1) r):=hp
   by_cases hc':d=92
   ·
    rw [if_pos hc'] at hp
    exact ih true (i + 1) hp
   ·
    rw [if_neg hc'] at hp
    rcases List.mem_cons.mp hp with rfl | hp
    ·
     exact ⟨List.forall_mem_cons.mpr ⟨h d (.head _),fun _ h=>nomatch h⟩,Nat.le_of_ble_eq_true rfl⟩
    ·
     exact ih false (i + 1) hp
structure B2Z (C:Cx):Prop where
 glob:C.mg "_iter_escaped_chars" = some (.ref 70)
 fn:∃o fd,C.h₀.get? 70=some o∧o.data=.func fd
 make:∀{A:Around} {E:Value→Shared→Prop} {s:Shared} {t:Str} {tk:Tok} {Q:Value→Shared→Prop},(∀b o,C.h₀.get? b=some o→s.heap.get? b=some o)→A.depth < recursionLimit→
  (∀a s' gs,s.heap.get? a=none→s'.heap.IsGen a s.gens.size→(∀b o,s.heap.get? b=some o→s'.heap.get? b=some o)→s'.gens=s.gens.push gs→gs.bare=true→s'.drawn=s.drawn→s'.os=s.os→
   (∀(Pr:Addr→Prop) (A':Around),(∀b,Pr b→b=a∨∃o,s.heap.get? b=some o)→A'.handled=none→B1i C.prog C.w A' Pr C.h₀ s.gens.size (esc false 0 0 t.cps.toList) s')→Q (.ref a) s')→
  wpAny (MM C) A (call (.ref 70) [.str t tk]) Q E s
noncomputable def PrOf (C:Cx) (fi:Fi) (φ:Nat→Addr) (X:List (Addr×Obj)) (hp:List (Nat×O)) (a b:Addr):Prop:=(∃o,C.h₀.get? b=some o)∨b∈fi.ads X∨(∃i∈A0c hp,b=φ i)∨b=a
noncomputable def A7O (C:Cx) (fi:Fi) (A:Around) (X:List (Addr×Obj)) (σ σ':St) (f:Fl) (l:List (Nat×List Nat)) (target:PySem.Expr) (body:List PySem.Stmt):Prop:=
 ∀φ s R a g Pr,Inv C fi φ X σ s→C.gens.size≤g→s.heap.IsGen a g→(∀b,Pr b↔PrOf C fi φ X σ.hp a b)→(C.h₀.get? a=none∧(∀i∈A0c σ.hp,φ i≠a)∧a∉fi.env.locals::fi.cad)→
  B1i C.prog C.w A Pr C.h₀ g (l.map A5f) s→B8p l→A5A C fi φ X σ σ' f R→codeAny (MM C) A (.forLoop target (.ref a) body [] fi.env) R s
noncomputable def ForG (C:Cx) (r:Run) (N:Nat):Prop:=∀{σ σ':St} {f:Fl} {tg:Tg} {t:List S} {l:List (Nat×List Nat)} {fi:Fi} {A:Around} {X:List (Addr×Obj)} {k k':Nat} {te:PySem.Expr} {body:List PySem.Stmt},
 r (.forG tg t l) σ=some (.f f,σ')→Room A N→TrT k fi.cx tg te→TrSS k' fi.cx t body→A7O C fi A X σ σ' f l te body
theorem B3a {o:O} (h:B8I o=true):own o=[]:=by
 cases o with
 | list _=>rfl
 | tup _=>rfl
 | tok | lex | fit | frz _=>exact noft h
theorem A7P:∀{a b:List (Nat×O)},B8J a b=true→A0c a=A0c b
 | [],[],_=>rfl
 | [],_::_,h=>noft h
 | _::_,[],h=>noft h
 | p::a,q::b,h=>by
  have h1:=both h
  have h2:=both h1.2
  have h3:=both h2.2
  rw [A0f,A0f,A7P h3.2,A8y h1.1,B3a h2.1,B3a h3.1]
section
variable {C:Cx} {fi:Fi} {φ φ':Nat→Addr} {X:List (Addr×Obj)} {σ σ' σ₁ σ₂ σ₃:St} {s s':Shared} {A:Around} {n:Nat} {r:Run} {N:Nat} {v:V} {vs:List V}
theorem Inv.regens (I:Inv C fi φ X σ s):Inv (C.withGens s.gens) fi φ X σ s:={ I with gens:=⟨#[],by simp,fun y hy=>by cases (Array.not_mem_empty y hy)⟩ }
theorem Inv.ungens {G:Array GenState} (I:Inv (C.withGens G) fi φ X σ s) (h:∃more,G=C.gens ++ more∧AllBare more):Inv C fi φ X σ s:={ I with
 gens:=by
  refine e1a2 h fun m e hm=>?_
  refine e1a2 I.gens fun m' e' hm'=>?_
  refine ⟨m ++ m',by rw [e',←Array.append_assoc,←e],fun y hy=>?_⟩
  rcases Array.mem_append.mp hy with hy | hy
  ·
   exact hm y hy
  ·
   exact hm' y hy }
theorem Inv.genTurn (H:C.Ok) (I:Inv C fi φ X σ s) {a:Addr} {g:Nat} {Pr:Addr→Prop} (hPr:∀b,Pr b↔PrOf C fi φ X σ.hp a b) (hg:C.gens.size≤g) (T:A9f Pr g s s'):Inv C fi φ X σ s' where
 keep:=fun b o e=>T.keep b o ((hPr b).mpr (.inl ⟨o,e⟩)) (I.keep b o e)
 inj:=I.inj
 live:=fun i hi=>⟨(I.live i hi).1,let ⟨ob,e⟩:=(I.live i hi).2; ⟨ob,T.keep _ _ ((hPr _).mpr (.inr (.inr (.inl ⟨i,hi,rfl⟩)))) e⟩⟩
 env:=I.env
 ids:=I.ids
 low:=I.low
 nd:=I.nd
 off:=I.off
 apart:=I.apart
 loc:=let ⟨m,⟨ob,es,ep,e1,e2⟩,h⟩:=I.loc; ⟨m,⟨ob,es,ep,T.keep _ _ ((hPr _).mpr (.inr (.inl I.lad))) e1,e2⟩,h⟩
 cel:=fun k a e=>let ⟨o,cv,h1,h2⟩:=I.cel k a e; ⟨o,cv,T.keep _ _ ((hPr _).mpr (.inr (.inl (I.cadIn (List.mem_of_getElem? e))))) h1,h2⟩
 hp:=fun p hp=>OR.ext H (I.hp p hp) (Ext.refl _ _) (Nat.le_refl _) (I.lowH hp) fun j hj ob e=>T.keep _ _ ((hPr _).mpr (.inr (.inr (.inl ⟨j,A0s hp j hj,rfl⟩)))) e
 xs:=fun p hp=>T.keep _ _ ((hPr _).mpr (.inr (.inl (I.xIn hp)))) (I.xs p hp)
 gens:=by
  refine e1a2 I.gens fun m e hm=>?_
  obtain ⟨g1,g2⟩:=T.gens
  have hle:C.gens.size≤s'.gens.size:=by rw [g1,e,Array.size_append]; lia
  refine ⟨s'.gens.extract C.gens.size s'.gens.size,?_,fun y hy=>?_⟩
  ·
   apply Array.ext'
   apply List.ext_getElem?
   intro i
   rw [Array.getElem?_toList,Array.getElem?_toList,Array.getElem?_append]
   by_cases hi:i < C.gens.size
   ·
    rw [if_pos hi,g2 i (by lia),e,Array.getElem?_append,if_pos hi]
   ·
    rw [if_neg hi,Array.getElem?_extract]
    by_cases hi2:i < s'.gens.size
    ·
     rw [if_pos (by lia)]; congr 1; lia
    ·
     rw [if_neg (by lia)]; exact Array.getElem?_eq_none (by lia)
  ·
   obtain ⟨i,hi⟩:=Array.mem_iff_getElem?.mp hy
   rw [Array.getElem?_extract] at hi
   split at hi
   ·
    by_cases hg':C.gens.size + i=g
    ·
     exact T.bare y (by rw [←hg']; exact hi)
    ·
     rw [g2 _ hg',e,Array.getElem?_append,if_neg (by lia)] at hi
     exact hm y (Array.mem_of_getElem? hi)
   ·
    cases hi
 drawn:=T.drawn.trans I.drawn
 os:=T.os.trans I.os
theorem B3b {k:Nat} {c:Ctx} {te:PySem.Expr} {tg:Tg} (ht:TrT k c tg te) {a:Addr} {g:Nat} {v:Value} {Q:Unit→Shared→Prop} {E:Value→Shared→Prop} (hg:s.heap.IsGen a g) (q:∀u,Q u s):wpAny (MM C) A (letOwnedTupleGo te (.ref a) v) Q E s:=
 A4z ht (fun b _ ts d p=>by
  refine e3a4 hg fun o nm qn ho hc hd _=>?_
  unfold letOwnedTupleGo
  refine wpAny_bind (wpAny_load ho ?_)
  rw [hc,hd]
  show wpAny _ A (if (["enumerate", "zip", "dict_itemiterator", "dict_reverseitemiterator", "odict_iterator", "itertools.zip_longest", "itertools.pairwise"].contains "generator" &&
    (#[Value.int g 0,nm,qn]:Array Value)[0]? == some (rawInt b))=true then _ else _) Q E s
  rw [show (["enumerate", "zip", "dict_itemiterator", "dict_reverseitemiterator", "odict_iterator", "itertools.zip_longest", "itertools.pairwise"].contains "generator")=false from by decide,Bool.false_and,if_neg Bool.false_ne_true]
  exact wpAny_pure (q _)) q
theorem B8q {k:Nat} {c:Ctx} {ts:List Tg} {te:PySem.Expr} (h:TrT k c (.tup ts) te):∃k tes d pp,te=.Tuple tes d pp∧All2 (TrT k c) ts tes:=by
 cases k with
 | zero=>exact h.elim
 | succ k=>exact ⟨k,h⟩
theorem B0k {h h':Heap} {a:Addr} {g:Nat} (x:h.IsGen a g) (k:∀o,h.get? a=some o→h'.get? a=some o):h'.IsGen a g:=x.imp fun _=>Exists.imp fun _=>Exists.imp fun _ z=>⟨k _ z.1,z.2⟩
theorem B0l {h:Heap} {a:Addr} {g:Nat} (x:h.IsGen a g):∃o,h.get? a=some o:=x.imp fun _ ⟨_,_,z⟩=>z.1
theorem B3c (O:OkC C) {FT:List Fn} (hnx:Nx r) (hG:A4J FT=true→∀G,OkC (C.withGens G)∧Snd2 (C.withGens G) r N) (hf:ForG C r N) {f:Fl} {tg:Tg} {t:List S} {l:List (Nat×List Nat)} {k k':Nat} {te:PySem.Expr} {body:List PySem.Stmt}
  (hE:step FT r (.forG tg t l) σ=some (.f f,σ')) (hR:Room A (N + 1)) (h1:TrT k fi.cx tg te) (h2:TrSS k' fi.cx t body):A7O C fi A X σ σ' f l te body:=by
 intro φ s R a g Pr Iv hg0 hga hPr hfree G hl q
 refine A1D hE fun hgen hE=>A1L fun E=>?_
 have K:Kept Pr C.h₀ s.heap:=⟨fun b hb=>by
  rcases (hPr b).mp hb with ⟨o,h⟩ | h | ⟨i,hi,rfl⟩ | rfl
  ·
   exact ⟨o,Iv.keep _ _ h⟩
  ·
   exact Iv.adLive h
  ·
   exact (Iv.live i hi).2
  ·
   exact B0l hga,Iv.keep⟩
 cases l with
 | nil=>
  refine B0j hR.handled (O.H.nolimit.keeps Iv.keep) (A0v hR) hga K G (fun _ s' T=>?_) fun p r e=>nomatch e
  have e:=Prod.mk.inj (Option.some.inj (B0O hE))
  rw [←e.1,←e.2] at q
  exact q φ _ _ (Ext.refl _ _) (Iv.genTurn O.H hPr hg0 T) .next
 | cons p l=>
    refine t_on hE fun ts et hE=>A0p hE fun σ₁ ha hE=>A2q hE fun f₁ σ₂ hb hE=>?_
    have hanx:=A0M ha
    have n2:=hnx _ _ _ _ hb
    refine B0j hR.handled (O.H.nolimit.keeps Iv.keep) (A0v hR) hga K G (fun e=>nomatch e) fun p' r' e v s1 hpair T G1=>?_
    simp only [List.map_cons,List.cons.injEq] at e
    obtain ⟨rfl,rfl⟩:=e
    have I1:=Iv.genTurn O.H hPr hg0 T
    have hga1:s1.heap.IsGen a g:=B0k hga fun o ho=>T.keep _ _ ((hPr _).mpr (.inr (.inr (.inr rfl)))) ho
    refine B3b h1 hga1 fun _=>?_
    obtain ⟨O',h'⟩:=hG hgen s1.gens
    refine e3a1 G1 fun gs W ps Z=>?_
    obtain ⟨Y,hY1,hY2⟩:=A4Y (s:=s1) (fp:=a::W) fun b hb=>by
     rcases List.mem_cons.mp hb with rfl | hb
     ·
      exact B0l hga1
     ·
      exact (Z.own b hb).2
    have memY:∀b∈a::W,∃o,(b,o)∈Y:=fun b hb=>by
     rw [←hY1] at hb
     refine e1a2 (List.mem_map.mp hb) fun p hp e2z=>?_
     subst e2z
     exact ⟨p.2,hp⟩
    have I2:Inv (C.withGens s1.gens) fi φ (Y ++ X) σ s1:=I1.regens.hold fun p hp=>by
     have hm:p.1∈a::W:=by rw [←hY1]; exact List.mem_map_of_mem hp
     rcases List.mem_cons.mp hm with e | hm
     ·
      refine ⟨by rw [e]; exact hfree.1,hY2 p hp,fun i hi=>by rw [e]; exact hfree.2.1 i hi,by rw [e]; exact hfree.2.2⟩
     ·
      have hn:=(Z.own _ hm).1
      refine ⟨?_,hY2 p hp,fun i hi e=>hn ((hPr _).mpr (.inr (.inr (.inl ⟨i,hi,e.symm⟩)))),fun hm=>hn ((hPr _).mpr (.inr (.inl ?_)))⟩
      ·
       cases hq:C.h₀.get? p.1 with
       | none=>rfl
       | some o=>exact absurd ((hPr _).mpr (.inl ⟨o,hq⟩)) hn
      ·
       unfold Fi.ads; exact List.mem_append_left _ hm
    have tup:=B8q (et▸h1)
    refine e4a2 tup fun k0 tes d pp e4z h3=>?_
    subst e4z
    refine e3a2 hpair fun b t1 t2 e3z htup=>?_
    subst e3z
    have hpl:=A0D (env:=fi.env) h3
    refine assign_Tuple_tuple hR.handled htup ?_ ?_ fun hx he=>?_
    ·
     rw [hpl,List.length_map,A3t h3,A0P ha]; rfl
    ·
     rw [hpl,List.findIdx?_eq_none_iff]
     intro x hx
     refine e1a2 (List.mem_map.mp hx) fun t _ e2z=>?_
     subst e2z
     rfl
    rw [hpl,List.map_map]
    have I3:Inv (C.withGens s1.gens) fi φ (Y ++ X) σ { s1 with heap:=hx }:=I2.keeps O'.H (fun b ob e=>he b ob (Nat.ne_of_lt (Heap.lt_size e)) e) rfl rfl rfl
    have hv:VRs C.ρ φ σ.nx [.int p.1,.str p.2] [.int (A5f p).1 t1,.str (A5f p).2 t2]:=by
     have hs:=hl p (.head _)
     refine .cons (.int _ _) (.cons ?_ .nil)
     have e:A0b C.ρ p.2=(A5f p).2:=by unfold A0b; rw [A2H C.ρ hs.1]; rfl
     rw [←e]
     exact .str _ _ hs.2
    refine A4W O' h3 ha I3 hv fun s₂ I4=>?_
    refine h'.ss (X:=Y ++ X) hb hR.dn h2 φ s₂ E _ I4 fun φ' s₃ rf e3 I5 fr=>?_
    have e3':Ext φ φ' σ.nx:=hanx.1▸e3
    have n3:σ.nx≤σ₂.nx:=hanx.1▸n2
    have I6:Inv C fi φ' X σ₂ s₃:=(I5.loose).ungens I1.gens
    have q:=q.step e3' n3
    refine A3v (Z:=fun rf=>R (.ok rf) s₃) hE fr (fun hE=>A1D hE fun hsame hE=>?_) fun e rf fr=>q φ' s₃ rf (Ext.refl _ _) (e▸I6) fr
    have hids:A0c σ₂.hp=A0c σ.hp:=by rw [←A7P (both hsame).2,hanx.2]
    have hfar:∀i∈A0c σ.hp,φ' i=φ i:=fun i hi=>e3' i (Iv.low i hi)
    have heldA:∀b∈a::W,∀o,s1.heap.get? b=some o→s₃.heap.get? b=some o:=fun b hb o e=>by
     obtain ⟨o',ho'⟩:=memY b hb
     rw [Option.some.inj (e.symm.trans (hY2 _ ho'))]
     exact I5.xs _ (List.mem_append_left _ ho')
    refine hf hE hR.dn h1 h2 φ' s₃ R a g Pr I6 hg0 ?_ (fun b=>(hPr b).trans ?_) ⟨hfree.1,fun i hi=>?_,hfree.2.2⟩ ?_ (fun p hp=>hl p (.tail _ hp)) q
    ·
     exact B0k hga1 (heldA a (.head _))
    ·
     unfold PrOf
     rw [hids]
     exact or_congr_right (or_congr_right (or_congr_left ⟨fun ⟨i,hi,e⟩=>⟨i,hi,e.trans (hfar i hi).symm⟩,fun ⟨i,hi,e⟩=>⟨i,hi,e.trans (hfar i hi)⟩⟩))
    ·
     rw [hids] at hi
     rw [hfar i hi]; exact hfree.2.1 i hi
    ·
     refine e1a2 I5.gens fun m em hm=>?_
     have hgl:g < s1.gens.size:=(Array.getElem?_eq_some_iff.mp Z.at_).1
     refine ⟨gs,W,ps,?_,Z.bare,fun b hb=>⟨(Z.own b hb).1,?_⟩,Z.more,Z.le,fun s'' K' hk=>Z.go s'' K' fun b hb o e=>hk b hb o (heldA b (.tail _ hb) o e)⟩
     ·
      rw [em]
      show (s1.gens ++ m)[g]?=some gs
      rw [Array.getElem?_append,if_pos hgl]; exact Z.at_
     ·
      obtain ⟨o,e⟩:=(Z.own b hb).2
      exact ⟨o,heldA b (.tail _ hb) o e⟩
end
end Mine
end
section
namespace Mine
open PySem PyProof.Rows
noncomputable def A7Q (C:Cx) (fi:Fi) (φ:Nat→Addr) (X:List (Addr×Obj)) (hp:List (Nat×O)) (b:Addr):Prop:=C.h₀.get? b=none∧(∀i∈A0c hp,φ i≠b)∧b∉fi.ads X
noncomputable def A7R (C:Cx) (fi:Fi) (A:Around) (X:List (Addr×Obj)) (σ σ':St) (f:Fl) (l:List V) (i:Nat) (target:PySem.Expr) (body:List PySem.Stmt):Prop:=
 ∀φ s R e it a (ws:List Value) kk old,Inv C fi φ X σ s→(a,A0k ws kk)∈X→IsEnum s.heap e it (i:Nat) old→s.heap.IsListIter it a i→VRs C.ρ φ σ.nx l (ws.drop i)→e≠it→A7Q C fi φ X σ.hp e→A7Q C fi φ X σ.hp it→
  A5A C fi φ X σ σ' f R→codeAny (MM C) A (.forLoop target (.ref e) body [] fi.env) R s
noncomputable def ForE (C:Cx) (r:Run) (N:Nat):Prop:=∀{σ σ':St} {f:Fl} {tg:Tg} {t:List S} {l:List V} {i:Nat} {fi:Fi} {A:Around} {X:List (Addr×Obj)} {k k':Nat} {te:PySem.Expr} {body:List PySem.Stmt},
 r (.forE tg t l i) σ=some (.f f,σ')→Room A N→TrT k fi.cx tg te→TrSS k' fi.cx t body→A7R C fi A X σ σ' f l i te body
section
variable {C:Cx} {fi:Fi} {φ φ':Nat→Addr} {X:List (Addr×Obj)} {σ σ' σ₁ σ₂ σ₃:St} {s s':Shared} {A:Around} {n:Nat} {r:Run} {N:Nat} {v:V} {vs:List V}
set_option tactic.hygienic true in
theorem B3d (O:OkC C) (h:Snd2 C r N) (hf:ForE C r N) {FT:List Fn} {f:Fl} {tg:Tg} {t:List S} {l:List V} {i k k':Nat} {te:PySem.Expr} {body:List PySem.Stmt}
  (hE:step FT r (.forE tg t l i) σ=some (.f f,σ')) (hR:Room A (N + 1)) (h1:TrT k fi.cx tg te) (h2:TrSS k' fi.cx t body):A7R C fi A X σ σ' f l i te body:=by
 intro φ s R e it a ws kk old Iv hX he hit hv hne hfe hft q
 have ha:s.heap.get? a=some (A0k ws kk):=Iv.xs _ hX
 have hL:s.heap.IsList a ws.toArray:=IsL.isList ha
 have hae:a≠e:=fun e1=>hfe.2.2 (e1▸Iv.xIn hX)
 have hai:a≠it:=fun e1=>hft.2.2 (e1▸Iv.xIn hX)
 refine A1L fun E=>?_
 cases l with
 | nil=>
  have e:=Prod.mk.inj (Option.some.inj (B0O hE))
  rw [←e.1,←e.2] at q
  generalize hd:ws.drop i=dd at hv
  cases hv with
  | nil=>
  have hno:ws.toArray[i]?=none:=by
   have:ws.length≤i:=List.drop_eq_nil_iff.mp hd
   simp; exact this
  refine wpAny_pyNext_enum_end hR.handled he hit hL hno fun h' hx=>?_
  refine q φ _ _ (Ext.refl _ _) (Iv.keepsBut O.H [it] (fun b hb=>?_) (fun b o hb e1=>hx b o (by simpa using hb) e1) rfl rfl rfl) .next
  rw [List.mem_singleton.mp hb]; exact hft
 | cons v l=>
    refine t_on hE fun ts et hE=>A0p hE fun σ₁ ha1 hE=>A2q hE fun f₁ σ₂ hb hE=>?_
    have hanx:=A0M ha1
    have n2:=h.nx _ _ _ _ hb
    generalize hd:ws.drop i=dd at hv
    cases hv with
    | cons hv1 hv2=>
    rename_i w ws'
    have hgi:ws[i]?=some w:=by
     have:(ws.drop i)[0]?=some w:=by rw [hd]; rfl
     rw [List.getElem?_drop] at this; exact this
    have hd':ws.drop (i + 1)=ws':=by
     have:(ws.drop i).drop 1=ws':=by rw [hd]; rfl
     rw [List.drop_drop] at this; exact this
    have hgi':ws.toArray[i]?=some w:=by simpa using hgi
    refine wpAny_pyNext_enum_item he hit hL hgi' hne fun h1' heo hit1 ht1 hz1 hk1=>?_
    have tup:=B8q (et▸h1)
    refine e4a2 tup fun k0 tes d pp e4z h3=>?_
    subst e4z
    refine wpAny_letOwnedTupleGo_enum heo fun h2' he2 hs2=>?_
    have heH:e < s.heap.objs.size:=Heap.lt_size he
    have htup:h2'.IsTuple s.heap.objs.size #[.int i s.toks,w]:=⟨_,(hs2.2 _ (Nat.ne_of_gt heH)).trans ht1,rfl,_,rfl⟩
    have hpl:=A0D (env:=fi.env) h3
    refine assign_Tuple_tuple hR.handled htup ?_ ?_ fun hx hex=>?_
    ·
     rw [hpl,List.length_map,A3t h3,A0P ha1]; rfl
    ·
     rw [hpl,List.findIdx?_eq_none_iff]
     intro x hx
     refine e1a2 (List.mem_map.mp hx) fun t _ e2z=>?_
     subst e2z
     rfl
    rw [hpl,List.map_map]
    have hz2:h2'.objs.size=s.heap.objs.size + 1:=hs2.1.trans hz1
    have hex':∀b o,b < s.heap.objs.size→h2'.get? b=some o→hx.get? b=some o:=fun b o hb e1=>hex b o (by show b≠h2'.objs.size; rw [hz2]; exact Nat.ne_of_lt (Nat.lt_succ_of_lt hb)) e1
    have kk1:∀b o,b≠e→b≠it→s.heap.get? b=some o→hx.get? b=some o:=fun b o b1 b2 e1=>
     hex' b o (Heap.lt_size e1) (hs2.extBut b o b1 (hk1 b o b1 b2 e1))
    have I1:Inv C fi φ X σ { s with heap:=hx,toks:=s.toks + 1 }:=Iv.keepsBut O.H [e,it] (fun b hb=>by
     rcases List.mem_cons.mp hb with rfl | hb
     ·
      exact hfe
     ·
      rw [List.mem_singleton.mp hb]; exact hft) (fun b o hb e1=>kk1 b o (fun e2=>hb (by rw [e2]; simp)) (fun e2=>hb (by rw [e2]; simp)) e1) rfl rfl rfl
    have he3:IsEnum hx e it ((i:Int) + 1) w:=hex' e _ heH he2
    refine e1a2 hit1 fun oi hoi hoi2=>?_
    have hiH:it < s.heap.objs.size:=by obtain ⟨o,ho,_⟩:=hit; exact Heap.lt_size ho
    have hoi3:hx.get? it=some oi:=hex' it _ hiH (hs2.extBut it oi (Ne.symm hne) hoi)
    obtain ⟨Y,hY1,hY2⟩:=A4Y (s:={ s with heap:=hx,toks:=s.toks + 1 }) (fp:=[e,it]) fun b hb=>by
     rcases List.mem_cons.mp hb with rfl | hb
     ·
      exact ⟨_,he3⟩
     ·
      rw [List.mem_singleton.mp hb]; exact ⟨_,hoi3⟩
    have memY:∀b∈[e,it],∃o,(b,o)∈Y:=fun b hb=>by
     rw [←hY1] at hb
     refine e1a2 (List.mem_map.mp hb) fun p hp e2z=>?_
     subst e2z
     exact ⟨p.2,hp⟩
    have I2:Inv C fi φ (Y ++ X) σ { s with heap:=hx,toks:=s.toks + 1 }:=I1.hold fun p hp=>by
     have hm:p.1∈[e,it]:=by rw [←hY1]; exact List.mem_map_of_mem hp
     have hfr:A7Q C fi φ X σ.hp p.1:=by
      rcases List.mem_cons.mp hm with e1 | hm
      ·
       rw [e1]; exact hfe
      ·
       rw [List.mem_singleton.mp hm]; exact hft
     exact ⟨hfr.1,hY2 p hp,hfr.2.1,fun hm=>hfr.2.2 (by unfold Fi.ads; exact List.mem_append_left _ hm)⟩
    refine A4W O h3 ha1 I2 (.cons (.int _ _) (.cons hv1 .nil)) fun s₂ I4=>?_
    refine h.ss (X:=Y ++ X) hb hR.dn h2 φ s₂ E _ I4 fun φ' s₃ rf e3 I5 fr=>?_
    have e3':Ext φ φ' σ.nx:=hanx.1▸e3
    have n3:σ.nx≤σ₂.nx:=hanx.1▸n2
    have held:∀b∈[e,it],∀o,hx.get? b=some o→s₃.heap.get? b=some o:=fun b hb o e=>by
     obtain ⟨o',ho'⟩:=memY b hb
     rw [Option.some.inj (e.symm.trans (hY2 _ ho'))]
     exact I5.xs _ (List.mem_append_left _ ho')
    have free':∀b∈[e,it],A7Q C fi φ X σ.hp b→A7Q C fi φ' X σ₂.hp b:=fun b hb hfr=>by
     obtain ⟨o',ho'⟩:=memY b hb
     exact ⟨hfr.1,(I5.off b (I5.xIn (List.mem_append_left _ ho'))).2,hfr.2.2⟩
    have q:=q.step e3' n3
    exact A3v (Z:=fun rf=>R (.ok rf) s₃) hE fr (fun hE=>hf hE hR.dn h1 h2 φ' s₃ R e it a ws kk w I5.loose hX (held e (.head _) _ he3) ⟨oi,held it (.tail _ (.head _)) _ hoi3,hoi2⟩ (hd'▸hv2.ext e3' n3) hne (free' e (.head _) hfe) (free' it (.tail _ (.head _)) hft) q)
     fun e rf fr=>q φ' s₃ rf (Ext.refl _ _) (e▸I5.loose) fr
end
end Mine
end
section
namespace Mine
open PySem PyProof.Rows
section
variable {C:Cx} {fi:Fi} {φ φ':Nat→Addr} {X:List (Addr×Obj)} {σ σ' σ₁ σ₂ σ₃:St} {s s':Shared} {A:Around} {n:Nat} {r:Run} {N:Nat} {v:V} {vs:List V}
noncomputable def A7S (C:Cx) (fi:Fi) (A:Around) (X:List (Addr×Obj)) (σ σ':St) (f:Fl) (j:Nat) (target:PySem.Expr) (body:List PySem.Stmt):Prop:=
 ∀φ s R,Inv C fi φ X σ s→A5A C fi φ X σ σ' f R→codeAny (MM C) A (.forLoop target (.ref (φ j)) body [] fi.env) R s
structure Snd4 (C:Cx) (r:Run) (N:Nat):Prop extends Snd3 C r N where
 forF:∀{σ σ':St} {f:Fl} {tg:Tg} {t:List S} {j:Nat} {fi:Fi} {A:Around} {X:List (Addr×Obj)} {k k':Nat} {te:PySem.Expr} {l:List PySem.Stmt},r (.forF tg t j) σ=some (.f f,σ')→Room A N→TrT k fi.cx tg te→TrSS k' fi.cx t l→A7S C fi A X σ σ' f j te l
theorem A9g {hp hp':List (Nat×O)} {j:Nat} {c:List Nat} (h:A3K hp j=some (c,hp')):c.length≤4000:=by
 unfold A3K at h
 split at h
 ·
  split at h
  ·
   cases h; exact Nat.zero_le _
  ·
   split at h
   ·
    cases h; exact Nat.le_of_ble_eq_true rfl
   ·
    cases h; exact Nat.le_of_ble_eq_true rfl
   ·
    cases h
 ·
  cases h
theorem B3e {k:Nat} {c:Ctx} {te:PySem.Expr} {tg:Tg} (ht:TrT k c tg te) {I:Addr} {x:Str} {t:Tok} {Q:Unit→Shared→Prop} {E:Value→Shared→Prop} (q:∀u,Q u s):wpAny (MM C) A (letOwnedTupleGo te (.ref I) (.str x t)) Q E s:=A4z ht (fun _ e=>nomatch e) q
theorem B9z {j:Nat} {tg:Tg} {b:List S} {p:R×St} {q:Prop} (h:B1K r tg b j σ=some p) (H1:∀lx ow,hget σ.hp j=some (.fit lx true ow)→some (R.f .next,σ)=some p→q) (H2:∀lx ow x,hget σ.hp j=some (.fit lx false ow)→A3K σ.hp lx=some x→C0T r tg b j lx ow σ x=some p→q):q:=by
 unfold B1K at h
 cases e:hget σ.hp j with
 | none=>rw [e] at h; exact A0a h
 | some o=>
  rw [e] at h
  match o with
  | .fit lx true ow=>exact H1 lx ow e h
  | .fit lx false ow=>exact A0p h fun x hx h=>H2 lx ow x e hx h
  | .list _ | .tup _ | .tok .. | .lex .. | .frz _=>exact A0a h
theorem B3f (O:OkC C) {K:Nat} (L:A2p C K) (h:Snd4 C r N) (h5:K≤N) {FT:List Fn} {f:Fl} {tg:Tg} {t:List S} {j k k':Nat} {te:PySem.Expr} {l:List PySem.Stmt} (hE:step FT r (.forF tg t j) σ=some (.f f,σ')) (hR:Room A (N + 1)) (h1:TrT k fi.cx tg te) (h2:TrSS k' fi.cx t l):
  A7S C fi A X σ σ' f j te l:=by
 intro φ s R Iv q
 have fin:∀{τ:St},some (Mine.R.f .next,τ)=some (Mine.R.f f,σ')→A5A C fi φ X σ τ .next R:=fun hE=>by
  have e:=Prod.mk.inj (Option.some.inj (B0O hE))
  rw [e.1,e.2]; exact q
 refine A1L fun E=>B9z hE (fun lx ow hg hE=>L.ended hR.handled hg Iv fun s' I'=>fin hE φ s' _ (Ext.refl _ _) I' .next) fun lx ow x hg hc hE=>?_
 have hj:j < σ.nx:=Iv.low _ (A0L hg)
 match x with
 | ([],hp)=>exact L.next (hR.mono (Nat.le_succ_of_le h5)) hg hc Iv (fun hne=>absurd rfl hne) fun _ s' I'=>fin hE φ s' _ (Ext.refl _ _) I' .next
 | (c::cs,hp)=>
  refine A0p hE fun σ₁ ha hE=>A2q hE fun f₁ σ₂ hb hE=>?_
  have hanx:=(A1J ha).1
  have n2:=h.nx _ _ _ _ hb
  refine L.next (hR.mono (Nat.le_succ_of_le h5)) hg hc Iv (fun _ s1 tk I1=>B3e h1 fun _=>B0f O hR.handled h1 ha I1 (.str (c::cs) tk (A9g hc)) fun s₂ I3=>h.ss hb hR.dn h2 φ s₂ E _ I3 fun φ' s₃ rf e3 I4 fr=>?_) fun e=>nomatch e
  rw [hanx] at e3 n2
  have q:=q.step e3 n2
  refine A3v (Z:=fun rf=>R (.ok rf) s₃) hE fr (fun hE=>?_) fun e rf fr=>q φ' s₃ rf (Ext.refl _ _) (e▸I4) fr
  rw [←e3 j hj]
  exact h.forF hE hR.dn h1 h2 φ' s₃ R I4 q
theorem Inv.growGen (H:C.Ok) (I:Inv C fi φ X σ s) (hk:∀b o,s.heap.get? b=some o→s'.heap.get? b=some o) {gs:GenState} (hg:s'.gens=s.gens.push gs) (hb:gs.bare=true) (hd:s'.drawn=s.drawn) (ho:s'.os=s.os):Inv C fi φ X σ s':=by
 have I1:Inv C fi φ X σ { s with gens:=s'.gens }:={ I with
  gens:=by
   refine e1a2 I.gens fun m e h=>?_
   refine ⟨m.push gs,by show s'.gens=_; rw [hg,e,Array.append_push],fun y hy=>?_⟩
   rcases Array.mem_push.mp hy with hy | rfl
   ·
    exact h y hy
   ·
    exact hb }
 exact I1.keeps H hk rfl hd ho
theorem B5C (O:OkC C) (h:Snd4 C r N) (hf:ForG C r N) (hGn:∀{tg:Tg} {t:List S} {l:List (Nat×List Nat)} {σ:St} {x:R×St},r (.forG tg t l) σ=some x→B2Z C) {f:Fl} {tg:Tg} {es:List Mine.E} {b:List S} {k k':Nat} {te it:PySem.Expr} {body:List PySem.Stmt} {p:Pos}
  (hE:evS r (.for_ tg .gen es b) σ=some (.f f,σ')) (hR:Room A N) (h1:TrT k fi.cx tg te) (h2:TrI (TrE k fi.cx) fi.cx .gen es it) (h3:TrSS k' fi.cx b body):A1b C fi A X σ σ' f (.For te it body [] p):=fun φ s E Q Iv q=>by
 have hfo:=fun x=>A1t (env:=fi.env) h2 x
 refine e3a3 h2 fun p1 args pos e3z hgl hargs=>?_
 subst e3z
 refine A4m hE fun vs σ₁ ha hE=>A9P hE fun v ev hE=>?_
 have n1:=h.nx _ _ _ _ ha
 subst ev
 have hE:(v.s fun s=>gd (s.all fun c=>Nat.blt c symB) (r (.forG tg b (escA false 0 s)) σ₁))=some (.f f,σ'):=hE
 have Gn:B2Z C:=s_on hE fun t _ h=>A1D h fun _ h=>hGn h
 refine wpAny_For (Call_ ?_) hfo
 rw [A0W hargs]
 refine A1T Iv O hgl Gn.glob (A7y Gn.fn (h.es (X:=X) ha hR hargs) Iv fun φ1 s1 rvs e1 I1 v1=>?_)
 cases v1 with
 | cons v1 v2=>
 cases v2
 apply s_ok (p:=fun rv=>wpAny (MM C) A (call (.ref 70) ([] ++ [rv])) (fun x s1=>wpAny (MM C) A (pyIter x) (fun it s2=>codeAny (MM C) A (.forLoop te it body [] fi.env) (fun r s3=>match r with | .ok f=>Q f s3 | .error e=>cameBackBy (MM C) A fi.env E e s3) s2) E s1) E s1) v1 hE; intro t tk hlen hE
 refine A1D hE fun hsm hE=>?_
 have hsmall:∀c∈t,c < symB:=fun c hc=>Nat.blt_eq.mp (List.all_eq_true.mp hsm c hc)
 refine Gn.make I1.keep (A0v hR) fun a s2 gs ha0 hgen hk hgs hbare hd hos hon=>wpAny_pyIter_gen hgen ?_
 have I2:Inv C fi φ1 X σ₁ s2:=I1.growGen O.H hk hgs hbare hd hos
 have fresh:=A0J I1 ha0
 have e:esc false 0 0 (A0b C.ρ t).cps.toList=(escA false 0 t).map A5f:=by
  rw [←B5B t false 0 0 fun h=>nomatch h]
  unfold A0b
  rw [A2H C.ρ hsmall]
 have on:=hon (PrOf C fi φ1 X σ₁.hp a) A (fun b hb=>by
  rcases hb with ⟨o,h⟩ | h | ⟨i,hi,rfl⟩ | h
  ·
   exact .inr ⟨o,I1.keep _ _ h⟩
  ·
   exact .inr (I1.adLive h)
  ·
   exact .inr (I1.live i hi).2
  ·
   exact .inl h) hR.handled
 rw [e] at on
 refine hf hE hR h1 h3 φ1 s2 _ a s1.gens.size _ I2 ?_ hgen (fun b=>Iff.rfl) ⟨fresh.1,fresh.2.1,fun hm=>fresh.2.2 (by unfold Fi.ads; exact List.mem_append_left _ hm)⟩ on (A6c t false 0 hsmall) fun φ2 s3 rf e2 I3 fr=>q φ2 s3 rf (e1.trans e2 n1) I3 fr
 refine e1a2 I1.gens fun m em _=>?_
 rw [em,Array.size_append]; exact Nat.le_add_right _ _
theorem B3g (O:OkC C) (h:Snd4 C r N) (hf:ForE C r N) {f:Fl} {tg:Tg} {es:List Mine.E} {b:List S} {k k':Nat} {te it:PySem.Expr} {body:List PySem.Stmt} {p:Pos}
  (hE:evS r (.for_ tg .enum es b) σ=some (.f f,σ')) (hR:Room A N) (h1:TrT k fi.cx tg te) (h2:TrI (TrE k fi.cx) fi.cx .enum es it) (h3:TrSS k' fi.cx b body):A1b C fi A X σ σ' f (.For te it body [] p):=fun φ s E Q Iv q=>by
 have hfo:=fun x=>A1t (env:=fi.env) h2 x
 refine e3a3 h2 fun p1 args pos e3z hgl hargs=>?_
 subst e3z
 refine A4m hE fun vs σ₁ ha hE1=>A9P hE1 fun v ev hE2=>r_on hE2 fun j ej hE3=>A3j hE3 fun xs hg hE4=>?_
 have n1:=h.nx _ _ _ _ ha
 subst ev ej
 rcases A5R hE4 with ⟨o,x,σe,hg',hK,e0⟩ | ⟨hg',_⟩
 ·
  have ex:=Option.some.inj (hg'.symm.trans hg)
  subst ex
  obtain ⟨rfl,rfl⟩:=Prod.mk.inj e0
  refine wpAny_For (Call_ ?_) hfo
  rw [A0W hargs]
  refine A3s Iv O hgl (O.H.free _ rfl) ((O.H.boot _ (by decide)).trans A7z) (B9l (h.es (X:=X) ha hR hargs) Iv fun φ1 s1 rvs e1 I1 v1=>?_)
  cases v1 with
  | cons v1 v2=>
  cases v2
  cases v1 with
  | ref _ hj=>
  refine e2a3 (I1.get hg) fun ws kk g1 r1 l1=>?_
  refine call_enumerate_list (IsL.isList g1) fun h' he hit hz hk=>wpAny_pyIter_enum he ?_
  refine e0a5 (I1.freezeL hg g1) fun I2 f1 f2 f3 f4=>?_
  have I3:Inv C fi φ1 ((φ1 j,A0k ws kk)::X) { σ₁ with hp:=A0H σ₁.hp j } { s1 with heap:=h' }:=I2.keeps O.H hk rfl rfl rfl
  have free1:s1.heap.get? (s1.heap.objs.size + 1)=none:=by
   cases q:s1.heap.get? (s1.heap.objs.size + 1) with
   | none=>rfl
   | some o=>exact absurd (Nat.lt_of_succ_lt (Heap.lt_size q)) (Nat.lt_irrefl _)
  have nE:=h.nx _ _ _ _ hK
  exact hf hK hR h1 h3 φ1 { s1 with heap:=h' } _ (s1.heap.objs.size + 1) s1.heap.objs.size (φ1 j) ws kk .none I3 (.head _) he hit (by simpa using r1) (Nat.succ_ne_self _) (A0J I2 free1) (A0J I2 (A0e _)) fun φ2 s3 rf e2 I4 fr=>
   q φ2 s3 rf (e1.trans e2 n1) (I4.thaw O.H (Nat.lt_of_lt_of_le hj nE) (e2 j hj) f1 (r1.ext e2 nE) l1) fr
 ·
  exact A0a (hg'.symm.trans hg)
theorem C2n {hp:List (Nat×O)} {j:Nat} {k:Option (R×St)} {p:R×St} {q:Prop} (h:B0G hp j k=some p) (H:∀lx d ow,hget hp j=some (.fit lx d ow)→k=some p→q):q:=by
 unfold B0G at h
 cases e:hget hp j with
 | none=>rw [e] at h; exact A0a h
 | some o=>
  rw [e] at h
  cases o with
  | fit lx d ow=>exact H lx d ow e h
  | list _ | tup _ | tok | lex | frz _=>exact A0a h
theorem B9A (O:OkC C) {K:Nat} (L:A2p C K) (h:Snd4 C r N) (hf:ForG C r N) (he:ForE C r N) (hGn:∀{tg:Tg} {t:List S} {l:List (Nat×List Nat)} {σ:St} {x:R×St},r (.forG tg t l) σ=some x→B2Z C):B8m C r N:=by
 intro σ σ' f tg kd es b fi A X k k' te it body p hk hE hR h1 h2 h3 φ s E Q Iv q
 rcases hk with rfl | rfl | rfl
 rotate_left
 ·
  exact B5C O h hf hGn hE hR h1 h2 h3 φ s E Q Iv q
 ·
  exact B3g O h he hE hR h1 h2 h3 φ s E Q Iv q
 have hfo:=fun x=>A1t (env:=fi.env) h2 x
 refine e2a3 h2 fun e pp e2z ei he=>?_
 subst e2z
 have hE:ev r e σ (fun v σ=>v.r fun j=>B0G σ.hp j (r (.forF tg b j) σ))=some (.f f,σ'):=hE
 refine A1R hE fun w σ₁ ha hE=>wpAny_For ((h.e ha hR he).then Iv fun φ1 s1 r1 e1 I1 v1=>?_) hfo
 apply r_ok v1 hE; intro j hj hE
 exact C2n hE fun lx d ow hg hE=>L.selfIt hg I1 (h.forF hE hR h1 h3 φ1 s1 _ I1 fun φ2 s2 rf e2 I2 fr=>q φ2 s2 rf (e1.trans e2 (h.nx _ _ _ _ ha)) I2 fr)
structure Hyp (C:Cx) (FT:List Fn) (K:Nat):Prop where
 O:OkC C
 L:A2p C K
 F:A0X C
 N:(nth FT 11).isSome=true→B9u C K
 fn:∀f fn,nth FT f=some fn→fn.params < 50→FnIs C f fn
theorem C2o (FT:List Fn) (n:Nat):Ld (run FT n):=by
 intro e σ σ' v h he
 cases n with
 | zero=>exact A0a h
 | succ n=>exact ⟨run FT n,h⟩
structure SndU (C:Cx) (r:Run) (N:Nat):Prop extends Snd4 C r N where
 use:A6H C r N
 forG:ForG C r N
 forE:ForE C r N
structure HypG (C:Cx) (FT:List Fn) (K:Nat):Prop extends Hyp C FT K where
 G:A4J FT=true→B2Z C∧∀G,Hyp (C.withGens G) FT K
theorem HypG.again {C:Cx} {FT:List Fn} {K:Nat} (H:HypG C FT K) (h:A4J FT=true) (G:Array GenState):HypG (C.withGens G) FT K where
 toHyp:=(H.G h).2 G
 G:=fun h=>⟨⟨(H.G h).1.glob,(H.G h).1.fn,(H.G h).1.make⟩,(H.G h).2⟩
theorem B9B {FT:List Fn} {n:Nat} {tg:Tg} {t:List S} {l:List (Nat×List Nat)} {σ:St} {x:R×St} (h:run FT n (.forG tg t l) σ=some x):A4J FT=true:=by
 cases n with
 | zero=>exact A0a h
 | succ n=>
  have h:gd (A4J FT) _=some x:=h
  exact A1D h fun h _=>h
theorem bigG {FT:List Fn} {K:Nat}:∀n,∀{C:Cx},HypG C FT K→SndU C (run FT n) (n + K)
 | 0,C,H=>{
  nx:=B0b FT 0
  e:=fun h=>nomatch h
  es:=fun h=>nomatch h
  t:=fun h=>nomatch h
  ts:=fun h=>nomatch h
  bs:=fun h=>nomatch h
  app:=fun h=>nomatch h
  s:=fun h=>nomatch h
  ss:=fun h=>nomatch h
  whl:=fun h=>nomatch h
  for_:=fun h=>nomatch h
  tests:=fun h=>nomatch h
  turns:=fun h=>nomatch h
  comp:=fun h=>nomatch h
  forF:=fun h=>nomatch h
  use:=fun h=>nomatch h
  forG:=fun h=>nomatch h
  forE:=fun h=>nomatch h }
 | n + 1,C,H=>by
  have ih:=bigG n H
  have h4:=ih.toSnd4
  have h3:=h4.toSnd3
  have h2:=h3.toSnd2
  have h1:=h2.toSnd
  have e:n + 1 + K=n + K + 1:=by lia
  rw [e]
  exact {
   nx:=B0b FT (n + 1)
   e:=fun h hR ht=>C2b H.O H.L H.F h1 (B9w H.O h3) h hR (by lia) ht
   es:=fun h hR ht=>B9n h1 h hR ht
   t:=fun h hR ht=>C2l H.O H.L h1 h hR ht
   ts:=fun h hR ht=>B9p h1 h hR ht
   bs:=fun h hR ht=>B9o H.O h1 h hR ht
   app:=fun h hR=>B5x H.O h2 H.N H.fn (by lia) h hR
   s:=fun h hR ht=>C2i H.O h2 (C2o FT n) ih.use (B9A H.O H.L h4 ih.forG ih.forE fun h=>(H.G (B9B h)).1) h hR ht
   ss:=fun h hR ht=>B9s h2 h hR ht
   whl:=fun h hR h1 h2'=>B5l H.O h2 h hR h1 h2'
   for_:=fun h hR h1 h2'=>B5j H.O h2 h hR h1 h2'
   tests:=fun h hR ht=>B1g h3 h hR ht
   turns:=fun h hR ht=>B1h H.O h3 h hR ht
   comp:=fun h hR h1 h2' h3'=>B2S H.O h3 h hR h1 h2' h3'
   forF:=fun h hR h1 h2'=>B3f H.O H.L h4 (by lia) h hR h1 h2'
   use:=fun h hR ht Iv hnx hu q=>B5z H.O h3 h hR ht Iv hnx hu q
   forG:=fun h hR h1 h2'=>B3c H.O (B0b FT n) (fun hg G=>⟨((H.G hg).2 G).O,(bigG n (H.again hg G)).toSnd2⟩) ih.forG h hR h1 h2'
   forE:=fun h hR h1 h2'=>B3d H.O h2 ih.forE h hR h1 h2' }
theorem big {C:Cx} {FT:List Fn} {K:Nat} (H:Hyp C FT K) (hg:A4J FT=false) (n:Nat):SndU C (run FT n) (n + K):=bigG n { H with G:=fun h=>nomatch (hg.symm.trans h) }
end
end Mine
end
section
namespace Mine
open PySem PySem.W PyProof.Rows
noncomputable section
noncomputable def hqL (i:Nat):PySem.Stmt:=(PySem.Challenge.pw_uc0018_01.main.body[i]?).getD (.Pass default)
noncomputable def hqC (st:PySem.Stmt) (i:Nat):PySem.Stmt:=match st with
 | .ClassDef _ _ _ b _ _ _ _ _ _ _=>(b[i]?).getD (.Pass default)
 | _=>.Pass default
noncomputable def fO (st:PySem.Stmt) (q m:Str) (mt c:Nat):Obj:=match st with
 | .FunctionDef n ps b _ _ _ sc _ _ _=>⟨.type "function",none,.func ⟨n,q,ps,.stmts b,sc,3,[],.none,.none,.none,.str m mt,none,.ref c,.none,0⟩,#[]⟩
 | _=>⟨.none,none,.plain,#[]⟩
noncomputable def cO (n q:Str) (t:Nat) (l k fl:Int) (a:Nat) (v:Bool) (u:Nat):Obj:=
 ⟨.type "code",none,.fields #[.str n t,.str q (t + 1),.str "/claim/cut.py" (t + 2),.int l 0,.int k 0,.int 0 0,.int 0 0,.int fl 0,.ref a,.bool true,.int 181 0,.ref (a + 1),.none,bif v then .ref (a + 2) else .none,bif v then .ref (a + 3) else .none,
  .ref (bif v then a + 4 else a + 2),.int u 0,.int l 0,.str "/claim/cut.py" (u + 1)],#[]⟩
noncomputable def tO (l:List Value):Obj:=⟨.type "tuple",none,.seq l.toArray 0,#[]⟩
noncomputable def dE (P:Params) (x:Str) (t:Nat) (v:Value):DictEntry:=⟨PyData.keyHash P x,.str x t,v⟩
noncomputable def KH (P:Params):Frag:=[
 (nat_lit 2,⟨.none,none,.dict #[] 0,#[]⟩),
 (nat_lit 3,⟨.type "dict",none,.dict #[dE P "__name__" 165 (.str "law_uc0018_01" 333),dE P "__doc__" 166 .none,dE P "__package__" 167 .none,dE P "__loader__" 168 (.builtin "__main__.__loader__#opaque"),dE P "__spec__" 169 .none,dE P "__annotations__" 170 (.ref 6),dE P "__builtins__" 171 (.ref 4),dE P "__file__" 173 (.str "/claim/cut.py" 172),dE P "__cached__" 174 .none,dE P "_netrclex" 246 (.ref 52),dE P "ELLIPSIS_MARKER" 250 (.str "..." 249),dE P "_ellipsis_match" 262 (.ref 63),dE P "_iter_escaped_chars" 274 (.ref 70),dE P "_strip_quoted_realnames" 286 (.ref 77),dE P "_check_parenthesis" 296 (.ref 84),dE P "_MAX_STRING_SIZE" 300 (.int 40 299),dE P "_MOVE_COST" 302 (.int 2 301),dE P "_CASE_COST" 304 (.int 1 303),dE P "_substitution_cost" 312 (.ref 91),dE P "_levenshtein_distance" 332 (.ref 98),dE P "_law_lexer" 344 (.ref 105),dE P "_law_numbers" 350 (.ref 110),dE P "_law_row" 362 (.ref 117),dE P "_law_names" 373 (.ref 124),dE P "_law_file" 384 (.ref 131),dE P "_law_pieces" 390 (.ref 136),dE P "_law_word" 403 (.ref 143),dE P "law" 409 (.ref 148)] 28,#[]⟩),
 (nat_lit 22,tO []),
 (nat_lit 24,tO [.str "self" 204,.str "fp" 205]),
 (nat_lit 25,tO []),
 (nat_lit 27,cO "__init__" "_netrclex.__init__" 201 4 2 3 22 true 206),
 (nat_lit 28,fO (hqC (hqL 1) 0) "_netrclex.__init__" "cpy313.netrc" 187 27),
 (nat_lit 29,tO []),
 (nat_lit 31,tO [.str "self" 212,.str "ch" 213]),
 (nat_lit 32,tO []),
 (nat_lit 34,cO "_read_char" "_netrclex._read_char" 209 10 1 3 29 true 214),
 (nat_lit 35,fO (hqC (hqL 1) 1) "_netrclex._read_char" "cpy313.netrc" 187 34),
 (nat_lit 36,tO []),
 (nat_lit 38,tO [.str "self" 220,.str "token" 221,.str "fiter" 222,.str "ch" 223]),
 (nat_lit 39,tO []),
 (nat_lit 41,cO "get_token" "_netrclex.get_token" 217 16 1 3 36 true 224),
 (nat_lit 42,fO (hqC (hqL 1) 2) "_netrclex.get_token" "cpy313.netrc" 187 41),
 (nat_lit 43,tO []),
 (nat_lit 45,tO [.str "self" 230,.str "token" 231]),
 (nat_lit 46,tO []),
 (nat_lit 48,cO "push_token" "_netrclex.push_token" 227 43 2 3 43 true 232),
 (nat_lit 49,fO (hqC (hqL 1) 3) "_netrclex.push_token" "cpy313.netrc" 187 48),
 (nat_lit 50,tO [.str "instream" 235,.str "lineno" 236,.str "pushback" 237,.str "whitespace" 238]),
 (nat_lit 51,⟨.type "dict",none,.dict #[dE P "__module__" 196 (.str "cpy313.netrc" 187),dE P "__firstlineno__" 200 (.int 2 199),dE P "__init__" 208 (.ref 28),dE P "_read_char" 216 (.ref 35),dE P "get_token" 226 (.ref 42),dE P "push_token" 234 (.ref 49),dE P "__static_attributes__" 239 (.ref 50),dE P "__dict__" 241 (.ref 53),dE P "__weakref__" 243 (.ref 54),dE P "__doc__" 244 .none] 4,#[]⟩),
 (nat_lit 52,⟨.type "type",none,.cls ⟨"_netrclex",[.type "object"],[.ref 52,.type "object"],51, "_netrclex",true,[],[],false,none,false⟩,#[none,none,some (.str "_netrclex" 189),some (.str "_netrclex" 197),some (.builtin "object.__new__"),some (.bool true)]⟩),
 (nat_lit 53,⟨.type "getset_descriptor",none,.fields #[.str "__dict__" 240 ,.ref 52 ,.builtin "function.__dict__" ,.builtin "function.__dict__#set" ],#[]⟩),
 (nat_lit 54,⟨.type "getset_descriptor",none,.fields #[.str "__weakref__" 242 ,.ref 52 ,.builtin "ExceptionGroup.__weakref__" ,.none ],#[]⟩),
 (nat_lit 57,tO []),
 (nat_lit 59,tO [.str "want" 254,.str "got" 255,.str "ws" 256,.str "startpos" 257,.str "endpos" 258,.str "w" 259]),
 (nat_lit 60,tO []),
 (nat_lit 62,cO "_ellipsis_match" "_ellipsis_match" 251 47 2 3 57 true 260),
 (nat_lit 63,fO (hqL 4) "_ellipsis_match" "cpy313.doctest" 247 62),
 (nat_lit 64,tO []),
 (nat_lit 66,tO [.str "addr" 268,.str "pos" 269,.str "escape" 270,.str "ch" 271]),
 (nat_lit 67,tO []),
 (nat_lit 69,cO "_iter_escaped_chars" "_iter_escaped_chars" 265 76 1 35 64 true 272),
 (nat_lit 70,fO (hqL 6) "_iter_escaped_chars" "cpy313.email.utils" 263 69),
 (nat_lit 71,tO []),
 (nat_lit 73,tO [.str "addr" 278,.str "start" 279,.str "open_pos" 280,.str "result" 281,.str "pos" 282,.str "ch" 283]),
 (nat_lit 74,tO []),
 (nat_lit 76,cO "_strip_quoted_realnames" "_strip_quoted_realnames" 275 89 1 3 71 true 284),
 (nat_lit 77,fO (hqL 7) "_strip_quoted_realnames" "cpy313.email.utils" 263 76),
 (nat_lit 78,tO []),
 (nat_lit 80,tO [.str "addr" 290,.str "opens" 291,.str "pos" 292,.str "ch" 293]),
 (nat_lit 81,tO []),
 (nat_lit 83,cO "_check_parenthesis" "_check_parenthesis" 287 107 1 3 78 true 294),
 (nat_lit 84,fO (hqL 8) "_check_parenthesis" "cpy313.email.utils" 263 83),
 (nat_lit 85,tO []),
 (nat_lit 87,tO [.str "ch_a" 308,.str "ch_b" 309]),
 (nat_lit 88,tO []),
 (nat_lit 90,cO "_substitution_cost" "_substitution_cost" 305 122 2 3 85 true 310),
 (nat_lit 91,fO (hqL 13) "_substitution_cost" "cpy313.traceback" 297 90),
 (nat_lit 92,tO []),
 (nat_lit 94,tO [.str "a" 316,.str "b" 317,.str "max_cost" 318,.str "pre" 319,.str "post" 320,.str "row" 321,.str "result" 322,.str "bindex" 323,.str "bchar" 324,.str "distance" 325,.str "minimum" 326,.str "index" 327,.str "substitute" 328,.str "insert_delete" 329]),
 (nat_lit 95,tO []),
 (nat_lit 97,cO "_levenshtein_distance" "_levenshtein_distance" 313 128 3 3 92 true 330),
 (nat_lit 98,fO (hqL 14) "_levenshtein_distance" "cpy313.traceback" 297 97),
 (nat_lit 99,tO []),
 (nat_lit 101,tO [.str "text" 338,.str "read" 339,.str "stream" 340]),
 (nat_lit 102,tO [.str "left" 341]),
 (nat_lit 104,cO "_law_lexer" "_law_lexer" 335 167 1 3 99 true 342),
 (nat_lit 105,fO (hqL 16) "_law_lexer" "law_uc0018_01" 333 104),
 (nat_lit 106,tO []),
 (nat_lit 109,cO "_law_numbers" "_law_numbers" 345 177 1 3 106 false 348),
 (nat_lit 110,fO (hqL 17) "_law_numbers" "law_uc0018_01" 333 109),
 (nat_lit 111,tO []),
 (nat_lit 113,tO [.str "number" 354,.str "size" 355,.str "row" 356,.str "high" 357,.str "k" 358,.str "opens" 359]),
 (nat_lit 114,tO []),
 (nat_lit 116,cO "_law_row" "_law_row" 351 180 2 3 111 true 360),
 (nat_lit 117,fO (hqL 18) "_law_row" "law_uc0018_01" 333 116),
 (nat_lit 118,tO []),
 (nat_lit 120,tO [.str "numbers" 366,.str "size" 367,.str "letter" 368,.str "signs" 369,.str "turn" 370]),
 (nat_lit 121,tO []),
 (nat_lit 123,cO "_law_names" "_law_names" 363 188 2 3 118 true 371),
 (nat_lit 124,fO (hqL 19) "_law_names" "law_uc0018_01" 333 123),
 (nat_lit 125,tO []),
 (nat_lit 127,tO [.str "names" 377,.str "number" 378,.str "text" 379,.str "k" 380,.str "name" 381]),
 (nat_lit 128,tO []),
 (nat_lit 130,cO "_law_file" "_law_file" 374 193 2 3 125 true 382),
 (nat_lit 131,fO (hqL 20) "_law_file" "law_uc0018_01" 333 130),
 (nat_lit 132,tO []),
 (nat_lit 135,cO "_law_pieces" "_law_pieces" 385 198 2 3 132 false 388),
 (nat_lit 136,fO (hqL 21) "_law_pieces" "law_uc0018_01" 333 135),
 (nat_lit 137,tO []),
 (nat_lit 139,tO [.str "row" 394,.str "names" 395,.str "order" 396,.str "word" 397,.str "came" 398,.str "gone" 399,.str "bit" 400]),
 (nat_lit 140,tO []),
 (nat_lit 142,cO "_law_word" "_law_word" 391 205 3 3 137 true 401),
 (nat_lit 143,fO (hqL 22) "_law_word" "law_uc0018_01" 333 142),
 (nat_lit 144,tO []),
 (nat_lit 147,cO "law" "law" 404 211 1 3 144 false 407),
 (nat_lit 148,fO (hqL 23) "law" "law_uc0018_01" 333 147)]
noncomputable def asH:List Addr:=[nat_lit 2,nat_lit 3,nat_lit 22,nat_lit 24,nat_lit 25,nat_lit 27,nat_lit 28,nat_lit 29,nat_lit 31,nat_lit 32,nat_lit 34,nat_lit 35,nat_lit 36,nat_lit 38,nat_lit 39,nat_lit 41,nat_lit 42,nat_lit 43,nat_lit 45,nat_lit 46,nat_lit 48,nat_lit 49,nat_lit 50,nat_lit 51,nat_lit 52,nat_lit 53,nat_lit 54,nat_lit 57,nat_lit 59,nat_lit 60,nat_lit 62,nat_lit 63,nat_lit 64,nat_lit 66,nat_lit 67,nat_lit 69,nat_lit 70,nat_lit 71,nat_lit 73,nat_lit 74,nat_lit 76,nat_lit 77,nat_lit 78,nat_lit 80,nat_lit 81,nat_lit 83,nat_lit 84,nat_lit 85,nat_lit 87,nat_lit 88,nat_lit 90,nat_lit 91,nat_lit 92,nat_lit 94,nat_lit 95,nat_lit 97,nat_lit 98,nat_lit 99,nat_lit 101,nat_lit 102,nat_lit 104,nat_lit 105,nat_lit 106,nat_lit 109,nat_lit 110,nat_lit 111,nat_lit 113,nat_lit 114,nat_lit 116,nat_lit 117,nat_lit 118,nat_lit 120,nat_lit 121,nat_lit 123,nat_lit 124,nat_lit 125,nat_lit 127,nat_lit 128,nat_lit 130,nat_lit 131,nat_lit 132,nat_lit 135,nat_lit 136,nat_lit 137,nat_lit 139,nat_lit 140,nat_lit 142,nat_lit 143,nat_lit 144,nat_lit 147,nat_lit 148]
noncomputable def A6d:List Str:=["_netrclex", "ELLIPSIS_MARKER", "_ellipsis_match", "_iter_escaped_chars", "_strip_quoted_realnames", "_check_parenthesis", "_MAX_STRING_SIZE", "_MOVE_COST", "_CASE_COST", "_substitution_cost", "_levenshtein_distance", "_law_lexer", "_law_numbers", "_law_row", "_law_names", "_law_file", "_law_pieces", "_law_word"]
noncomputable def A4v:Program:=view PySem.Challenge.pw_uc0018_01 [23]
noncomputable def A6L:Hook:=kmHook KH asH (fun _=>by kernel_rfl) [100]
theorem C4e:OpenLaw.wellSaid PySem.Challenge.rw_uc0018_01=true:=(congrFun PySem.W.Fast.te9446332074065402090 _).trans (by kernel_rfl)
noncomputable def C4f (w:World) (os:OsState):Shared:={ heap:=boot_heap w.params,gens:=#[],drawn:=boot_drawn,toks:=boot_toks,os:=os }
theorem B3h (tb:String→Option Builtin) (p:Program) (w:World) (N:Nat) (s₀:Shared) (q:Program) (loose mods:List Str) (Xt:Shared→Bool):
  (topFrom tb p w N s₀).map (fun s=>(openSeen q loose mods Xt true s,A6L.obs s))=
   (match s₀.heap.isNs mainGlobals && s₀.gens.size == 0 with
    | true=>(PySem.W.Fast.tw14082659384304107361 tb p w s₀.heap.objs.size (s₀.heap.nsMap mainGlobals "__annotations__") N s₀ (topStub p)).bind fun s₁=>match staticsOk (importedModules p.main.body) s₀.heap s₁.heap && namesBound p s₁.heap && gensDone s₁ && laidKept s₀.heap s₁.heap with
     | true=>some (PySem.W.Fast.tw4187177175401517315 q loose mods Xt true s₁,A6L.obs s₁)
     | false=>none
    | false=>none):=by
 rw [←PySem.W.Fast.te14082659384304107361,←PySem.W.Fast.te4187177175401517315]
 unfold topFrom
 cases s₀.heap.isNs mainGlobals && s₀.gens.size == 0 with
 | false=>rfl
 | true=>
  dsimp only
  rw [Option.map_bind]
  refine congrArg _ (funext fun s₁=>?_)
  dsimp only [Function.comp]
  cases staticsOk (importedModules p.main.body) s₀.heap s₁.heap && namesBound p s₁.heap && gensDone s₁ && laidKept s₀.heap s₁.heap <;> rfl
noncomputable abbrev rowH:OpenRow:=PySem.Challenge.rw_uc0018_01.row
theorem runH (w:World) (os:OsState):(topFrom treeTable rowH.prog w 1832 (C4f w os)).map (fun s=>(openSeen A4v A6d (importedModules rowH.prog.main.body) (fun s=>recOk rowH.toRowW.records s) true s,A6L.obs s))=some (openGood A4v A6d,A6L.val w):=by
 rw [B3h]
 kernel_rfl
end
end Mine
end
section
namespace Mine
open PySem PySem.W PyProof.Rows
theorem C4g:LeftO rowH.prog A4v A6d (fun s=>recOk rowH.toRowW.records s) A6L.obs A6L.val 1832:=fun w=>by
 have h:=boot_open (p:=rowH.prog) (N:=1832) (by kernel_rfl) (by kernel_rfl) (fun s=>by kernel_rfl) w
 obtain ⟨s,h1,h2⟩:=Option.map_eq_some_iff.mp h
 unfold openEnds
 rw [h1]
 obtain ⟨hp,gs,dr,tk,os⟩:=s
 cases h2
 exact runH w os
theorem headH (walk:∀d kwd,defOf A4v rowH.name=some (d,kwd)→WalkO A4v A6d (fun _ _=>True) A6L.says rowH.toRowW d kwd fun f vs=>PySem.call f vs):PySem.Challenge.rw_uc0018_01.Holds:=by
 refine holds_law C4e fun said=>?_
 have hs:(defOf A4v rowH.name).isSome=true:=by kernel_rfl
 obtain ⟨⟨d,kwd⟩,hd⟩:=Option.isSome_iff_exists.mp hs
 have hp:rowH.prog.theDef rowH.name=some (d.params,d.body,d.scope)∧kwWritten? d.params.kwonlyargs d.params.kw_defaults=some kwd:=by
  have h2:(defOf A4v rowH.name).bind (fun x=>some (x.1.params,x.1.body,x.1.scope))=rowH.prog.theDef rowH.name∧(defOf A4v rowH.name).bind (fun x=>kwWritten? x.1.params.kwonlyargs x.1.params.kw_defaults)=(defOf A4v rowH.name).map (·.2):=⟨by kernel_rfl,by kernel_rfl⟩
  rw [hd] at h2
  exact ⟨h2.1.symm,h2.2⟩
 exact holds_open (q:=A4v) (loose:=A6d) (XP:=fun _ _=>True) (N:=1832) C4g A6L.of A6L.keeps (fun _ _=>trivial) (fun _ _ _ _ _=>trivial) hd hp.1 hp.2 (fun s e=>recFacts_of e) rfl said (by kernel_rfl) ⟨rfl,rfl,rfl,rfl,rfl,by kernel_rfl⟩ ⟨[.list []],by decide +kernel,by decide +kernel⟩ (walk d kwd hd)
end Mine
end
section
namespace Mine
open PySem PySem.W PyProof.Rows
@[elab_as_elim] theorem l1 {p:List Value→Prop} (l:List Value) (h:l.length=1) (H:∀a,p [a]):p l:=by
 cases l with
 | nil=>exact nomatch h
 | cons a l=>cases l with
  | nil=>exact H a
  | cons=>exact nomatch h
@[elab_as_elim] theorem l2 {p:List Value→Prop} (l:List Value) (h:l.length=2) (H:∀a b,p [a,b]):p l:=by
 cases l with
 | nil=>exact nomatch h
 | cons a l=>exact l1 (p:=fun l=>p (a::l)) l (Nat.succ.inj h) (H a)
@[elab_as_elim] theorem l3 {p:List Value→Prop} (l:List Value) (h:l.length=3) (H:∀a b c,p [a,b,c]):p l:=by
 cases l with
 | nil=>exact nomatch h
 | cons a l=>exact l2 (p:=fun l=>p (a::l)) l (Nat.succ.inj h) (H a)
theorem A1A {p:Nat→Fn→Prop} {x:Fn} {r:List Fn} (h:p 0 x) (t:∀f fn,nth r f=some fn→p (f + 1) fn):∀f fn,nth (x::r) f=some fn→p f fn:=fun f fn e=>by
 cases f with
 | zero=>exact Option.some.inj e▸h
 | succ f=>exact t f fn e
theorem C2p {p:Nat→Fn→Prop}:∀f fn,nth ([]:List Fn) f=some fn→p f fn:=fun _ _ e=>A0a e
theorem A6e {n:Nat} {c:Ctx} {t:S} {s:PySem.Stmt} (h:mkS n t s=s) (k:okS n c t s=true):TrS n c t s:=h▸B1V t s h k
theorem C2q {n:Nat} {c:Ctx} {t:Tg} {s:PySem.Expr} (h:mkT n t s=s) (k:okT n c t s=true):TrT n c t s:=h▸A3f t s h k
theorem A6f {n:Nat} {c:Ctx} {t:List Mine.E} {s:List PySem.Expr} (h:mkL (mkE n) t s=s) (k:okA (mkE n) (okE n c) t s=true):TrL (TrE n c) t s:=h▸A4l A1l h k
theorem B3i {n:Nat} {c:Ctx} {t:List Tg} {s:List PySem.Expr} (h:mkL (mkT n) t s=s) (k:okL (okT n c) t s=true):All2 (TrT n c) t s:=h▸A1i A3f t s h k
noncomputable def fnD (d:Data):Option FuncData:=match d with | .func fd=>some fd | _=>none
noncomputable def fdOf (K:Frag) (a:Addr):Option FuncData:=(K.lookup a).bind fun o=>fnD o.data
@[irreducible] noncomputable def fdAt (K:Frag) (a:Addr):FuncData:=(fdOf K a).getD default
theorem C2r {d:Data} {fd:FuncData} (h:fnD d=some fd):d=.func fd:=by
 cases d with
 | func=>exact congrArg Data.func (Option.some.inj h)
 | _=>exact A0a h
theorem A3y {K:Frag} {a:Addr} {fd:FuncData} (h:fdOf K a=some fd):∃o,K.lookup a=some o∧o.data=.func fd:=by
 refine e1a2 (Option.bind_eq_some_iff.mp h) fun o h1 h2=>?_
 exact ⟨o,h1,C2r h2⟩
noncomputable def B1j (K:Frag) (a:Addr) (ps:List Str):Bool:=match fdOf K a with
 | some fd=>codeIn K fd.code fd.qualname && (match fd.body with | .stmts _=>true | _=>false) && !fd.scope.isCoroutine && !fd.scope.isGenerator && fd.scope.kind == .function && (fd.scope.names.all fun x=>x.2 != .cell && x.2 != .free && x.1 != ("__debug__" : Str)) &&
  (ps.all fun x=>fd.scope.names.lookup x == some .local) && fd.globals == mainGlobals && fd.builtins == builtinsNs
 | none=>false
theorem B0m:∀{l:List (Str×NameKind)},(∀x∈l,x.2≠.cell∧x.2≠.free)→A4M l=[]
 | [],_=>rfl
 | (x,k)::l,h=>by
  have h0:=h (x,k) (.head _)
  have ih:=B0m (l:=l) fun y hy=>h y (.tail _ hy)
  unfold A4M at ih ⊢
  cases k <;> first
   | exact absurd rfl h0.1
   | exact absurd rfl h0.2
   | (rw [List.filterMap_cons]; exact ih)
noncomputable def C2s (c:Ctx) (ps:List Str):Bool:=decide ps.Nodup && ps.zipIdx.all fun p=>at? c.locs p.1 == some p.2
theorem A2B {h:Heap} {K:Frag} (X:K.In h) {a:Addr} {ps:List Str} (hc:B1j K a ps=true):A9a h a (fdAt K a) ps:=by
 unfold B1j at hc
 cases hf:fdOf K a with
 | none=>rw [hf] at hc; cases hc
 | some fd=>
 rw [hf] at hc
 have e:fdAt K a=fd:=by unfold fdAt; rw [hf]; rfl
 rw [e]
 refine e1a2 (A3y hf) fun o hl hd=>?_
 simp only [Bool.and_eq_true] at hc
 obtain ⟨⟨⟨⟨⟨⟨⟨⟨c1,c2⟩,c3⟩,c4⟩,c5⟩,c6⟩,c8⟩,c10⟩,c11⟩:=hc
 have names:∀x∈fd.scope.names,x.2≠.cell∧x.2≠.free∧(x.1 == ("__debug__" : Str))=false:=fun x hx=>by
  have:=List.all_eq_true.mp c6 x hx
  simp only [Bool.and_eq_true] at this
  exact ⟨bne_iff_ne.mp this.1.1,bne_iff_ne.mp this.1.2,by have h3:=bne_iff_ne.mp this.2; exact beq_eq_false_iff_ne.mpr h3⟩
 have hcels:(A0i fd.scope).cels=[]:=B0m fun x hx=>⟨(names x hx).1,(names x hx).2.1⟩
 exact {
  obj:=⟨o,X a o hl,hd⟩
  code:=codeRec_of X c1
  body:=by
   unfold A0Y
   cases hbb:fd.body with
   | stmts b=>rfl
   | expr x=>rw [hbb] at c2; cases c2
  co:=by simpa using c3
  gen:=by simpa using c4
  kind:=beq_iff_eq.mp c5
  cell:=fun x hx=>(names x hx).1
  loc:=fun x hx=>beq_iff_eq.mp (List.all_eq_true.mp c8 x hx)
  env:=fun L=>{
   kind:=beq_iff_eq.mp c5
   globals:=beq_iff_eq.mp c10
   builtins:=beq_iff_eq.mp c11
   loc:=fun x h=>h
   glob:=fun x h=>h
   celk:=fun x h=>h
   frek:=fun x h=>.inr h
   cell:=fun x q _ h2=>by
    have h2:at? (A0i fd.scope).cels x=some q:=h2
    rw [hcels] at h2; cases h2
   nclass:=fun x q h2=>by
    have h2:at? (A0i fd.scope).cels x=some q:=h2
    rw [hcels] at h2; cases h2
   ndebug:=fun x h=>by
    have h:(fd.scope.names.lookup x).isSome=true:=h
    obtain ⟨q,hq⟩:=Option.isSome_iff_exists.mp h
    exact (names (x,q) (A0O hq)).2.2 } }
theorem A1j {C:Cx} {K:Frag} (X:K.In C.h₀) {f:Nat} {a:Addr} (hfv:C.fv f=a) {ps:List Str} {fn:Fn} {k:Nat} (hc:B1j K a ps=true) (hc2:C2s (A0i (fdAt K a).scope) ps=true) (hn:ps.length=fn.params) (hm:mkL (mkS k) fn.body (A0Y (fdAt K a))=A0Y (fdAt K a)) (hk:okL (okS k (A0i (fdAt K a).scope)) fn.body (A0Y (fdAt K a))=true)
  (hb:∀(rvs:List Value),rvs.length=fn.params→bindArgs (fdAt K a) ⟨rvs,[]⟩=pure (ps.zip rvs)):FnIs C f fn:=
 have h:=Bool.and_eq_true_iff.mp hc2
 ⟨fdAt K a,ps,k,by rw [hfv]; exact A2B X hc,hn,of_decide_eq_true h.1,fun i x hx=>beq_iff_eq.mp (List.all_eq_true.mp h.2 (x,i) (List.mem_iff_getElem?.mpr ⟨i,by rw [List.getElem?_zipIdx,hx,Nat.zero_add]; rfl⟩)),A2l hm hk,fun s rvs hr=>BindsTo.of_eq (hb rvs hr)⟩
end Mine
end
section
namespace Mine
open PySem PySem.W PyProof.Rows
section
variable {C:Cx} {P:Params}
theorem fn0 (X:(KH P).In C.h₀) (h:C.fv 0=117):FnIs C 0 ((nth fnL2 0).getD default):=
 A1j X h (ps:=["number", "size"]) (k:=60) (by kernel_rfl) (by kernel_rfl) (by kernel_rfl) (by kernel_rfl) (by kernel_rfl) fun rvs hr=>l2 rvs hr fun x0 x1=>by kernel_rfl
theorem fn2 (X:(KH P).In C.h₀) (h:C.fv 2=136):FnIs C 2 ((nth fnL2 2).getD default):=
 A1j X h (ps:=["row", "numbers"]) (k:=60) (by kernel_rfl) (by kernel_rfl) (by kernel_rfl) (by kernel_rfl) (by kernel_rfl) fun rvs hr=>l2 rvs hr fun x0 x1=>by kernel_rfl
theorem fn3 (X:(KH P).In C.h₀) (h:C.fv 3=143):FnIs C 3 ((nth fnL2 3).getD default):=
 A1j X h (ps:=["row", "names", "order"]) (k:=60) (by kernel_rfl) (by kernel_rfl) (by kernel_rfl) (by kernel_rfl) (by kernel_rfl) fun rvs hr=>l3 rvs hr fun x0 x1 x2=>by kernel_rfl
theorem fn4 (X:(KH P).In C.h₀) (h:C.fv 4=63):FnIs C 4 ((nth fnL2 4).getD default):=
 A1j X h (ps:=["want", "got"]) (k:=60) (by kernel_rfl) (by kernel_rfl) (by kernel_rfl) (by kernel_rfl) (by kernel_rfl) fun rvs hr=>l2 rvs hr fun x0 x1=>by kernel_rfl
theorem fn5 (X:(KH P).In C.h₀) (h:C.fv 5=91):FnIs C 5 ((nth fnL2 5).getD default):=
 A1j X h (ps:=["ch_a", "ch_b"]) (k:=60) (by kernel_rfl) (by kernel_rfl) (by kernel_rfl) (by kernel_rfl) (by kernel_rfl) fun rvs hr=>l2 rvs hr fun x0 x1=>by kernel_rfl
theorem fn6 (X:(KH P).In C.h₀) (h:C.fv 6=98):FnIs C 6 ((nth fnL2 6).getD default):=
 A1j X h (ps:=["a", "b", "max_cost"]) (k:=60) (by kernel_rfl) (by kernel_rfl) (by kernel_rfl) (by kernel_rfl) (by kernel_rfl) fun rvs hr=>l3 rvs hr fun x0 x1 x2=>by kernel_rfl
theorem fn9 (X:(KH P).In C.h₀) (h:C.fv 9=42):FnIs C 9 ((nth fnL2 9).getD default):=
 A1j X h (ps:=["self"]) (k:=60) (by kernel_rfl) (by kernel_rfl) (by kernel_rfl) (by kernel_rfl) (by kernel_rfl) fun rvs hr=>l1 rvs hr fun x0=>by kernel_rfl
theorem fn10 (X:(KH P).In C.h₀) (h:C.fv 10=49):FnIs C 10 ((nth fnL2 10).getD default):=
 A1j X h (ps:=["self", "token"]) (k:=60) (by kernel_rfl) (by kernel_rfl) (by kernel_rfl) (by kernel_rfl) (by kernel_rfl) fun rvs hr=>l2 rvs hr fun x0 x1=>by kernel_rfl
theorem C2t (X:(KH P).In C.h₀) (h:C.fv 0=117∧C.fv 2=136∧C.fv 3=143∧C.fv 4=63∧C.fv 5=91∧C.fv 6=98∧C.fv 9=42∧C.fv 10=49):∀f fn,nth fnL2 f=some fn→fn.params < 50→FnIs C f fn:=by
 have no:∀{f:Nat} {fn:Fn},Nat.blt fn.params 50=false→fn.params < 50→FnIs C f fn:=fun h1 h2=>noft (h1.symm.trans (Nat.ble_eq_true_of_le h2))
 obtain ⟨h0,h2,h3,h4,h5,h6,h9,h10⟩:=h
 exact A1A (p:=fun f fn=>fn.params < 50→FnIs C f fn) (fun _=>fn0 X h0) (A1A (no rfl) (A1A (fun _=>fn2 X h2) (A1A (fun _=>fn3 X h3) (A1A (fun _=>fn4 X h4) (A1A (fun _=>fn5 X h5) (A1A (fun _=>fn6 X h6) (A1A (no rfl) (A1A (no rfl) (A1A (fun _=>fn9 X h9) (A1A (fun _=>fn10 X h10) (A1A (no rfl) C2p)))))))))))
end
end Mine
end
section
namespace Mine
open PySem PySem.W PyProof.Rows
noncomputable abbrev TH:=Tok×Int
noncomputable def lexD (P:Params) (line:Int) (st pb:Addr) (k:Nat→TH):Obj:=
 ⟨.type "dict",none,.dict #[⟨(k 0).2,.str "lineno" (k 0).1,.int line (k 1).1⟩,⟨(k 2).2,.str "instream" (k 2).1,.ref st⟩,
  ⟨(k 3).2,.str "whitespace" (k 3).1,.str "\n\t\r " (k 4).1⟩,⟨(k 5).2,.str "pushback" (k 5).1,.ref pb⟩] 4,#[]⟩
noncomputable def lexI (d:Addr):Obj:=⟨.ref 52,some d,.plain,#[]⟩
noncomputable def B1k (P:Params) (rd:Addr) (k:TH):Obj:=⟨.type "dict",none,.dict #[⟨k.2,.str "read" k.1,.ref rd⟩] 1,#[]⟩
noncomputable def B8r:List PySem.Stmt→Option (Arguments×List PySem.Stmt×Scope)
 | []=>none
 | .FunctionDef _ a b _ _ _ sc _ _ _::_=>some (a,b,sc)
 | _::r=>B8r r
noncomputable def A0u:Arguments×List PySem.Stmt×Scope:=(((B8S "_law_lexer" prog).bind fun d=>B8r d.2.1)).getD default
structure A2J (h₀:Heap) (fd:FuncData) (ce:Addr):Prop where
 params:fd.params=A0u.1
 body:fd.body=.stmts A0u.2.1
 scope:fd.scope=A0u.2.2
 globals:fd.globals=mainGlobals
 builtins:fd.builtins=builtinsNs
 closure:fd.closure=[(("left" : Str),ce)]
 defaults:fd.defaults=.none
 kwdefaults:fd.kwdefaults=.none
 code:h₀.CodeRec fd.code fd.qualname
noncomputable def B3j (h:Heap) (a:Addr) (v:Value):Prop:=∃o,h.get? a=some o∧o.data=.cell (some v)
noncomputable def ad13 (l:List Addr) (i:Nat):Addr:=l.getD i 0
theorem A6M:∀{l:List Addr} (hn:l.Nodup) {i j:Nat} (hi:i < l.length) (hj:j < l.length) (e:ad13 l i=ad13 l j),i=j:=by
 intro l hn i j hi hj e
 unfold ad13 at e
 rw [List.getD_eq_getElem?_getD,List.getD_eq_getElem?_getD,List.getElem?_eq_getElem hi,List.getElem?_eq_getElem hj] at e
 exact (List.getElem?_inj hi hn).mp ((List.getElem?_eq_getElem hi).trans ((congrArg some e).trans (List.getElem?_eq_getElem hj).symm))
theorem A6N {l:List Addr} {i:Nat} (hi:i < l.length):ad13 l i∈l:=by
 unfold ad13
 rw [List.getD_eq_getElem?_getD,List.getElem?_eq_getElem hi]
 exact List.getElem_mem hi
structure LexD where
 (x pl d li ce st sd rd:Addr)
 (k:Nat→TH)
 (tk:Tok)
 (kr:TH)
 (fd fdr:FuncData)
 (kk:Nat)
noncomputable def LexD.W (D:LexD):List Addr:=[D.d,D.li,D.ce]
noncomputable def LexD.five (D:LexD):List Addr:=[D.x,D.pl,D.d,D.li,D.ce]
structure A2W (P:Params) (h₀ h:Heap) (T:List Nat) (line:Int) (D:LexD):Prop where
 hx:h.get? D.x=some (lexI D.d)
 hd:h.get? D.d=some (lexD P line D.st D.pl D.k)
 hli:h.get? D.li=some (A0k [.str ⟨T.toArray⟩ D.tk] D.kk)
 hce:B3j h D.ce (.ref D.li)
 hst:h₀.get? D.st=some ⟨.type "function",some D.sd,.func D.fd,#[]⟩
 hsd:h₀.get? D.sd=some (B1k P D.rd D.kr)
 hrd:h₀.get? D.rd=some ⟨.type "function",none,.func D.fdr,#[]⟩
 rf:A2J h₀ D.fdr D.ce
 sm:∀c∈T,c < symB
 len:T.length≤4000
theorem ac {α:Type} {p:α→Prop} {a:α} {l:List α} (h:p a) (t:∀x∈l,p x):∀x∈a::l,p x:=List.forall_mem_cons.mpr ⟨h,t⟩
theorem an {α:Type} {p:α→Prop}:∀x∈([]:List α),p x:=fun _ h=>nomatch h
theorem A2W.keep {P:Params} {h₀ h h':Heap} {T:List Nat} {line:Int} {D:LexD} (R:A2W P h₀ h T line D) (k:∀b∈D.x::D.W,∀o,h.get? b=some o→h'.get? b=some o):A2W P h₀ h' T line D:=
 { R with hx:=k _ (.head _) _ R.hx,hd:=k _ (.tail _ (.head _)) _ R.hd,hli:=k _ (.tail _ (.tail _ (.head _))) _ R.hli,hce:=R.hce.imp fun o z=>⟨k _ (.tail _ (.tail _ (.tail _ (.head _)))) _ z.1,z.2⟩ }
theorem A2W.live {P:Params} {h₀ h:Heap} {T:List Nat} {line:Int} {D:LexD} (R:A2W P h₀ h T line D):∀b∈D.x::D.W,∃o,h.get? b=some o:=
 ac ⟨_,R.hx⟩ (ac ⟨_,R.hd⟩ (ac ⟨_,R.hli⟩ (ac (R.hce.imp fun _ z=>z.1) an)))
structure Form where
 text:List Nat
 tok:List Nat
 more:Bool
noncomputable def B5D:Nat:=symB + 100
noncomputable def A6g (b:Bool):List Nat:=match b with | true=>[B5D] | false=>[]
noncomputable def A5g:List S:=((nth fnL2 9).getD default).body
noncomputable def B3k (t:List Nat) (line:Int):St:=⟨.ref 0::List.replicate 3 .unb,[],[(0,.lex t line 1 [2,3,4]),(1,.list [])],5⟩
noncomputable def A6h (t:List Nat) (line:Int):Option (List Nat×Option O×Option O):=match run [] 60 (.ss A5g) (B3k t line) with
 | some (.f (.ret (.str tok)),σ)=>some (tok,hget σ.hp 0,hget σ.hp 1)
 | _=>none
noncomputable def addL:Int→List Nat→Int
 | l,[]=>l
 | l,c::r=>addL (match Nat.beq c 10 with | true=>l + 1 | false=>l) r
noncomputable def A1v (j:Nat):List Form:=let c:=symB + j
 [⟨[34,c,34],[c],true⟩,⟨[92,c,32],[c],true⟩,⟨[92,c,9],[c],true⟩,⟨[92,c,10],[c],true⟩,⟨[92,c,13],[c],true⟩,⟨[c,10],[c],true⟩]
noncomputable def A3z:List Form:=A1v 0 ++ A1v 1 ++ A1v 2 ++ A1v 3 ++ [⟨[122,92,32,34,122,10],[122,32,34,122],true⟩,⟨[34,92,34,92,92,32,34],[34,92,32],false⟩,⟨[9,122],[122],false⟩]
inductive A2h (ρ:Nat→List Nat):List Nat→List (List Nat)→Prop
 | nil:A2h ρ [] []
 | step (f:Form) (R:List Nat) (ts:List (List Nat)):f∈A3z→(f.more=true→R≠[]∧R.length≤32)→(f.more=false→R=[])→A2h ρ R ts→A2h ρ (sv ρ f.text ++ R) (sv ρ f.tok::ts)
noncomputable def A1M (P:Params) (h₀:Heap) (φ:Nat→Addr) (n:Nat) (h:Heap) (i:Nat) (text:List Nat) (line:Int) (pb:Nat) (ow:List Nat):Prop:=
 ∃D,A2W P h₀ h text line D∧(i::ow).map φ=D.x::D.W∧φ pb=D.pl∧pb < n
noncomputable def LXof (P:Params) (h₀:Heap) (ρ:Nat→List Nat) (φ:Nat→Addr) (n:Nat) (h:Heap) (i:Nat):O→Prop
 | .lex text line pb ow=>A1M P h₀ φ n h i (sv ρ text) line pb ow
 | .tok toks src pb ow=>∃T line,A1M P h₀ φ n h i T line pb ow∧A2h ρ T (toks.map (sv ρ))∧line + A0w 10 T=1 + A0w 10 (sv ρ src)∧∀t∈toks,t.length≤4000
 | .fit lx done ow=>∃f m,ow=[m]∧lx < n∧h.get? (φ i)=some ⟨.type "callable_iterator",none,.fields (if done then #[.none,.none,.bool true] else #[.ref (φ m),.str "" f,.bool false]),#[]⟩∧h.get? (φ m)=some (methodObj (.ref 35) (.ref (φ lx)))
 | .frz _=>False
 | _=>True
theorem A6i {P:Params} {h₀:Heap} {φ φ':Nat→Addr} {n n':Nat} {h h':Heap} {i:Nat} {text:List Nat} {line:Int} {pb:Nat} {ow:List Nat} (x:A1M P h₀ φ n h i text line pb ow) (e:Ext φ φ' n) (hn:n≤n') (hi:∀j∈i::ow,j < n)
  (hk:∀j∈i::ow,∀ob,h.get? (φ j)=some ob→h'.get? (φ j)=some ob):A1M P h₀ φ' n' h' i text line pb ow:=by
 refine e1a4 x fun D R m p hp=>?_
 have k:∀b∈D.x::D.W,∀o,h.get? b=some o→h'.get? b=some o:=fun b hb=>by
  rw [←m] at hb
  refine e1a2 (List.mem_map.mp hb) fun j hj e2z=>?_
  subst e2z
  exact hk j hj
 exact ⟨D,R.keep k,(List.map_congr_left fun j hj=>e j (hi j hj)).trans m,(e pb hp).trans p,Nat.lt_of_lt_of_le hp hn⟩
theorem B0n {P:Params} {h₀ h:Heap} {φ:Nat→Addr} {n i:Nat} {T:List Nat} {l:Int} {pb:Nat} {ow:List Nat} (x:A1M P h₀ φ n h i T l pb ow):∀k∈i::ow,∃ob,h.get? (φ k)=some ob:=fun k hk=>by
 refine e1a3 x fun D R m _=>?_
 exact R.live _ (m▸List.mem_map_of_mem hk)
theorem A6O {φ:Nat→Addr} {i:Nat} {ow:List Nat} {D:LexD} (m:(i::ow).map φ=D.x::D.W):φ i=D.x:=(List.cons.inj m).1
theorem A2J.mono {h h':Heap} {fd:FuncData} {ce:Addr} (R:A2J h fd ce) (hk:∀b o,h.get? b=some o→h'.get? b=some o):A2J h' fd ce:={ R with code:=R.code.keeps hk }
theorem B8s {P:Params} {h₀:Heap} {ρ:Nat→List Nat}:∀φ φ' n n' h h' i o,LXof P h₀ ρ φ n h i o→Ext φ φ' n→n≤n'→(∀j∈i::own o,j < n)→(∀j∈i::own o,∀ob,h.get? (φ j)=some ob→h'.get? (φ j)=some ob)→LXof P h₀ ρ φ' n' h' i o:=by
 intro φ φ' n n' h h' i o x e hn hi hk
 cases o with
 | list=>trivial
 | tup=>trivial
 | frz=>exact x.elim
 | lex=>exact A6i x e hn hi hk
 | tok=>
  refine e2a2 x fun T line h1 h2=>?_
  exact ⟨T,line,A6i h1 e hn hi hk,h2⟩
 | fit lx done ow=>
  refine e2a4 x fun f m e2z hl h1 h2=>?_
  subst e2z
  refine ⟨f,m,rfl,Nat.lt_of_lt_of_le hl hn,?_,?_⟩
  ·
   rw [e i (hi i (.head _)),e m (hi m (.tail _ (.head _)))]; exact hk i (.head _) _ h1
  ·
   rw [e m (hi m (.tail _ (.head _))),e lx hl]; exact hk m (.tail _ (.head _)) _ h2
end Mine
end
section
namespace Mine
open PySem PySem.W PyProof.Rows
section
variable {P:Params} {k:Nat→TH} {line:Int} {st pb:Addr}
theorem ga52:findIn (KH P) (.ref 52) "__getattribute__" = some (some (.builtin "object.__getattribute__")):=by kernel_rfl
theorem gk52:findIn (KH P) (.ref 52) "__getattr__" = some none:=by kernel_rfl
theorem B3l:findObj (KH P) 52 (some (lexD P line st pb k)) "lineno" = some (.value (.int line (k 1).1)):=by kernel_rfl
theorem C4h:findObj (KH P) 52 (some (lexD P line st pb k)) "instream" = some (.value (.ref st)):=by kernel_rfl
theorem f_ws:findObj (KH P) 52 (some (lexD P line st pb k)) "whitespace" = some (.value (.str "\n\t\r " (k 4).1)):=by kernel_rfl
theorem f_pb:findObj (KH P) 52 (some (lexD P line st pb k)) "pushback" = some (.value (.ref pb)):=by kernel_rfl
theorem f_gt:findIn (KH P) (.ref 52) "get_token" = some (some (.ref 42)):=by kernel_rfl
theorem f_pt:findIn (KH P) (.ref 52) "push_token" = some (some (.ref 49)):=by kernel_rfl
theorem f_rc:findIn (KH P) (.ref 52) "_read_char" = some (some (.ref 35)):=by kernel_rfl
theorem t42:typeIn (KH P) (.ref 42)=some (.type "function"):=by kernel_rfl
theorem t49:typeIn (KH P) (.ref 49)=some (.type "function"):=by kernel_rfl
theorem t35:typeIn (KH P) (.ref 35)=some (.type "function"):=by kernel_rfl
theorem s_gt:shadowIn (some (lexD P line st pb k)) "get_token" = some false:=by kernel_rfl
theorem s_pt:shadowIn (some (lexD P line st pb k)) "push_token" = some false:=by kernel_rfl
theorem s_rc:shadowIn (some (lexD P line st pb k)) "_read_char" = some false:=by kernel_rfl
theorem f_rb:∃g,findObj (KH P) 52 (some (lexD P line st pb k)) "_read_char" = some (.bind g (.ref 35))∧g=.builtin "function.__get__" := ⟨.builtin "function.__get__",by kernel_rfl,rfl⟩
theorem A3A {h:Heap} {x d:Addr} (h1:h.get? x=some (lexI d)) (h2:h.get? d=some (lexD P line st pb k)):InstAt h x (lexI d) 52 (some (lexD P line st pb k)):=⟨h1,rfl,by kernel_rfl,h2⟩
end
structure WOk (C:Cx) (hs:Heap):Prop where
 K:(KH C.w.params).In C.h₀
 LX:C.LX=LXof C.w.params hs C.ρ
 sub:∀b o,hs.get? b=some o→C.h₀.get? b=some o
 fread:C.fread=35
 f9:C.fv 9=42
 f10:C.fv 10=49
section
variable {C:Cx} {fi:Fi} {φ φ':Nat→Addr} {X:List (Addr×Obj)} {σ σ' σ₁ σ₂ σ₃:St} {s s':Shared} {A:Around} {E Q:Value→Shared→Prop}
noncomputable def pbOf:O→Nat
 | .lex _ _ p _=>p
 | .tok _ _ p _=>p
 | _=>0
theorem B8t {hs:Heap} (W:WOk C hs) (I:Inv C fi φ X σ s) {j:Nat} {o:O} (h:hget σ.hp j=some o) (hl:A2T o=true):∃T line,A1M C.w.params hs φ σ.nx s.heap j T line (pbOf o) (own o):=by
 have x:=I.get h
 induction o with
 | lex t l p ow=>
  have x:C.LX φ σ.nx s.heap j (.lex t l p ow):=x
  rw [W.LX] at x
  exact ⟨_,l,x⟩
 | tok t l p ow=>
  have x:C.LX φ σ.nx s.heap j (.tok t l p ow):=x
  rw [W.LX] at x
  refine e2a2 x fun T line x _=>?_
  exact ⟨T,line,x⟩
 | _=>exact noft hl
theorem B3m {m:Me} {hp:List (Nat×O)} {j:Nat} {o:O} (hg:hget hp j=some o) (hl:A2T o=true) (hk:mok m hp (.ref j)=true):m=.getToken∨m=.pushToken∨m=.readChar:=by
 unfold mok at hk; dsimp only at hk
 rw [hg] at hk
 induction o with
 | lex=>induction m with
  | getToken=>exact .inl rfl
  | pushToken=>exact .inr (.inl rfl)
  | readChar=>exact .inr (.inr rfl)
  | _=>exact noft hk
 | tok=>induction m with
  | getToken=>exact .inl rfl
  | pushToken=>exact .inr (.inl rfl)
  | _=>exact noft hk
 | _=>exact noft hl
theorem B5E {hs:Heap} (W:WOk C hs) {m:Me} {j:Nat} {o:O} {pl:Sem Bool} {E:Value→Shared→Prop} {Q:Value×List Value→Shared→Prop} (hg:hget σ.hp j=some o) (hl:A2T o=true) (hk:mok m σ.hp (.ref j)=true) (I:Inv C fi φ X σ s)
  (q:Q (.ref (match m with | .getToken=>C.fv 9 | .pushToken=>C.fv 10 | _=>C.fread),[.ref (φ j)]) s):wpAny (MM C) A (getMethod (.ref (φ j)) (A8v m) pl) Q E s:=by
 refine e3a3 (B8t W I hg hl) fun T line D R e _=>?_
 have X:=W.K.keeps I.keep
 rw [A6O e] at q ⊢
 have IA:=A3A R.hx R.hd
 rcases B3m hg hl hk with rfl | rfl | rfl
 ·
  exact method_fn X IA ga52 gk52 f_gt t42 s_gt (W.f9▸q)
 ·
  exact method_fn X IA ga52 gk52 f_pt t49 s_pt (W.f10▸q)
 ·
  exact method_fn X IA ga52 gk52 f_rc t35 s_rc (W.fread▸q)
theorem B5F {hs:Heap} (W:WOk C hs) (O:OkC C) {m:Mine.At} {o v:V} {ro:Value} (ha:A5E m σ.hp o=some v) (I:Inv C fi φ X σ s) (hv:VR C.ρ φ σ.nx o ro) (q:Post C fi φ X σ σ v Q):wpAny (MM C) A (getAttr ro (A7h m) true) Q E s:=by
 have X:=W.K.keeps I.keep
 unfold A5E at ha
 induction o with
 | ref j=>
  dsimp only at ha
  cases hg:hget σ.hp j with
  | none=>rw [hg] at ha; exact A0a ha
  | some ob=>
   rw [hg] at ha
   have x:=I.get hg
   rw [A1a hv]
   induction ob with
   | lex t l pb ow=>
    have x:C.LX φ σ.nx s.heap j (.lex t l pb ow):=x
    rw [W.LX] at x
    refine e1a4 x fun D R e p hp=>?_
    rw [A6O e]
    induction m with
    | pushback=>exact get_value X (A3A R.hx R.hd) ga52 f_pb rfl (q φ _ _ (Ext.refl _ _) (I.toks O.H _) (Option.some.inj ha▸p▸.ref _ hp))
    | whitespace=>exact get_value X (A3A R.hx R.hd) ga52 f_ws rfl (q φ _ _ (Ext.refl _ _) (I.toks O.H _) (Option.some.inj ha▸VR.str [10,9,13,32] _ (Nat.le_of_ble_eq_true rfl)))
    | lineno=>exact get_value X (A3A R.hx R.hd) ga52 B3l rfl (q φ _ _ (Ext.refl _ _) (I.toks O.H _) (Option.some.inj ha▸.int _ _))
   | tok t l pb ow=>
    have x:C.LX φ σ.nx s.heap j (.tok t l pb ow):=x
    rw [W.LX] at x
    obtain ⟨T,line,⟨D,R,e,p,hp⟩,_⟩:=x
    rw [A6O e]
    induction m with
    | pushback=>exact get_value X (A3A R.hx R.hd) ga52 f_pb rfl (q φ _ _ (Ext.refl _ _) (I.toks O.H _) (Option.some.inj ha▸p▸.ref _ hp))
    | _=>exact A0a ha
   | _=>exact A0a ha
 | _=>exact A0a ha
theorem B5G {hs:Heap} (W:WOk C hs) (O:OkC C) {j:Nat} {src:List Nat} {pb:Nat} {ow:List Nat} (hg:hget σ.hp j=some (.tok [] src pb ow)) (I:Inv C fi φ X σ s) (q:∀t s',Inv C fi φ X σ s'→Q (.int (1 + A0w 10 (sv C.ρ src)) t) s'):wpAny (MM C) A (getAttr (.ref (φ j)) "lineno" true) Q E s:=by
 have X:=W.K.keeps I.keep
 have x0:C.LX φ σ.nx s.heap j (.tok [] src pb ow):=I.get hg
 rw [W.LX] at x0
 obtain ⟨T,line,⟨D,R,e,_⟩,h6,h7,_⟩:=x0
 have IA:=A3A R.hx R.hd
 have hT:T=[]:=by cases h6; rfl
 subst hT
 have hl:line=1 + A0w 10 (sv C.ρ src):=(Int.add_zero line).symm.trans h7
 rw [←hl] at q
 rw [A6O e]
 exact get_value X IA ga52 B3l rfl (q _ _ (I.toks O.H _))
end
end Mine
end
section
namespace Mine
open PySem PySem.W PyProof.Rows
noncomputable def Cx.at (C:Cx) (s:Shared) (W:List Addr):Cx:={ C with h₀:=hideAll s.heap W,gens:=s.gens,drawn:=s.drawn,os:=s.os,LX:=fun _ _ _ _ _=>False }
section
variable {C:Cx} {fi:Fi} {φ φ':Nat→Addr} {X:List (Addr×Obj)} {σ σ' σ₁ σ₂ σ₃:St} {s s':Shared} {A:Around} {E Q:Value→Shared→Prop} {W:List Addr}
theorem Cx.at_keep (hk:∀b o,C.h₀.get? b=some o→s.heap.get? b=some o) (hW:∀b∈W,C.h₀.get? b=none):∀b o,C.h₀.get? b=some o→(C.at s W).h₀.get? b=some o:=fun b o e=>
 hideAll_get W (hk b o e) fun hm=>by rw [hW b hm] at e; cases e
theorem B3n (O:OkC C) (hk:∀b o,C.h₀.get? b=some o→s.heap.get? b=some o) (hW:∀b∈W,C.h₀.get? b=none):OkC (C.at s W) where
 H:={
  g:=O.H.g.keeps (Cx.at_keep hk hW)
  b:=O.H.b.keeps (Cx.at_keep hk hW)
  nolimit:=O.H.nolimit.keeps (Cx.at_keep hk hW)
  boot:=O.H.boot
  free:=O.H.free
  con:=O.H.con
  ρlen:=O.H.ρlen
  ext:=fun _ _ _ _ _ _ _ _ h=>h.elim
  frz:=fun _ _ _ _ _ h=>h.elim }
 S:=O.S
 pos:=O.pos
 small:=O.small
theorem B8u (F:A0X C) (hk:∀b o,C.h₀.get? b=some o→s.heap.get? b=some o) (hW:∀b∈W,C.h₀.get? b=none):A0X (C.at s W) where
 glob:=F.glob
 fn:=fun f hf=>let ⟨o,fd,h1,h2⟩:=F.fn f hf; ⟨o,fd,Cx.at_keep hk hW _ _ h1,h2⟩
 fnr:=let ⟨o,fd,h1,h2⟩:=F.fnr; ⟨o,fd,Cx.at_keep hk hW _ _ h1,h2⟩
theorem FnIs.mono {C':Cx} {f:Nat} {fn:Fn} (F:FnIs C f fn) (hk:∀b o,C.h₀.get? b=some o→C'.h₀.get? b=some o) (hf:C'.fv=C.fv):FnIs C' f fn:=by
 refine e3a1 F.ex fun fd ps k F=>?_
 exact ⟨fd,ps,k,{ F with R:=hf▸F.R.mono hk }⟩
theorem B3o:bootBuiltins ("iter" : Str)=some (.builtin "iter"):=by decide +kernel
theorem A7T (O:OkC C) {o:V} {y x:Str} {p0 p1 p2 p3 pos:Pos} {k:Nat} (hg:A0I fi.cx "iter" = true) (hm:A0C C fi A X σ σ₁ o (.Name y p1)) (I:Inv C fi φ X σ s)
  (q:∀φ1 s1 ro,Ext φ φ1 σ.nx→Inv C fi φ1 X σ₁ s1→VR C.ρ φ1 σ₁.nx o ro→wpAny (MM C) A (getAttr ro x true) (fun mv s2=>wpAny (MM C) A (call (.builtin "iter") [mv,.str "" s2.toks]) Q E { s2 with toks:=s2.toks + 1 }) E s1):
  wpAny (MM C) A (eval (.Call (.Name "iter" p0) [.Attribute (.Name y p1) x p2,.Constant (.str "") k p3] [] pos) fi.env) Q E s:=by
 refine Call_ ?_
 have e:∀p,backTo p (starEach [.Attribute (.Name y p1) x p2,.Constant (.str "") k p3] fi.env)=A1z [.Attribute (.Name y p1) x p2,.Constant (.str "") k p3] fi.env:=fun p=>rfl
 rw [e]
 refine A3s I O hg (O.H.free _ rfl) ((O.H.boot _ (by decide)).trans B3o) ?_
 refine Calls.callWith_builtin (A1S _ _) (A0y (Calls.spliced_cons (Attribute_name (hm.then I fun φ1 s1 ro e1 I1 v1=>?_))))
 refine wpAny_mono (q φ1 s1 ro e1 I1 v1) (fun mv s2 h2=>?_) fun _ _ h=>h
 exact Calls.spliced_cons (wpAny_Constant_str (Calls.spliced_nil h2))
theorem A7U {hp hp':List (Nat×O)} {j:Nat} {c:List Nat} (h:A3K hp j=some (c,hp')):∃t l p ow,hget hp j=some (.lex t l p ow):=by
 unfold A3K at h
 cases e:hget hp j with
 | none=>rw [e] at h; exact A0a h
 | some o=>
  rw [e] at h
  induction o with
  | lex t l p ow=>exact ⟨t,l,p,ow,rfl⟩
  | _=>exact A0a h
theorem A5h {o v:V} {q:Prop} (h:A1G .readChar σ o []=some (v,σ')) (H:∀j t l p ow c hp,o=.ref j→hget σ.hp j=some (.lex t l p ow)→A3K σ.hp j=some (c,hp)→v=.str c→σ'={ σ with hp:=hp }→q):q:=
 r_on h fun j ej h=>A2G h fun p hp e=>let ⟨t,l,pb,ow,hg⟩:=A7U hp; let e:=Prod.mk.inj (Option.some.inj e); H j t l pb ow p.1 p.2 ej hg hp e.1.symm e.2.symm
theorem A5i {o v:V} {q:Prop} (h:builtin .iterRead σ [o]=some (v,σ')) (H:∀j t l p ow,o=.ref j→hget σ.hp j=some (.lex t l p ow)→v=.ref σ.nx→σ'={ σ with hp:=(σ.nx,.fit j false [σ.nx + 1])::σ.hp,nx:=σ.nx + 2 }→q):q:=
 r_on h fun j ej h=>by
  unfold B4D at h
  cases e:hget σ.hp j with
  | none=>rw [e] at h; exact A0a h
  | some o=>
   rw [e] at h
   induction o with
   | lex t l p ow=>exact let z:=Prod.mk.inj (Option.some.inj h); H j t l p ow ej e z.1.symm z.2.symm
   | _=>exact A0a h
noncomputable def NoLx (C:Cx):Prop:=∀φ n h i,(∀a b c d,¬C.LX φ n h i (.lex a b c d))∧(∀a b c d,¬C.LX φ n h i (.tok a b c d))∧∀a b c,¬C.LX φ n h i (.fit a b c)
theorem NoLx.no (h:NoLx C) (I:Inv C fi φ X σ s) {j:Nat} {o:O} {q:Prop} (hg:hget σ.hp j=some o) (hl:A2T o=true):q:=by
 have x:=I.get hg
 induction o with
 | lex=>exact ((h _ _ _ _).1 _ _ _ _ x).elim
 | tok=>exact ((h _ _ _ _).2.1 _ _ _ _ x).elim
 | _=>exact noft hl
theorem NoLx.noF (h:NoLx C) (I:Inv C fi φ X σ s) {j lx:Nat} {d:Bool} {ow:List Nat} {q:Prop} (hg:hget σ.hp j=some (.fit lx d ow)):q:=((h _ _ _ _).2.2 _ _ _ (I.get hg)).elim
theorem B9C {m:Mine.At} {hp:List (Nat×O)} {o v:V} {q:Prop} (ha:A5E m hp o=some v) (H:∀j ob,hget hp j=some ob→A2T ob=true→q):q:=by
 unfold A5E at ha
 induction o with
 | ref j=>
  dsimp only at ha
  cases hg:hget hp j with
  | none=>rw [hg] at ha; exact A0a ha
  | some ob=>
   rw [hg] at ha
   induction ob with
   | lex=>exact H j _ hg rfl
   | tok=>exact H j _ hg rfl
   | _=>exact A0a ha
 | _=>exact A0a ha
theorem A9h {C:Cx} (O:OkC C) {K:Nat} (h:NoLx C):A2p C K where
 attr:=fun ha I hv q=>B9C ha fun _ _ hg hl=>h.no I hg hl
 getm:=fun hg hl hk I q=>h.no I hg hl
 read:=fun hR hm I hv q=>A5h hm fun _ _ _ _ _ _ _ _ hg _ _ _=>h.no I hg rfl
 iter:=fun hgl hR hm hn hb I q=>A7T O hgl hm I fun φ1 s1 ro e1 I1 v1=>A5i hb fun _ _ _ _ _ _ hg _ _=>h.no I1 hg rfl
 line:=fun hg I q=>h.no I hg rfl
 selfIt:=fun hg I q=>h.noF I hg
 ended:=fun hh hg I q=>h.noF I hg
 next:=fun hR hg hc I q1 q2=>h.noF I hg
theorem B3p {C:Cx} (O:OkC C) {K:Nat} (h:C.LX=fun _ _ _ _ _=>False):A2p C K:=A9h O (by intro φ n hh i; rw [h]; exact ⟨fun _ _ _ _ x=>x,fun _ _ _ _ x=>x,fun _ _ _ x=>x⟩)
end
end Mine
end
section
namespace Mine
open PySem PySem.W PyProof.Rows
section
variable {C:Cx} {fi:Fi} {φ φ':Nat→Addr} {X:List (Addr×Obj)} {σ σ' σ₁ σ₂ σ₃:St} {s s' s₁:Shared} {A:Around} {E Q:Value→Shared→Prop} {W:List Addr}
theorem A4B (hk₀:∀b∈W,C.h₀.get? b=none) {fi':Fi} {hp:List (Nat×O)} {nx:Nat} {loc cel:List V} {m:Str→Option Value} (he:A2E fi') (hL:s.heap.get? fi'.env.locals=none) (hk:∀b o,s.heap.get? b=some o→s₁.heap.get? b=some o)
  (hns:s₁.heap.Ns fi'.env.locals m) (hcn:fi'.cad.Nodup) (hcW:∀a∈fi'.cad,a∈W∧∃o,s.heap.get? a=some o) (hid:∀i∈A0c hp,φ i∈W∧φ i∉fi'.cad∧∃ob,s.heap.get? (φ i)=some ob)
  (inj:∀i∈A0c hp,∀j∈A0c hp,φ i=φ j→i=j) (nd:(A0c hp).Nodup) (low:∀i∈A0c hp,i < nx)
  (hl:∀x k v,at? fi'.cx.locs x=some k→nth loc k=some v→v≠.unb→∃rv,m x=some rv∧VR C.ρ φ nx v rv)
  (hc:∀k a,fi'.cad[k]?=some a→∃o cv,s.heap.get? a=some o∧o.data=.cell cv∧∀v,nth cel k=some v→v≠.unb→∃rv,cv=some rv∧VR C.ρ φ nx v rv)
  (hh:∀p∈hp,OR (fun _ _ _ _ _=>False) C.ρ φ nx s₁.heap p.1 p.2) (hg:s₁.gens=s.gens) (hd:s₁.drawn=s.drawn) (ho:s₁.os=s.os):Inv (C.at s W) fi' φ [] ⟨loc,cel,hp,nx⟩ s₁ where
 keep:=fun b o e=>hk b o (of_hideAll W e)
 inj:=inj
 live:=fun i hi=>⟨hideAll_none W (hid i hi).1,let ⟨ob,e⟩:=(hid i hi).2.2; ⟨ob,hk _ _ e⟩⟩
 env:=he
 ids:=nd
 low:=low
 nd:=by
  rw [List.nodup_cons]
  refine ⟨fun hm=>?_,hcn⟩
  obtain ⟨o,e⟩:=(hcW _ hm).2
  rw [hL] at e; cases e
 off:=fun a ha=>by
  unfold Fi.ads at ha
  rw [List.map_nil,List.append_nil] at ha
  rcases List.mem_cons.mp ha with rfl | ha
  ·
   refine ⟨?_,fun i hi e=>?_⟩
   ·
    cases q:(C.at s W).h₀.get? fi'.env.locals with
    | none=>rfl
    | some o=>have:=of_hideAll W q; rw [hL] at this; cases this
   ·
    obtain ⟨ob,e2⟩:=(hid i hi).2.2
    rw [e,hL] at e2; cases e2
  ·
   exact ⟨hideAll_none W (hcW a ha).1,fun i hi e=>(hid i hi).2.1 (e▸ha)⟩
 apart:=fun a ha hm=>nomatch hm
 loc:=⟨m,hns,hl⟩
 cel:=fun k a h=>let ⟨o,cv,h1,h2,h3⟩:=hc k a h; ⟨o,cv,hk _ _ h1,h2,h3⟩
 hp:=hh
 xs:=fun p hp=>nomatch hp
 gens:=⟨#[],by rw [hg,Array.append_empty]; rfl,.empty⟩
 drawn:=hd
 os:=ho
theorem B0o (O:OkC C) (F:A0X C) (hk:∀b o,C.h₀.get? b=some o→s.heap.get? b=some o) (hW:∀b∈W,C.h₀.get? b=none):Hyp (C.at s W) [] 0 where
 O:=B3n O hk hW
 L:=B3p (B3n O hk hW) rfl
 F:=B8u F hk hW
 N:=fun h=>nomatch h
 fn:=fun f fn h=>nomatch h
noncomputable def A2c:Ctx:=A0i A0u.2.2
noncomputable def C2u:List S:=[.asg [.loc 1] (.sli (.idx (.cel 0) (.lit (.int 0))) none (some (.loc 0))),.put (.cel 0) (.lit (.int 0)) (.sli (.idx (.cel 0) (.lit (.int 0))) (some (.loc 0)) none),.ret (.loc 1)]
theorem B5H:TrSS 30 A2c C2u A0u.2.1:=A2l (by kernel_rfl) (by kernel_rfl)
theorem A4o:A2c.names=([("size",.local),("sign",.local),("left",.free)]:List (Str×NameKind)):=by kernel_rfl
theorem A9i:A2c.locs=(["size", "sign"]:List Str):=by kernel_rfl
theorem A5j:A2c.cels=(["left"]:List Str):=by kernel_rfl
theorem B5I {h₀:Heap} {fd:FuncData} {ce a L:Addr} (R:A2J h₀ fd ce):A2E ⟨callEnv fd L a,A2c,[ce]⟩:=by
 have kof:∀x,(callEnv fd L a).kindOf x=A2c.names.lookup x:=fun x=>by
  show fd.scope.names.lookup x=_
  rw [R.scope]; rfl
 exact {
  kind:=by show fd.scope.kind=_; rw [R.scope]; kernel_rfl
  globals:=R.globals
  builtins:=R.builtins
  loc:=fun x h=>by rw [kof]; exact h
  glob:=fun x h=>by rw [kof]; exact h
  celk:=fun x h=>by rw [kof]; exact h
  frek:=fun x h=>.inr (by rw [kof]; exact h)
  cell:=fun x k h1 h2=>by
   have h2:at? A2c.cels x=some k:=h2
   rw [A5j] at h2
   have h3:=A1C h2
   match k,h3 with
   | 0,h3=>
    cases h3
    refine ⟨ce,rfl,?_⟩
    show fd.closure.lookup _=_
    rw [R.closure]; rfl
   | k + 1,h3=>cases h3
  nclass:=fun x k h2=>by
   have h2:at? A2c.cels x=some k:=h2
   rw [A5j] at h2
   have h3:=A1C h2
   match k,h3 with
   | 0,h3=>cases h3; rfl
   | k + 1,h3=>cases h3
  ndebug:=fun x h=>by
   have h:(A2c.names.lookup x).isSome=true:=h
   rw [A4o] at h
   obtain ⟨k,hk⟩:=Option.isSome_iff_exists.mp h
   have hm:=A0O hk
   simp only [List.mem_cons,List.not_mem_nil,or_false,Prod.mk.injEq] at hm
   rcases hm with ⟨rfl,_⟩ | ⟨rfl,_⟩ | ⟨rfl,_⟩ <;> rfl }
theorem B5J (σ:St) {T:List Nat} (hT:flat T=true):A2C σ (.str T) none (some (.int 1))=some (.str (T.take 1),σ):=by
 have e:A2C σ (.str T) none (some (.int 1))=gd (flat T) (some (.str (cutL T 0 (Nat.min 1 T.length)),σ)):=rfl
 rw [e,hT]
 match T with
 | []=>rfl
 | _::_=>rfl
theorem B5K (σ:St) {T:List Nat} (hT:flat T=true):A2C σ (.str T) (some (.int 1)) none=some (.str (T.drop 1),σ):=by
 have e:A2C σ (.str T) (some (.int 1)) none=gd (flat T) (some (.str ((T.take T.length).drop (Nat.min 1 T.length)),σ)):=rfl
 rw [e,hT,List.take_length]
 match T with
 | []=>rfl
 | _::_=>rfl
theorem B5L (T:List Nat) (hT:flat T=true):run [] 30 (.ss C2u) ⟨[.int 1,.unb],[.ref 0],[(0,.list [.str T])],1⟩=some (.f (.ret (.str (T.take 1))),⟨[.int 1,.str (T.take 1)],[.ref 0],[(0,.list [.str (T.drop 1)])],1⟩):=by
 exact R_ss (A3M (B1M (A2O rfl rfl rfl) (fun f=>rfl) (B5J _ hT)) rfl) (R_ss (C1e (B1M (A2O rfl rfl rfl) (fun f=>rfl) (B5K _ hT)) rfl rfl rfl ⟨Int.le_refl _,Nat.zero_lt_one⟩) (A6v (A4L rfl)))
end
end Mine
end
section
namespace Mine
open PySem PySem.W PyProof.Rows
noncomputable def A1U (s s':Shared):Prop:=∃more,s'.gens=s.gens ++ more∧AllBare more
structure Near (W:List Addr) (s s':Shared):Prop where
 keep:∀b o,b∉W→s.heap.get? b=some o→s'.heap.get? b=some o
 gens:A1U s s'
 drawn:s'.drawn=s.drawn
 os:s'.os=s.os
theorem A0m {a b:Array GenState} (h:AllBare a) (h':AllBare b):AllBare (a ++ b):=fun y hy=>by
 rcases Array.mem_append.mp hy with hy | hy
 ·
  exact h y hy
 ·
  exact h' y hy
theorem A1U.trans {s s₁ s₂:Shared} (a:A1U s s₁) (b:A1U s₁ s₂):A1U s s₂:=by
 refine e1a2 a fun m e h=>?_
 refine e1a2 b fun m' e' h'=>?_
 exact ⟨m ++ m',by rw [e',e,Array.append_assoc],A0m h h'⟩
theorem A1U.same {s s':Shared} (h:s'.gens=s.gens):A1U s s':=⟨#[],by rw [h,Array.append_empty],.empty⟩
theorem Near.mono {W W':List Addr} {s s':Shared} (a:Near W s s') (h:∀b∈W,b∈W'):Near W' s s':=⟨fun x o hx e=>a.keep x o (fun hm=>hx (h x hm)) e,a.gens,a.drawn,a.os⟩
section
variable {C:Cx} {fi:Fi} {φ φ':Nat→Addr} {X:List (Addr×Obj)} {σ σ' σ₁ σ₂ σ₃:St} {s s' s₁:Shared} {A:Around} {E Q:Value→Shared→Prop} {W:List Addr}
theorem Inv.near {fi':Fi} (I:Inv (C.at s W) fi' φ X σ s'):Near W s s':=
 ⟨fun b o h e=>I.keep b o (hideAll_get W e h),I.gens,I.drawn,I.os⟩
theorem Inv.turnNear (H:C.Ok) (I:Inv C fi φ X σ s) {i:Nat} {o o':O} (hg:hget σ.hp i=some o) (ho:own o'=own o) (hn:Near W s s') (hW:∀b∈W,∃j∈i::own o,b=φ j) (hlive:∀j∈i::own o,∃ob,s'.heap.get? (φ j)=some ob)
  (hO:OR C.LX C.ρ φ σ.nx s'.heap i o'):Inv C fi φ X { σ with hp:=hset σ.hp i o' } s':=by
 have I1:Inv C fi φ X σ { s with gens:=s'.gens }:={ I with
  gens:=by
   refine e1a2 I.gens fun m e h=>?_
   refine e1a2 hn.gens fun m' e' h'=>?_
   exact ⟨m ++ m',by show s'.gens=_; rw [e',e,Array.append_assoc],A0m h h'⟩ }
 refine I1.turn H hg ho (fun b ob hb e=>hn.keep b ob (fun hm=>?_) e) hlive hO rfl hn.drawn hn.os
 refine e1a2 (hW b hm) fun j hj e=>?_
 exact hb j hj e
theorem Inv.growNear (H:C.Ok) (I:Inv C fi φ X σ s) (hn:Near [] s s'):Inv C fi φ X σ s':=by
 have I1:Inv C fi φ X σ { s with gens:=s'.gens }:={ I with
  gens:=by
   refine e1a2 I.gens fun m e h=>?_
   refine e1a2 hn.gens fun m' e' h'=>?_
   exact ⟨m ++ m',by show s'.gens=_; rw [e',e,Array.append_assoc],A0m h h'⟩ }
 exact I1.keeps H (fun b o e=>hn.keep b o (by simp) e) rfl hn.drawn hn.os
theorem B1l {T:List Nat} (h:∀c∈T,c < symB):flat T=true:=List.all_eq_true.mpr fun c hc=>Nat.ble_eq_true_of_le (Nat.lt_of_lt_of_le (h c hc) (Nat.le_add_right _ _))
theorem A4e {ρ:Nat→List Nat} {T:List Nat} (h:∀c∈T,c < symB):A0b ρ T=⟨T.toArray⟩:=by
 unfold A0b
 rw [A2H ρ h]
theorem B9D {p:Addr→Prop} {a b:Addr} (h1:p a) (h2:p b):∀x∈[a,b],p x:=List.forall_mem_cons.mpr ⟨h1,List.forall_mem_cons.mpr ⟨h2,fun _ h=>nomatch h⟩⟩
theorem B3q {h₀:Heap} {fdr:FuncData} {ce:Addr} {t:Tok} (R:A2J h₀ fdr ce):BindsTo s fdr ⟨[.int 1 t],[]⟩ [(("size" : Str),.int 1 t)]:=by
 refine BindsTo.of_eq ?_
 obtain ⟨a1,a2,a3,a4,a5,a6,a7,a8,a9,a10,a11,a12,a13,a14,a15⟩:=fdr
 have e1:=R.params
 have e2:=R.defaults
 have e3:=R.kwdefaults
 dsimp only at e1 e2 e3
 subst e1 e2 e3
 kernel_rfl
theorem B1m {rd ce L:Addr} {fdr:FuncData} {T:List Nat} {tk t:Tok} {kk:Nat} {oc:Obj} (R:A2J C.h₀ fdr ce) (hce:s.heap.get? ce=some oc) (hcd:oc.data=.cell (some (.ref L))) (hL:s.heap.get? L=some (A0k [.str ⟨T.toArray⟩ tk] kk)) (hT:∀c∈T,c < symB) (hl:T.length≤4000)
  (hW:∀b∈[L,ce],C.h₀.get? b=none) {h₁:Heap} (hns:h₁.Ns s.heap.objs.size fun x=>(([("size",.int 1 t)]:List (Str×Value)).lookup x)) (hk1:∀b o,s.heap.get? b=some o→h₁.get? b=some o):
  Inv (C.at s [L,ce]) ⟨callEnv fdr s.heap.objs.size rd,A2c,[ce]⟩ (fun _=>L) [] ⟨[.int 1,.unb],[.ref 0],[(0,.list [.str T])],1⟩ { heap:=h₁,gens:=s.gens,drawn:=s.drawn,toks:=s.toks + 1,os:=s.os }:=by
 have hne:L≠ce:=fun e=>nomatch (show Data.seq #[.str ⟨T.toArray⟩ tk] kk=Data.cell (some (.ref L)) from (congrArg Obj.data (Option.some.inj ((e▸hL:s.heap.get? ce=_).symm.trans hce))).trans hcd)
 refine A4B hW (B5I R) (A0e s.heap) hk1 hns (.cons (fun _ h=>nomatch h) .nil) (ac (p:=fun a=>a∈[L,ce]∧∃o,s.heap.get? a=some o) ⟨.tail _ (.head _),oc,hce⟩ an) (fun i _=>⟨.head _,fun m=>hne (List.mem_singleton.mp m),_,hL⟩) (fun i hi j hj _=>(List.mem_singleton.mp hi).trans (List.mem_singleton.mp hj).symm) (.cons (fun _ h=>nomatch h) .nil) (fun i hi=>List.mem_singleton.mp hi▸Nat.one_pos)
  (fun x k v h1 h2 h3=>?_) (fun k a h=>?_) (fun p hp=>?_) rfl rfl rfl
 ·
  have h1:at? A2c.locs x=some k:=h1
  rw [A9i] at h1
  have hx:=A1C h1
  cases k with
  | zero=>exact ⟨.int 1 t,by rw [←Option.some.inj hx]; rfl,Option.some.inj h2▸.int _ _⟩
  | succ k=>cases k with
   | zero=>exact absurd (Option.some.inj h2).symm h3
   | succ k=>exact A0a hx
 ·
  cases k with
  | zero=>exact ⟨oc,_,Option.some.inj h▸hce,hcd,fun v hv _=>⟨_,rfl,Option.some.inj hv▸VR.ref 0 Nat.one_pos⟩⟩
  | succ k=>exact A0a h
 ·
  rw [List.mem_singleton.mp hp]
  exact ⟨_,kk,hk1 _ _ hL,A4e (ρ:=C.ρ) hT▸.cons (.str T tk hl) .nil,Nat.le_of_ble_eq_true rfl⟩
theorem B5M (O:OkC C) (F:A0X C) (hk:∀b o,C.h₀.get? b=some o→s.heap.get? b=some o) {rd ce L:Addr} {fdr:FuncData} {T:List Nat} {tk t:Tok} {kk:Nat} (R:A2J C.h₀ fdr ce) (hrd:s.heap.get? rd=some ⟨.type "function",none,.func fdr,#[]⟩)
  (hce:B3j s.heap ce (.ref L)) (hL:s.heap.get? L=some (A0k [.str ⟨T.toArray⟩ tk] kk)) (hT:∀c∈T,c < symB) (hl:T.length≤4000) (hce0:C.h₀.get? ce=none) (hL0:C.h₀.get? L=none) (hR:Room A 40)
  (q:∀s' u tk' kk',Near [L,ce] s s'→s'.heap.get? L=some (A0k [.str ⟨(T.drop 1).toArray⟩ tk'] kk')→B3j s'.heap ce (.ref L)→Q (.str ⟨(T.take 1).toArray⟩ u) s'):wpAny (MM C) A (call (.ref rd) [.int 1 t]) Q E s:=by
 refine e1a2 hce fun oc hce hcd=>?_
 have hW:∀b∈[L,ce],C.h₀.get? b=none:=B9D hL0 hce0
 have B:=big (B0o O F hk hW) rfl 30
 have sc:fdr.scope=A0u.2.2:=R.scope
 have names:fdr.scope.names=([("size",.local),("sign",.local),("left",.free)]:List (Str×NameKind)):=by rw [sc]; exact A4o
 refine wpAny_call (codeAny_call_def (A0v hR) hrd rfl (O.H.nolimit.keeps hk) (R.code.keeps hk) R.body (B3q R) (names▸ac nofun (ac nofun (ac nofun an))) (ac (names▸rfl) an) (fun h₁ hns hk1=>?_) (by rw [sc]; kernel_rfl) (by rw [sc]; kernel_rfl) (by rw [sc]; kernel_rfl))
 refine anyQ (T:=Q) (fun _ _ h=>h) (fun _ h=>h) fun Qf Ef hQ hN=>?_
 refine B.ss (fi:=⟨callEnv fdr s.heap.objs.size rd,A2c,[ce]⟩) (B5L T (B1l hT)) (hR.le (m:=31) rfl).deep (k:=30) B5H _ _ _ _ (B1m R hce hcd hL hT hl hW hns hk1) fun φ' s' rf e I' fr=>?_
 cases fr with
 | ret hv=>
 obtain ⟨u,rfl⟩:=A5I hv
 have e0:φ' 0=L:=e 0 Nat.one_pos
 refine e2a3 (I'.get (i:=0) (o:=.list [.str (T.drop 1)]) rfl) fun vs k' g1 r1 _=>?_
 refine e2a3 (I'.cel 0 ce rfl) fun oc' cv c1 c2 c3=>?_
 refine e1a2 (c3 (.ref 0) rfl nofun) fun rv c4 c5=>?_
 have t1:A0b C.ρ (T.take 1)=⟨(T.take 1).toArray⟩:=A4e fun c hc=>hT c (List.mem_of_mem_take hc)
 have t2:A0b C.ρ (T.drop 1)=⟨(T.drop 1).toArray⟩:=A4e fun c hc=>hT c (List.mem_of_mem_drop hc)
 rw [e0] at g1
 rw [c4,A1a c5,e0] at c2
 refine hQ _ _ ?_
 refine C1A (p:=fun vs=>s'.heap.get? L=some (A0k vs k')→Q (.str (A0b C.ρ (T.take 1)) u) s') r1 (fun x hx g1=>?_) g1
 obtain ⟨u',rfl⟩:=A5I hx
 rw [show A0b (C.at s [L,ce]).ρ (T.drop 1)=_ from t2] at g1
 rw [t1]
 exact q s' u u' k' I'.near g1 ⟨oc',c1,c2⟩
end
end Mine
end
section
namespace Mine
open PySem PySem.W PyProof.Rows PySem.W.X
noncomputable def A9:Around:=⟨none,960,none,none,9600⟩
theorem B8v {α:Type} {M:Model} {A:Around} {t:Sem α} {Q:α→Shared→Prop} {E:Value→Shared→Prop} {s:Shared} (hR:Room A 30) (h:wpAny M ⟨none,960,none,none,9600⟩ t Q E s):wpAny M A t Q E s:=fun Γ p hΓ=>by
 have:=hR.depth
 have:=hR.units
 refine h Γ p ⟨?_,?_,?_,?_,?_⟩
 ·
  rw [hΓ.1]; exact hR.handled
 ·
  exact Nat.le_trans hΓ.2.1 (by show A.depth≤960; lia)
 ·
  intro l hl; cases hl
 ·
  intro g hg; cases hg
 ·
  exact Nat.le_trans hΓ.2.2.2.2 (by show A.units≤9600; lia)
local macro_rules | `(tactic| x_close)=>`(tactic| exact ⟨rfl,rfl,rfl⟩)
theorem B9E {prog:Program} {w:World} {s:Shared} {st sd rd:Addr} {fd:FuncData} {k tk:Tok} {hk:Int} (h1:s.heap.get? st=some ⟨.type "function",some sd,.func fd,#[]⟩) (h2:s.heap.get? sd=some ⟨.type "dict",none,.dict #[⟨hk,.str "read" k,.ref rd⟩] 1,#[]⟩):
  wpAny (model prog w) ⟨none,960,none,none,9600⟩ (call (.builtin "object.__getattribute__") [.ref st,.str "read" tk]) (fun v s'=>v=.ref rd∧s'.heap=s.heap∧s'=s) (fun _ _=>False) s:=by
 x_run
theorem C2v:typeLookup (.type "function") "__getattribute__" = pure (some (.builtin "object.__getattribute__")):=by rw [typeLookup_type,builtinLookup_eq_fast]; kernel_rfl
theorem C4i:typeLookup (.type "function") "__getattr__" = pure none:=by rw [typeLookup_type,builtinLookup_eq_fast]; kernel_rfl
theorem C4j:typeLookup (.type "function") "read" = pure none:=by rw [typeLookup_type,builtinLookup_eq_fast]; kernel_rfl
theorem B9F:typeOf (.builtin "object.__getattribute__")=pure (.type "wrapper_descriptor"):=by show builtinType _=_; rw [builtinType_eq_fast]; kernel_rfl
theorem B9G (v:Value):bindSpecial (.builtin "object.__getattribute__") v=pure (.builtin "object.__getattribute__",[v]):=by
 unfold bindSpecial
 rw [B9F]
 rfl
section
variable {C:Cx} {A:Around} {s:Shared}
theorem A9j {st sd rd:Addr} {fd:FuncData} {k:TH} {pl:Sem Bool} {E:Value→Shared→Prop} {Q:Value×List Value→Shared→Prop} (hR:Room A 30) (h1:s.heap.get? st=some ⟨.type "function",some sd,.func fd,#[]⟩) (h2:s.heap.get? sd=some (B1k C.w.params rd k))
  (q:∀t,Q (.ref rd,[]) { s with toks:=t }):wpAny (MM C) A (getMethod (.ref st) "read" pl) Q E s:=by
 have L:Looks (MM C) s.heap (typeOf (.ref st)) (.type "function"):=(Looks.ld (part:=none) h1).andThen .now
 have hcan:=PySem.F.canon_object_ga
 unfold getMethod specialOf
 refine wpAny_bind (wpAny_bind (L.here ?_))
 rw [C2v]
 refine wpAny_pure ?_
 dsimp only
 rw [hcan,if_neg (by decide)]
 refine wpAny_bind (wpAny_bind (L.here ?_))
 rw [C4i]
 refine wpAny_pure ?_
 simp only [Option.isSome_none,Bool.false_eq_true,if_false]
 refine wpAny_bind (wpAny_bind (L.here ?_))
 rw [C4j]
 refine wpAny_pure ?_
 dsimp only
 refine wpAny_bind ?_
 unfold getAttr getAttrBy
 refine wpAny_bind (wpAny_mkText (wpAny_holding (wpAny_bind (L.at ?_))))
 rw [C2v]
 refine wpAny_bind (wpAny_pure ?_)
 dsimp only
 rw [if_neg (by decide)]
 unfold getAttrByItsOwn
 refine wpAny_bind (wpAny_pure ?_)
 refine wpAny_bind (wpAny_attempt (wpAny_holding ?_))
 show wpAny _ _ (boundAndCalled _ _ _) _ _ _
 unfold boundAndCalled
 rw [B9G]
 refine wpAny_bind (wpAny_pure ?_)
 refine wpAny_mono (B8v hR (B9E (s:={ s with toks:=s.toks + 1 }) h1 h2)) (fun v s' h=>?_) fun _ _ h=>h.elim
 obtain ⟨rfl,_,rfl⟩:=h
 show wpAny _ _ (handedOut (.ref rd)) _ _ _
 rw [show handedOut (.ref rd)=pure (.ref rd) from rfl]
 exact wpAny_pure (wpAny_pure (q _))
end
end Mine
end
section
namespace Mine
open PySem PySem.W PyProof.Rows
section
variable {C:Cx} {fi:Fi} {φ φ':Nat→Addr} {X X':List (Addr×Obj)} {σ σ' σ₁ σ₂ σ₃:St} {s s' s₁:Shared} {A:Around} {E Q:Value→Shared→Prop} {W:List Addr}
theorem Inv.rehold (H:C.Ok) (I:Inv C fi φ X σ s) (hn:Near (X.map (·.1)) s s') (hX:X'.map (·.1)=X.map (·.1)) (hx:∀p∈X',s'.heap.get? p.1=some p.2):Inv C fi φ X' σ s':=by
 have I0:Inv C fi φ (X ++ []) σ { s with gens:=s'.gens }:=by
  rw [List.append_nil]
  exact { I with
   gens:=by
    refine e1a2 I.gens fun m e h=>?_
    refine e1a2 hn.gens fun m' e' h'=>?_
    exact ⟨m ++ m',by show s'.gens=_; rw [e',e,Array.append_assoc],A0m h h'⟩ }
 have apart:∀b∈X.map (·.1),C.h₀.get? b=none∧(∀i∈A0c σ.hp,φ i≠b)∧b∉fi.env.locals::fi.cad:=fun b hb=>by
  have z:=I.off b (by unfold Fi.ads; exact List.mem_append_right _ hb)
  exact ⟨z.1,z.2,fun hm=>I.apart b hm hb⟩
 have I1:Inv C fi φ [] σ s':=I0.loose.keepsBut H (X.map (·.1)) (fun b hb=>⟨(apart b hb).1,(apart b hb).2.1,fun hm=>by
  unfold Fi.ads at hm
  rw [List.map_nil,List.append_nil] at hm
  exact (apart b hb).2.2 hm⟩) (fun b o hb e=>hn.keep b o hb e) rfl hn.drawn hn.os
 have I2:=I1.hold (Y:=X') fun p hp=>by
  have hm:p.1∈X.map (·.1):=by rw [←hX]; exact List.mem_map_of_mem hp
  exact ⟨(apart _ hm).1,hx p hp,(apart _ hm).2.1,(apart _ hm).2.2⟩
 rw [List.append_nil] at I2
 exact I2
theorem B3r {P:Params}:plainOver (KH P) 52=true:=by kernel_rfl
theorem B1n {P:Params}:takerIn (KH P) 52 "lineno" = some none:=by kernel_rfl
theorem C2w {P:Params}:(PySem.W.clsIn (KH P) 52).any (·.hasDict)=true:=by kernel_rfl
theorem B5N {P:Params} {line i:Int} {st pb:Addr} {k:Nat→TH} {t u:Tok}:Obj.putName "lineno" (PyData.keyHash P "lineno") (.str "lineno" t) (.int i u) (lexD P line st pb k)=lexD P i st pb (fun j=>if j=1 then (u,(k 1).2) else k j):=by
 kernel_rfl
theorem C2x {P:Params}:findIn (KH P) (.ref 52) "__setattr__" = some (some (.builtin "object.__setattr__")):=by kernel_rfl
theorem B5O {x d st pb:Addr} {line i:Int} {k:Nat→TH} {u:Tok} (X:(KH C.w.params).In s.heap) (h1:s.heap.get? x=some (lexI d)) (h2:s.heap.get? d=some (lexD C.w.params line st pb k)) {Q:Unit→Shared→Prop} (q:∀s' k',Near [d] s s'→s'.heap.get? d=some (lexD C.w.params i st pb k')→Q () s'):
  wpAny (MM C) A (setAttr (.ref x) "lineno" (.int i u)) Q E s:=by
 have IA:=A3A h1 h2
 refine set_plain X IA C2x (osa_open (s:={ s with toks:=s.toks + 1 }) X IA B3r B1n fun b=>?_)
 refine e1a2 (any_some (C2w (P:=C.w.params))) fun cd hc hd'=>?_
 have Lc:=looks_clsIn (M:=MM C) X hc
 obtain ⟨hh,g,dr,t,os⟩:=s
 dsimp only at h1 h2 X Lc ⊢
 refine wpAny_bind (wpAny_pure (wpAny_bind (wpAny_bind (wpAny_loadPart h1 (wpAny_bind (Lc.at ?_))))))
 rw [hd']
 refine wpAny_pure (a:=some d) (wpAny_bind (wpAny_pure (wpAny_bind ?_)))
 unfold nsSet
 refine wpAny_bind (wpAny_bind (wpAny_askSetting (wpAny_pure (wpAny_bind (wpAny_mkText (wpAny_bind (wpAny_loadPart h2 ?_)))))))
 have hk:∀es n,(lexD C.w.params line st pb k).data=.dict es n→aRefKeyMayBeTheName "lineno" es=false:=by
  intro es n e
  cases e
  rw [aRefKeyMayBeTheName_at]; kernel_rfl
 show wpAny _ _ (if aRefKeyMayBeTheName _ _=true then _ else _) _ _ _
 rw [hk _ _ rfl,if_neg (by decide)]
 refine wpAny_updatePart h2 ?_
 have e':(hh.update d (Obj.putName "lineno" (PyData.keyHash C.w.params "lineno") (.str "lineno" (t + 1)) (.int i u))).get? d=some (lexD C.w.params i st pb (fun j=>if j=1 then (u,(k 1).2) else k j)):=by
  rw [←B5N (line:=line) (t:=t + 1)]
  exact Heap.get?_update_self _ h2 rfl
 refine wpAny_bind (wpAny_lookBehind e' (pastItsLine_dict (by show 4≤sizeLine + 1; rw [sizeLine_eq]; lia)) (wpAny_pure ?_))
 refine q _ _ ⟨fun b o hb e=>?_,.same rfl,rfl,rfl⟩ e'
 exact (Heap.get?_update_ne _ _ _ _ (fun z=>hb (by rw [z]; simp))).trans e
end
end Mine
end
section
namespace Mine
open PySem PySem.W PyProof.Rows
noncomputable def fd35 (P:Params):FuncData:=fdAt (KH P) 35
noncomputable def ps (a b c d:Nat):Pos:=⟨a,b,c,d⟩
noncomputable def s1rc:PySem.Stmt:=.Assign [.Name "ch" (ps 11 8 11 10)] (.Call (.Attribute (.Attribute (.Name "self" (ps 11 13 11 17)) "instream" (ps 11 13 11 26)) "read" (ps 11 13 11 31)) [.Constant (.int 1) 0 (ps 11 32 11 33)] [] (ps 11 13 11 34)) (ps 11 8 11 34)
noncomputable def t2rc:PySem.Expr:=.Compare (.Name "ch" (ps 12 11 12 13)) [.Eq] [.Constant (.str "\n") 0 (ps 12 17 12 21)] (ps 12 11 12 21)
noncomputable def b2rc:PySem.Stmt:=.AugAssign (.Attribute (.Name "self" (ps 13 12 13 16)) "lineno" (ps 13 12 13 23)) .Add (.Constant (.int 1) 0 (ps 13 27 13 28)) (ps 13 12 13 28)
noncomputable def s2rc:PySem.Stmt:=.If t2rc [b2rc] [] (ps 12 8 13 28)
noncomputable def s3rc:PySem.Stmt:=.Return (some (.Name "ch" (ps 14 15 14 17))) (ps 14 8 14 17)
theorem C2y (P:Params):A0Y (fd35 P)=[s1rc,s2rc,s3rc]:=by kernel_rfl
noncomputable def cx35 (P:Params):Ctx:=A0i (fd35 P).scope
theorem B8w (P:Params):NmE (cx35 P) (.loc 0) "self" := ⟨by kernel_rfl,by kernel_rfl⟩
theorem ch35 (P:Params):NmE (cx35 P) (.loc 1) "ch" := ⟨by kernel_rfl,by kernel_rfl⟩
theorem tg35 (P:Params):TgN (cx35 P) (.loc 1) "ch" := ⟨by kernel_rfl,by kernel_rfl⟩
theorem tr35 (P:Params):TrE 9 (cx35 P) (.cmp .eq (.loc 1) (.lit (.str [10]))) t2rc:=A9I (by kernel_rfl) (by kernel_rfl)
theorem C2z (P:Params):(cx35 P).locs=(["self", "ch"]:List Str):=by kernel_rfl
theorem B9H (P:Params):B1j (KH P) 35 ["self"]=true:=by kernel_rfl
theorem C2A (P:Params) (s:Shared) (v:Value):BindsTo s (fd35 P) ⟨[v],[]⟩ [(("self" : Str),v)]:=BindsTo.of_eq (by kernel_rfl)
noncomputable def A4p (line:Int) (T:List Nat):Int:=match T with | []=>line | c::_=>match Nat.beq c 10 with | true=>line + 1 | false=>line
section
variable {C:Cx} {fi:Fi} {φ φ':Nat→Addr} {X X':List (Addr×Obj)} {σ σ' σ₁ σ₂ σ₃:St} {s s' s₁:Shared} {A:Around} {E Q:Value→Shared→Prop} {W:List Addr}
theorem B5P (T:List Nat) (hT:∀c∈T,c < symB) {v:V}:run [] 20 (.t (.cmp .eq (.loc 1) (.lit (.str [10])))) ⟨[v,.str (T.take 1)],[],[],1⟩=some (.b (seq (T.take 1) [10]),⟨[v,.str (T.take 1)],[],[],1⟩):=by
 have hs:A0F (T.take 1) [10]=true:=by
  unfold A0F
  have:(T.take 1).all (fun c=>Nat.blt c symB)=true:=List.all_eq_true.mpr fun c hc=>Nat.ble_eq_true_of_le (hT c (List.mem_of_mem_take hc))
  rw [this]; rfl
 have e:run [] 20 (.t (.cmp .eq (.loc 1) (.lit (.str [10])))) ⟨[v,.str (T.take 1)],[],[],1⟩=(gd (A0F (T.take 1) [10]) (some (seq (T.take 1) [10]))).bind fun b=>some (.b b,⟨[v,.str (T.take 1)],[],[],1⟩):=by kernel_rfl
 rw [e,hs]; rfl
theorem B1o (line:Int) (T:List Nat):A4p line T=match seq (T.take 1) [10] with | true=>line + 1 | false=>line:=by
 cases T with
 | nil=>rfl
 | cons c r=>
  show (match Nat.beq c 10 with | true=>line + 1 | false=>line)=match (match Nat.beq c 10 with | true=>true | false=>false:Bool) with | true=>line + 1 | false=>line
  cases Nat.beq c 10 with
  | true=>rfl
  | false=>rfl
end
structure RcG where
 (C:Cx) (s:Shared) (A:Around) (hs:Heap) (D:LexD) (T:List Nat) (line:Int)
 W:WOk C hs
 O:OkC C
 F:A0X C
 hk:∀b o,C.h₀.get? b=some o→s.heap.get? b=some o
 R:A2W C.w.params C.h₀ s.heap T line D
 h0:∀b∈D.W,C.h₀.get? b=none
 nd:(D.x::D.W).Nodup
 room:Room A 60
noncomputable def RcG.c (G:RcG):Cx:=G.C.at G.s G.D.W
noncomputable def RcG.fi (G:RcG):Fi:=⟨callEnv (fd35 G.C.w.params) G.s.heap.objs.size 35,cx35 G.C.w.params,[]⟩
noncomputable def RcG.A1 (G:RcG):Around:=G.A.deeper G.fi.env
noncomputable def RcG.X (G:RcG) (T:List Nat) (line:Int) (k:Nat→TH) (tk:Tok) (kk:Nat) (oc:Obj):List (Addr×Obj):=[(G.D.d,lexD G.C.w.params line G.D.st G.D.pl k),(G.D.li,A0k [.str ⟨T.toArray⟩ tk] kk),(G.D.ce,oc)]
structure RcG.Stt (G:RcG) (T:List Nat) (line:Int) (σ:St) (φ:Nat→Addr) (s:Shared):Prop where
 ex:∃k tk kk oc,Inv G.c G.fi φ (G.X T line k tk kk oc) σ s∧oc.data=.cell (some (.ref G.D.li))
 x:φ 0=G.D.x
noncomputable def rc0:St:=⟨[.ref 0,.unb],[],[],1⟩
noncomputable def rc1 (T:List Nat):St:=⟨[.ref 0,.str (T.take 1)],[],[],1⟩
section
variable (G:RcG) {φ:Nat→Addr} {s s':Shared} {T:List Nat} {line:Int} {σ:St} {k:Nat→TH} {tk:Tok} {kk:Nat} {oc:Obj} {E:Value→Shared→Prop} {Q:Flow→Shared→Prop}
theorem RcG.ok:OkC G.c:=B3n G.O G.hk G.h0
theorem RcG.kC:∀b o,G.C.h₀.get? b=some o→G.c.h₀.get? b=some o:=Cx.at_keep G.hk G.h0
theorem RcG.up (I:Inv G.c G.fi φ (G.X T line k tk kk oc) σ s):∀b o,G.C.h₀.get? b=some o→s.heap.get? b=some o:=fun b o e=>I.keep b o (G.kC b o e)
theorem RcG.K (I:Inv G.c G.fi φ (G.X T line k tk kk oc) σ s):(KH G.C.w.params).In s.heap:=G.W.K.keeps (G.up I)
theorem RcG.hx (I:Inv G.c G.fi φ (G.X T line k tk kk oc) σ s):s.heap.get? G.D.x=some (lexI G.D.d):=I.keep _ _ (hideAll_get _ G.R.hx (List.nodup_cons.mp G.nd).1)
theorem RcG.inst (I:Inv G.c G.fi φ (G.X T line k tk kk oc) σ s):InstAt s.heap G.D.x (lexI G.D.d) 52 (some (lexD G.C.w.params line G.D.st G.D.pl k)):=A3A (G.hx I) (I.xs (G.D.d,_) (.head _))
theorem RcG.hold (I:Inv G.c G.fi φ (G.X T line k tk kk oc) σ s) {T':List Nat} {line':Int} {k':Nat→TH} {tk':Tok} {kk':Nat} {oc':Obj} (nn:Near G.D.W s s')
  (h1:s'.heap.get? G.D.d=some (lexD G.C.w.params line' G.D.st G.D.pl k')) (h2:s'.heap.get? G.D.li=some (A0k [.str ⟨T'.toArray⟩ tk'] kk')) (h3:s'.heap.get? G.D.ce=some oc'):Inv G.c G.fi φ (G.X T' line' k' tk' kk' oc') σ s':=
 I.rehold G.ok.H nn rfl (ac h1 (ac h2 (ac h3 an)))
theorem RcG.d1:G.D.d∉[G.D.li,G.D.ce]:=(List.nodup_cons.mp (List.nodup_cons.mp G.nd).2).1
theorem RcG.start {h₁:Heap} (hns:h₁.Ns G.fi.env.locals fun x=>(([("self",.ref G.D.x)]:List (Str×Value)).lookup x)) (hk1:∀b o,G.s.heap.get? b=some o→h₁.get? b=some o):G.Stt G.T G.line rc0 (fun _=>G.D.x) { heap:=h₁,gens:=G.s.gens,drawn:=G.s.drawn,toks:=G.s.toks + 1,os:=G.s.os }:=by
 have hfree:=A0e G.s.heap
 have R35:=A2B G.W.K (B9H G.C.w.params)
 have I0:Inv G.c G.fi (fun _=>G.D.x) [] rc0 { heap:=h₁,gens:=G.s.gens,drawn:=G.s.drawn,toks:=G.s.toks + 1,os:=G.s.os }:=by
  refine A4B G.h0 (R35.env _) hfree hk1 hns .nil an an an .nil an (fun y kx v h1 h2 h3=>?_) nofun an rfl rfl rfl
  have h1:at? (cx35 G.C.w.params).locs y=some kx:=h1
  rw [C2z] at h1
  have hy:=A1C h1
  cases kx with
  | zero=>exact ⟨.ref G.D.x,by rw [←Option.some.inj hy]; rfl,Option.some.inj h2▸.ref 0 Nat.one_pos⟩
  | succ n=>cases n with
   | zero=>exact absurd (Option.some.inj h2).symm h3
   | succ n=>exact A0a hy
 have new:∀{b:Addr} {o:Obj},G.s.heap.get? b=some o→b∈G.D.W→G.c.h₀.get? b=none∧h₁.get? b=some o∧(∀i∈A0c rc0.hp,G.D.x≠b)∧b∉G.fi.env.locals::G.fi.cad:=fun e m=>⟨hideAll_none _ m,hk1 _ _ e,an,fun h=>A0a (hfree.symm.trans (List.mem_singleton.mp h▸e))⟩
 refine e1a2 G.R.hce fun oc c1 c2=>?_
 have Ix:=I0.hold (Y:=G.X G.T G.line G.D.k G.D.tk G.D.kk oc) (ac (new G.R.hd (.head _)) (ac (new G.R.hli (.tail _ (.head _))) (ac (new c1 (.tail _ (.tail _ (.head _)))) an)))
 rw [List.append_nil] at Ix
 exact ⟨⟨_,_,_,oc,Ix,c2⟩,rfl⟩
theorem RcG.t1:A0b G.C.ρ (G.T.take 1)=⟨(G.T.take 1).toArray⟩:=A4e fun c hc=>G.R.sm c (List.mem_of_mem_take hc)
theorem RcG.room1:Room G.A1 50:=(G.room.le (m:=51) rfl).deep
theorem RcG.read (S:G.Stt G.T G.line rc0 φ s) (q:∀φ' s',G.Stt (G.T.drop 1) G.line (rc1 G.T) φ' s'→Q .next s'):wpAny (MM G.C) G.A1 (exec s1rc G.fi.env) Q E s:=by
 obtain ⟨⟨k,tk,kk,oc,I,oc1⟩,ex⟩:=S
 refine wpAny_Assign_Name (A4T rfl (fun _=>rfl) (Attribute_name (A1s G.ok (B8w G.C.w.params) (r:=run [] 1) (v:=.ref 0) rfl I fun φ1 s1 r1 e1 I1 v1=>?_)))
 have ex1:φ1 0=G.D.x:=(e1 0 Nat.one_pos).trans ex
 rw [A1a v1,ex1]
 refine get_value (G.K I1) (G.inst I1) ga52 C4h rfl fun pl=>?_
 refine A9j (C:=G.C) (G.room1.le rfl) (s:={ s1 with toks:=s1.toks + 1 }) (G.up I1 _ _ G.R.hst) (G.up I1 _ _ G.R.hsd) fun t2=>?_
 refine Calls.callWith_function (o:=⟨.type "function",none,.func G.D.fdr,#[]⟩) (fd:=G.D.fdr) (A0y (Calls.spliced_cons (wpAny_Constant_int (Calls.spliced_nil ⟨⟨G.up I1 _ _ G.R.hrd,rfl⟩,?_⟩))))
 refine B5M (C:=G.C) G.O G.F (s:={ s1 with toks:=t2 + 1 }) (fun b o e=>G.up I1 b o e) G.R.rf (G.up I1 _ _ G.R.hrd) ⟨oc,I1.xs (G.D.ce,_) (.tail _ (.tail _ (.head _))),oc1⟩ (I1.xs (G.D.li,_) (.tail _ (.head _))) G.R.sm G.R.len (G.h0 _ (.tail _ (.tail _ (.head _)))) (G.h0 _ (.tail _ (.head _))) (G.room1.le rfl) fun s2 u tk2 kk2 n2 g2 ⟨oc2,c2,cd2⟩=>?_
 have n3:Near G.D.W s1 s2:=⟨fun b o hb e=>n2.keep b o (fun h=>hb (.tail _ h)) e,n2.gens,n2.drawn,n2.os⟩
 have I2:=G.hold I1 n3 (n2.keep _ _ G.d1 (I1.xs (G.D.d,_) (.head _))) g2 c2
 exact A0Q G.ok (tg35 G.C.w.params) (σ':=rc1 G.T) rfl I2 (G.t1▸VR.str (ρ:=G.C.ρ) (φ:=φ1) (n:=1) (G.T.take 1) u (Nat.le_trans (List.length_take_le _ _) (Nat.le_of_ble_eq_true rfl))) fun s3 I3=>q _ _ ⟨⟨_,_,_,oc2,I3,cd2⟩,ex1⟩
theorem RcG.count (S:G.Stt T G.line (rc1 G.T) φ s) (q:∀φ' s',G.Stt T (A4p G.line G.T) (rc1 G.T) φ' s'→Q .next s'):wpAny (MM G.C) G.A1 (exec s2rc G.fi.env) Q E s:=by
 obtain ⟨⟨k,tk,kk,oc,I,oc1⟩,ex⟩:=S
 have B:=big (B0o G.O G.F G.hk G.h0) rfl 20
 refine wpAny_If (B.t (fi:=G.fi) (B5P G.T G.R.sm) (G.room1.le rfl) (tr35 G.C.w.params) φ s _ _ I fun φ4 s4 e4 I4=>?_)
 have ex4:φ4 0=G.D.x:=(e4 0 Nat.one_pos).trans ex
 rw [B1o] at q
 generalize seq (G.T.take 1) [10]=b at q ⊢
 cases b with
 | false=>exact wpAny_execs_nil (q φ4 s4 ⟨⟨k,tk,kk,oc,I4,oc1⟩,ex4⟩)
 | true=>
  refine wpAny_execs_cons (wpAny_AugAssign_AttributeAny (A1s G.ok (B8w G.C.w.params) (r:=run [] 1) (v:=.ref 0) rfl I4 fun φ5 s5 r5 e5 I5 v5=>?_))
  have ex5:φ5 0=G.D.x:=(e5 0 Nat.one_pos).trans ex4
  rw [A1a v5,ex5]
  refine get_value (G.K I5) (G.inst I5) ga52 B3l rfl ?_
  refine wpAny_Constant_int ?_
  refine A5N G.ok.H (b:=.add) (a:=.int G.line) (c:=.int 1) (v:=.int (G.line + 1)) rfl (σ':=rc1 G.T) rfl ((I5.toks G.ok.H (s5.toks + 1)).toks G.ok.H (s5.toks + 1 + 1)) (.int _ _) (.int _ _) fun φ7 s7 r7 e7 I7 v7=>?_
  obtain ⟨t7,rfl⟩:=B1Z v7
  refine B5O (G.K I7) (G.hx I7) (I7.xs (G.D.d,_) (.head _)) fun s8 k8 n8 g8=>?_
  have nk:∀{b o},b∈[G.D.li,G.D.ce]→s7.heap.get? b=some o→s8.heap.get? b=some o:=fun m e=>n8.keep _ _ (fun hm=>G.d1 (List.mem_singleton.mp hm▸m)) e
  refine wpAny_execs_nil (q φ7 s8 ⟨⟨_,_,_,oc,G.hold I7 (n8.mono fun b hb=>List.mem_singleton.mp hb▸.head _) g8 (nk (.head _) (I7.xs (G.D.li,_) (.tail _ (.head _)))) (nk (.tail _ (.head _)) (I7.xs (G.D.ce,_) (.tail _ (.tail _ (.head _))))),oc1⟩,(e7 0 Nat.one_pos).trans ex5⟩)
theorem RcG.call {Q:Value→Shared→Prop} (q:∀s' u k tk kk,Near G.D.W G.s s'→A2W G.C.w.params G.C.h₀ s'.heap (G.T.drop 1) (A4p G.line G.T) { G.D with k:=k,tk:=tk,kk:=kk }→Q (.str ⟨(G.T.take 1).toArray⟩ u) s'):
  codeAny (MM G.C) G.A (.call (.ref 35) ⟨[.ref G.D.x],[]⟩) (fun r s'=>match r with | .ok (.ret v)=>Q v s' | .ok _=>False | .error e=>E e s') G.s:=by
 have R35:=A2B G.W.K (B9H G.C.w.params)
 refine e1a2 R35.obj fun o35 h35 d35=>?_
 refine codeAny_call_def (A0v G.room) (G.hk _ _ h35) d35 (G.O.H.nolimit.keeps G.hk) (R35.code.keeps G.hk) R35.body (C2A _ _ _) R35.cell (ac (R35.loc _ (.head _)) an) (fun h₁ hns hk1=>?_) R35.co R35.gen R35.kind
 refine anyQ (T:=fun v s'=>v≠.none∧Q v s') (fun _ _ h=>h.2) (fun _ h=>absurd rfl h.1) fun Qf Ef hQ hN=>?_
 rw [show A0Y (fdAt (KH G.C.w.params) 35)=_ from C2y G.C.w.params]
 refine wpAny_execs_cons (G.read (G.start hns hk1) fun φ1 s1 S1=>wpAny_execs_cons (G.count S1 fun φ2 s2 S2=>wpAny_execs_cons (wpAny_Return_some ?_)))
 obtain ⟨⟨k,tk,kk,oc,I,oc1⟩,ex⟩:=S2
 refine A1s G.ok (ch35 G.C.w.params) (r:=run [] 1) (v:=.str (G.T.take 1)) rfl I fun φ5 s5 r5 e5 I5 v5=>?_
 obtain ⟨u5,rfl⟩:=A5I v5
 show Qf (.ret (.str (A0b G.C.ρ (G.T.take 1)) u5)) s5
 refine hQ _ _ ⟨nofun,?_⟩
 rw [G.t1]
 exact q s5 u5 k tk kk I5.near ⟨G.hx I5,I5.xs (G.D.d,_) (.head _),I5.xs (G.D.li,_) (.tail _ (.head _)),⟨oc,I5.xs (G.D.ce,_) (.tail _ (.tail _ (.head _))),oc1⟩,G.R.hst,G.R.hsd,G.R.hrd,G.R.rf,fun c hc=>G.R.sm c (List.mem_of_mem_drop hc),Nat.le_trans (by rw [List.length_drop]; exact Nat.sub_le _ _) G.R.len⟩
end
end Mine
end
section
namespace Mine
open PySem PySem.W PyProof.Rows
section
variable {C:Cx} {fi:Fi} {φ φ':Nat→Addr} {X X':List (Addr×Obj)} {σ σ' σ₁ σ₂ σ₃:St} {s s' s₁:Shared} {A:Around} {E Q:Value→Shared→Prop} {W:List Addr}
theorem B3s {hp:List (Nat×O)} {j:Nat} {o:O} (h:(A0c hp).Nodup) (hm:(j,o)∈hp):(j::own o).Nodup:=by
 have z:=h.sublist (A3i (List.singleton_sublist.mpr hm))
 rwa [show A0c [(j,o)]=j::own o from List.append_nil _] at z
theorem Inv.mapNd (I:Inv C fi φ X σ s) {l:List Nat} (nd:l.Nodup) (h:∀i∈l,i∈A0c σ.hp):(l.map φ).Nodup:=by
 rw [List.Nodup,List.pairwise_map]
 exact List.Pairwise.imp_of_mem (fun ha hb hne e=>hne (I.inj _ (h _ ha) _ (h _ hb) e)) nd
theorem B0p {hs:Heap} (W:WOk C hs) (O:OkC C) (F:A0X C) (I:Inv C fi φ X σ s) {j:Nat} {o:Mine.O} (hg:hget σ.hp j=some o) {T:List Nat} {line:Int} {pb:Nat} (x:A1M C.w.params hs φ σ.nx s.heap j T line pb (own o)) (hR:Room A 60)
  (q:∀s' u W',Near W' s s'→(∀b∈W',∃i∈j::own o,b=φ i)→A1M C.w.params hs φ σ.nx s'.heap j (T.drop 1) (A4p line T) pb (own o)→Q (.str ⟨(T.take 1).toArray⟩ u) s'):codeAny (MM C) A (.call (.ref 35) ⟨[.ref (φ j)],[]⟩) (fun r s'=>match r with | .ok (.ret v)=>Q v s' | .ok _=>False | .error e=>E e s') s:=by
 refine e1a4 x fun D R m p hp=>?_
 have inI:=A0s (A0l hg)
 have back:∀b∈D.W,∃i∈j::own o,b=φ i:=fun b hb=>let ⟨i,hi,e⟩:=List.mem_map.mp (m▸.tail _ hb:b∈(j::own o).map φ); ⟨i,hi,e.symm⟩
 let G:RcG:=⟨C,s,A,hs,D,T,line,W,O,F,I.keep,{ R with hst:=W.sub _ _ R.hst,hsd:=W.sub _ _ R.hsd,hrd:=W.sub _ _ R.hrd,rf:=R.rf.mono W.sub },fun b hb=>let ⟨i,hi,e⟩:=back b hb; e▸(I.live i (inI i hi)).1,m▸I.mapNd (B3s I.ids (A0l hg)) inI,hR⟩
 rw [A6O m]
 exact G.call fun s' u k tk kk nn R'=>q s' u D.W nn back ⟨_,{ R' with hst:=R.hst,hsd:=R.hsd,hrd:=R.hrd,rf:=R.rf },m,p,hp⟩
theorem A7V {hp:List (Nat×O)} {i:Nat} {o:O} (h:hget hp i=some o):hset hp i o=hp:=by
 induction hp with
 | nil=>exact A0a h
 | cons x r ih=>
  have h:(match Nat.beq x.1 i with | true=>some x.2 | false=>hget r i)=some o:=h
  show (match Nat.beq x.1 i with | true=>(x.1,o)::r | false=>x::hset r i o)=x::r
  cases q:Nat.beq x.1 i with
  | true=>rw [q] at h; rw [←Option.some.inj h]
  | false=>rw [q] at h; exact congrArg (x::·) (ih h)
theorem B5Q {c:Nat} (h:safe [c]=true):c < symB∨A5u c=true:=by
 unfold safe at h
 simp only [List.all_cons,List.all_nil,Bool.and_true,Bool.or_eq_true] at h
 exact h.elim (fun h=>.inl (A2b h)) fun h=>h.elim (fun h=>.inl (A5H h)) .inr
theorem A6P {a b:Nat} (h:a≠b):Nat.beq a b=false:=by
 cases e:Nat.beq a b with
 | false=>rfl
 | true=>exact absurd (Nat.eq_of_beq_eq_true e) h
theorem ch10 (S:A0n C.ρ) {c:Nat} (h:safe [c]=true):sv C.ρ [c]=[ch C.ρ c]∧Nat.beq (ch C.ρ c) 10=Nat.beq c 10:=by
 rcases B5Q h with h | h
 ·
  exact ⟨by rw [A5G h]; exact congrArg (· ++ []) (if_pos h),by rw [A5G h]⟩
 ·
  have hb:=A1e.mp h
  have e:=A7l S h
  refine ⟨(congrArg (· ++ []) (if_neg (Nat.not_lt.mpr hb.1))).trans (by rw [e]; rfl),?_⟩
  have pu:=S.pun (c - symB) _ (Nat.sub_lt_left_of_lt_add hb.1 hb.2) e
  rw [A6P fun z:ch C.ρ c=10=>notf (z▸pu:A3I 10=false),A6P fun z:c=10=>absurd (z▸hb.1) (by decide +kernel)]
theorem A7W (S:A0n C.ρ) {hp hp':List (Nat×O)} {j:Nat} {c t:List Nat} {l:Int} {p:Nat} {ow:List Nat} (h:A3K hp j=some (c,hp')) (hg:hget hp j=some (.lex t l p ow)):
  ∃r,hp'=hset hp j (.lex r (A4p l (sv C.ρ t)) p ow)∧sv C.ρ r=(sv C.ρ t).drop 1∧sv C.ρ c=(sv C.ρ t).take 1∧c.length≤1:=by
 unfold A3K at h
 rw [hg] at h
 dsimp only at h
 cases t with
 | nil=>
  have e:=Prod.mk.inj (Option.some.inj h)
  exact ⟨[],by rw [←e.2]; exact (A7V hg).symm,rfl,by rw [←e.1]; rfl,by rw [←e.1]; exact Nat.zero_le _⟩
 | cons d r=>
  dsimp only at h
  cases hs:safe [d] with
  | false=>rw [hs] at h; exact A0a h
  | true=>
   rw [hs] at h
   obtain ⟨e1,e2⟩:=ch10 S hs
   have e3:sv C.ρ (d::r)=ch C.ρ d::sv C.ρ r:=(A1r C.ρ [d] r).trans (by rw [e1]; rfl)
   have h:some ([d],hset hp j (.lex r (match Nat.beq d 10 with | true=>l + 1 | false=>l) p ow))=some (c,hp'):=by
    cases hb:Nat.beq d 10 with
    | true=>rw [hb] at h; exact h
    | false=>rw [hb] at h; exact h
   have e:=Prod.mk.inj (Option.some.inj h)
   refine ⟨r,?_,by rw [e3]; rfl,by rw [←e.1,e3]; exact e1,by rw [←e.1]; exact Nat.le_refl 1⟩
   rw [←e.2,e3,←e2]
   rfl
theorem Inv.readTurn {hs:Heap} (Wk:WOk C hs) (O:OkC C) (I:Inv C fi φ X σ s) {j p:Nat} {t ow c:List Nat} {l:Int} {hp:List (Nat×Mine.O)} (hg:hget σ.hp j=some (.lex t l p ow)) (hc:A3K σ.hp j=some (c,hp)) (nn:Near W s s') (hW:∀b∈W,∃i∈j::ow,b=φ i)
  (x:A1M C.w.params hs φ σ.nx s'.heap j ((sv C.ρ t).drop 1) (A4p l (sv C.ρ t)) p ow):Inv C fi φ X { σ with hp:=hp } s'∧(⟨((sv C.ρ t).take 1).toArray⟩:Str)=A0b C.ρ c∧c.length≤1:=by
 refine e1a4 (A7W O.S hc hg) fun r e1z e2 e3 e4=>?_
 subst e1z
 refine ⟨I.turnNear O.H hg (o':=.lex r (A4p l (sv C.ρ t)) p ow) rfl nn hW (B0n x) ?_,by unfold A0b; rw [e3],e4⟩
 show C.LX φ σ.nx s'.heap j (.lex r (A4p l (sv C.ρ t)) p ow)
 rw [Wk.LX]
 show A1M _ _ _ _ _ _ (sv C.ρ r) _ _ _
 rw [e2]
 exact x
theorem B5R {hs:Heap} (W:WOk C hs) (O:OkC C) (F:A0X C) {o v:V} {ro:Value} (hR:Room A 60) (hm:A1G .readChar σ o []=some (v,σ')) (I:Inv C fi φ X σ s) (hv:VR C.ρ φ σ.nx o ro) (q:Post C fi φ X σ σ' v Q):wpAny (MM C) A (call (.ref C.fread) [ro]) Q E s:=by
 refine A5h hm fun j t l p ow c hp ej hg hc ev es=>?_
 subst ej ev es
 rw [A1a hv,W.fread]
 have x:C.LX φ σ.nx s.heap j (.lex t l p ow):=I.get hg
 rw [W.LX] at x
 refine wpAny_call (B0p W O F I hg x hR fun s' u W' nn hW hx=>?_)
 refine e0a3 (I.readTurn W O hg hc nn hW hx) fun I' e e4=>?_
 rw [e]
 exact q φ s' _ (Ext.refl _ _) I' (.str c u (Nat.le_trans e4 (Nat.le_of_ble_eq_true rfl)))
end
end Mine
end
section
namespace Mine
open PySem PySem.W PyProof.Rows PySem.W.X
theorem B5S {h₀ h:Heap} {news:List (Addr×Obj)} (D:Mem h₀ h [] news):∀b o,h₀.get? b=some o→h.get? b=some o:=fun b o e=>D.keep b o e (by unfold away; simp)
theorem B1p {h:Heap} {g:Array GenState} {d:Drawn} {t t':Nat} {os:OsState} {h':Heap} {a m:Addr} {u:Tok} (D:Mem h h' [] [(a,⟨.type "callable_iterator",none,.fields #[.ref m,.str "" u,.bool false],#[]⟩)]):
  ∃a' u',Value.ref a=.ref a'∧Near [] ⟨h,g,d,t,os⟩ ⟨h',g,d,t',os⟩∧h.get? a'=none∧h'.get? a'=some ⟨.type "callable_iterator",none,.fields #[.ref m,.str "" u',.bool false],#[]⟩:=
 ⟨a,u,rfl,⟨fun b o _ e=>B5S D b o e,.same rfl,rfl,rfl⟩,(D.nw _ (.head _)).2,(D.nw _ (.head _)).1⟩
local macro_rules | `(tactic| x_close)=>`(tactic| exact B1p (by assumption))
theorem B5T {prog:Program} {w:World} {s:Shared} {m x:Addr} {u:Tok} (h1:s.heap.get? m=some ⟨.type "method",none,.fields #[.ref 35,.ref x],#[]⟩):
  wpAny (model prog w) ⟨none,960,none,none,9600⟩ (call (.builtin "iter") [.ref m,.str "" u]) (fun v s'=>∃a' u',v=.ref a'∧Near [] s s'∧s.heap.get? a'=none∧s'.heap.get? a'=some ⟨.type "callable_iterator",none,.fields #[.ref m,.str "" u',.bool false],#[]⟩) (fun _ _=>False) s:=by
 x_run
section
variable {C:Cx} {fi:Fi} {φ φ':Nat→Addr} {X X':List (Addr×Obj)} {σ σ' σ₁ σ₂ σ₃:St} {s s' s₁:Shared} {A:Around} {E Q:Value→Shared→Prop}
noncomputable def putF (φ:Nat→Addr) (n:Nat) (a b:Addr):Nat→Addr:=putAt (putAt φ n a) (n + 1) b
theorem A6Q {n i:Nat} {a b:Addr} (h:i < n):putF φ n a b i=φ i:=(if_neg (Nat.ne_of_lt (Nat.lt_succ_of_lt h))).trans (if_neg (Nat.ne_of_lt h))
theorem A6j {n:Nat} {a b:Addr}:putF φ n a b n=a:=(if_neg (Nat.ne_of_lt (Nat.lt_succ_self n))).trans (if_pos rfl)
theorem A6k {n:Nat} {a b:Addr}:putF φ n a b (n + 1)=b:=if_pos rfl
theorem Inv.addFit {hs:Heap} (W:WOk C hs) (O:OkC C) (I:Inv C fi φ X σ s) (nn:Near [] s s') {j:Nat} {a m:Addr} {u:Tok} (hj:j < σ.nx) (fa:s.heap.get? a=none) (fm:s.heap.get? m=none) (ne:a≠m) (ha:s'.heap.get? a=some ⟨.type "callable_iterator",none,.fields #[.ref m,.str "" u,.bool false],#[]⟩)
  (hm:s'.heap.get? m=some (methodObj (.ref 35) (.ref (φ j)))):Inv C fi (putF φ σ.nx a m) X { σ with hp:=(σ.nx,.fit j false [σ.nx + 1])::σ.hp,nx:=σ.nx + 2 } s':=by
 have I3:=(I.growNear O.H nn).more O.H (n':=σ.nx + 2) (φ':=putF φ σ.nx a m) (Nat.le_add_right _ 2) (fun i hi=>A6Q hi)
 have fr:∀i∈[σ.nx,σ.nx + 1],s.heap.get? (putF φ σ.nx a m i)=none:=ac (by rw [A6j]; exact fa) (ac (by rw [A6k]; exact fm) an)
 have z:=fun i hi=>A0J I (fr i hi)
 refine I3.add O.H (i:=σ.nx) (o:=.fit j false [σ.nx + 1]) (ac (p:=fun i=>i < σ.nx + 2) (Nat.lt_add_of_pos_right Nat.two_pos) (ac (Nat.lt_succ_self _) an)) (.cons (ac (Nat.ne_of_lt (Nat.lt_succ_self _)) an) (.cons an .nil))
  (ac (p:=fun i=>∀k∈[σ.nx,σ.nx + 1],putF φ σ.nx a m i=putF φ σ.nx a m k→i=k) (ac (fun _=>rfl) (ac (fun e=>absurd (A6j.symm.trans (e.trans A6k)) ne) an)) (ac (ac (fun e=>absurd (A6j.symm.trans (e.symm.trans A6k)) ne) (ac (fun _=>rfl) an)) an))
  (fun i hi=>⟨(z i hi).1,ac (p:=fun i=>∃ob,s'.heap.get? (putF φ σ.nx a m i)=some ob) ⟨_,by rw [A6j]; exact ha⟩ (ac ⟨_,by rw [A6k]; exact hm⟩ an) i hi⟩) (fun i hi k hk e=>(z i hi).2.1 k hk ((A6Q (I.low k hk)).symm.trans e)) (fun i hi hm=>(z i hi).2.2 hm) ?_
 show C.LX _ _ _ _ _
 rw [W.LX]
 refine ⟨u,σ.nx + 1,rfl,Nat.lt_add_right 2 hj,?_,?_⟩
 ·
  rw [A6j,A6k]; exact ha
 ·
  rw [A6k,A6Q hj]; exact hm
theorem B5U {hs:Heap} (W:WOk C hs) (O:OkC C) {o v:V} {y:Str} {p0 p1 p2 p3 pos:Pos} {k:Nat} (hgl:A0I fi.cx "iter" = true) (hR:Room A 60) (hm:A0C C fi A X σ σ₁ o (.Name y p1)) (hn:σ.nx≤σ₁.nx) (hb:builtin .iterRead σ₁ [o]=some (v,σ')) (I:Inv C fi φ X σ s) (q:Post C fi φ X σ σ' v Q):
  wpAny (MM C) A (eval (.Call (.Name "iter" p0) [.Attribute (.Name y p1) "_read_char" p2,.Constant (.str "") k p3] [] pos) fi.env) Q E s:=by
 refine A5i hb fun j t l p ow ej hg ev es=>?_
 subst ej ev es
 refine A7T O hgl hm I fun φ1 s1 ro e1 I1 v1=>?_
 have hj:=I1.low _ (A0L hg)
 refine e3a3 (B8t W I1 hg rfl) fun T line D R m _=>?_
 have X1:=W.K.keeps I1.keep
 refine e1a2 (f_rb (P:=C.w.params) (line:=line) (st:=D.st) (pb:=D.pl) (k:=D.k)) fun g hg1 hg2=>?_
 rw [A1a v1,A6O m]
 subst hg2
 refine get_bind X1 (A3A R.hx R.hd) ga52 hg1 gk52 (wpAny_call (fn_get (s:={ s1 with toks:=s1.toks + 1 }) X1 t35 ?_))
 show wpAny _ _ (handedOut (.ref s1.heap.objs.size)) _ _ _
 rw [show handedOut (.ref s1.heap.objs.size)=pure (.ref s1.heap.objs.size) from rfl]
 refine wpAny_pure ?_
 have hm1:(s1.heap.push (methodObj (.ref 35) (.ref D.x))).get? s1.heap.objs.size=some (methodObj (.ref 35) (.ref D.x)):=Heap.get?_push_size _ rfl
 refine wpAny_mono (B8v (hR.le rfl) (B5T hm1)) (fun w s3 hw=>?_) fun _ _ h=>h.elim
 refine e2a4 hw fun a u0 e2z nn hfree ha=>?_
 subst e2z
 have f1:s1.heap.get? a=none:=by
  cases e:s1.heap.get? a with
  | none=>rfl
  | some ob=>exact A0a (hfree.symm.trans (Heap.get?_push_of_some _ e))
 have I4:=I1.addFit W O (s':=s3) ⟨fun b ob hb e=>nn.keep b ob hb (Heap.get?_push_of_some _ e),nn.gens,nn.drawn,nn.os⟩ hj f1 (A0e s1.heap) (fun e=>A0a (hfree.symm.trans (e▸hm1))) ha (A6O m▸nn.keep _ _ nofun hm1)
 exact q _ s3 _ (fun i hi=>(A6Q (Nat.lt_of_lt_of_le hi hn)).trans (e1 i hi)) I4 (by
  have z:=VR.ref (ρ:=C.ρ) (φ:=putF φ1 σ₁.nx a s1.heap.objs.size) (n:=σ₁.nx + 2) σ₁.nx (Nat.lt_add_of_pos_right Nat.two_pos)
  rwa [A6j] at z)
end
end Mine
end
section
namespace Mine
open PySem PySem.W PyProof.Rows
theorem A4q:Slot "callable_iterator" "__iter__" "callable_iterator.__iter__" :=
 .of (owner := "callable_iterator") (n := "__iter__") (by rw [typeLookup_type,builtinLookup_eq_fast]; kernel_rfl) (by decide +kernel) (by decide +kernel) (by decide +kernel)
  (by first | exact .inl (by decide +kernel) | exact .inr (by decide +kernel)) (by rw [isSubtype_type]; kernel_rfl)
theorem A1g:Slot "callable_iterator" "__next__" "callable_iterator.__next__" :=
 .of (owner := "callable_iterator") (n := "__next__") (by rw [typeLookup_type,builtinLookup_eq_fast]; kernel_rfl) (by decide +kernel) (by decide +kernel) (by decide +kernel)
  (by first | exact .inl (by decide +kernel) | exact .inr (by decide +kernel)) (by rw [isSubtype_type]; kernel_rfl)
theorem A3B:entryFor table "callable_iterator.__next__" = some Builtin.«callable_iterator.__next__»:=entryFor_of_fast (by kernel_rfl)
theorem A6R:entryFor table "callable_iterator.__iter__" = some Builtin.«dict_keyiterator.__iter__»:=
 entryFor_alias (id' := "dict_keyiterator.__iter__") (by kernel_rfl) rfl (by decide +kernel) (by kernel_rfl)
theorem A7X (a:Value):argsOk "callable_iterator.__iter__" ⟨[a],[]⟩:=by unfold argsOk; kernel_rfl
theorem A4r (a:Value):argsOk "callable_iterator.__next__" ⟨[a],[]⟩:=by unfold argsOk; kernel_rfl
section
variable {C:Cx} {fi:Fi} {φ φ':Nat→Addr} {X X':List (Addr×Obj)} {σ σ' σ₁ σ₂ σ₃:St} {s s' s₁:Shared} {A:Around} {E:Value→Shared→Prop}
theorem B5V {hs:Heap} (W:WOk C hs) {Q:Value→Shared→Prop} {j lx:Nat} {d:Bool} {ow:List Nat} (hg:hget σ.hp j=some (.fit lx d ow)) (I:Inv C fi φ X σ s) (q:Q (.ref (φ j)) s):wpAny (MM C) A (pyIter (.ref (φ j))) Q E s:=by
 have x:C.LX φ σ.nx s.heap j (.fit lx d ow):=I.get hg
 rw [W.LX] at x
 refine e2a4 x fun f m e2z hl h1 h2=>?_
 subst e2z
 have ht:s.TypeIs (.ref (φ j)) "callable_iterator" := ⟨_,h1,rfl⟩
 refine wpAny_pyIter_slot ht A4q (wpAny_call_entry A4q ht A6R ?_ (A7X _))
 show wpAny _ _ (ret (.ref (φ j))) _ _ s
 exact wpAny_pure ⟨_,rfl, "callable_iterator",_,ht,A1g.lookup,q⟩
theorem B9I {α:Type} {M:Model} {c:Code} {g:Bool} {l:List Value} {k:Result→Sem α} {Q:α→Shared→Prop} (hc:codeAny M A c (fun r s'=>wpAny M A (k r) Q E s') s):wpAny M A (.call c none g l k) Q E s:=fun Γ p hΓ=>by
 rw [Sem.wp_call]
 have h:=hc (Γ.enter c none p) p rfl (hΓ.enter c none p (by intro x; cases x))
 exact wpCode_mono (fun r s' h=>h Γ p hΓ) h
theorem B3t {α:Type} {M:Model} {a:Addr} {p:Option Value} {f:Obj→Obj} {k:Unit→Sem α} {o:Obj} {Q:α→Shared→Prop} (ho:s.heap.get? a=some o) (h:wpAny M A (k ()) Q E { s with heap:=s.heap.update a f }):wpAny M A (.update a p f k) Q E s:=
 fun Γ q hΓ=>⟨by rw [ho]; rfl,h Γ q hΓ⟩
theorem B3u {α:Type} {M:Model} {a:Addr} {p:Option Value} {f:Obj→Obj} {k:Unit→Sem α} {o o':Obj} {Q:α→Shared→Prop} (ho:s.heap.get? a=some o) (e:(f o).isFreed=false∧f o=o') (h:∀h',Heap.get? h' a=some o'→(∀b ob,b≠a→s.heap.get? b=some ob→Heap.get? h' b=some ob)→wpAny M A (k ()) Q E { s with heap:=h' }):wpAny M A (.update a p f k) Q E s:=
 B3t ho (h _ (e.2▸Heap.get?_update_self _ ho e.1) fun b ob hb z=>(Heap.get?_update_ne _ _ _ _ hb).trans z)
noncomputable def ciE:Obj:=⟨.type "callable_iterator",none,.fields #[.none,.none,.bool true],#[]⟩
noncomputable def ciO (m:Addr) (u:Tok):Obj:=⟨.type "callable_iterator",none,.fields #[.ref m,.str "" u,.bool false],#[]⟩
theorem B1q {a b:Obj} {t:Nat}:Near [] s { s with heap:=(s.heap.push a).push b,toks:=t }:=⟨fun b o _ e=>Heap.get?_push_of_some _ (Heap.get?_push_of_some _ e),.same rfl,rfl,rfl⟩
theorem B5W {prog:Program} {w:World} {Q:Option Value→Shared→Prop} {a:Addr} (h1:s.heap.get? a=some ciE) (hh:A.handled=none) (q:∀s',Near [] s s'→Q none s'):wpAny (model prog w) A (pyNext (.ref a)) Q E s:=by
 have ht:s.TypeIs (.ref a) "callable_iterator" := ⟨_,h1,rfl⟩
 unfold pyNext
 refine wpAny_bind (wpAny_attempt (wpAny_callSpecial?_slot (name:=Str.ofString "__next__") ht A1g (wpAny_call_entry A1g ht A3B ?_ (A4r _))))
 have h1:s.heap.get? a=some ⟨.type "callable_iterator",none,.fields #[.none,.none,.bool true],#[]⟩:=h1
 unfold Builtin.«callable_iterator.__next__»
 repeat lk
 refine wpAny_handled ?_
 rw [show A.in1.handled=none from hh]
 repeat lk
 refine wpAny_throw ?_
 refine wpAny_bind (wpAny_isInstance (T := "StopIteration") (b:=true) ⟨_,Heap.get?_push_size _ rfl,rfl⟩ isSubtype_stop ?_)
 exact wpAny_pure (q _ B1q)
theorem B9J {prog:Program} {w:World} {Q:Option Value→Shared→Prop} {a m x:Addr} {u:Tok} (h1:s.heap.get? a=some (ciO m u)) (h2:s.heap.get? m=some (methodObj (.ref 35) (.ref x))) (h3:∃cl dd fd sl,s.heap.get? 35=some ⟨cl,dd,.func fd,sl⟩) (hh:A.handled=none)
  (hc:codeAny (model prog w) A.in1 (.call (.ref 35) ⟨[.ref x],[]⟩) (fun r s'=>match r with
   | .ok (.ret v)=>∃t u',v=.str t u'∧s'.heap.get? a=some (ciO m u)∧s'.heap.get? m=some (methodObj (.ref 35) (.ref x))∧(∃cl dd fd sl,s'.heap.get? 35=some ⟨cl,dd,.func fd,sl⟩)∧
    ((Str.ofString "" == t)=false→Q (some (.str t u')) s')∧((Str.ofString "" == t)=true→∀s2,Near [a] s' s2→s2.heap.get? a=some ciE→Q none s2)
   | .ok _=>False
   | .error _=>False) s):wpAny (model prog w) A (pyNext (.ref a)) Q E s:=by
 have ht:s.TypeIs (.ref a) "callable_iterator" := ⟨_,h1,rfl⟩
 unfold pyNext
 refine wpAny_bind (wpAny_attempt (wpAny_callSpecial?_slot (name:=Str.ofString "__next__") ht A1g (wpAny_call_entry A1g ht A3B ?_ (A4r _))))
 have h1:s.heap.get? a=some ⟨.type "callable_iterator",none,.fields #[.ref m,.str "" u,.bool false],#[]⟩:=h1
 have h2:s.heap.get? m=some ⟨.type "method",none,.fields #[.ref 35,.ref x],#[]⟩:=h2
 refine e4a1 h3 fun cl0 dd0 fd0 sl0 h3=>?_
 unfold Builtin.«callable_iterator.__next__»
 repeat lk
 refine B9I ?_
 show codeAny (model prog w) A.in1 (.call (.ref m) ⟨[],[]⟩) _ s
 refine method_call h2 (codeAny_mono hc fun r s' hr=>?_)
 match r,hr with
 | .ok (.ret v),hr=>
  obtain ⟨t,u',rfl,g1,g2,⟨cl,dd,fd,sl,g3⟩,q1,q2⟩:=hr
  have g1:s'.heap.get? a=some ⟨.type "callable_iterator",none,.fields #[.ref m,.str "" u,.bool false],#[]⟩:=g1
  have g2:s'.heap.get? m=some ⟨.type "method",none,.fields #[.ref 35,.ref x],#[]⟩:=g2
  iterate 31 lk
  refine eqBool_str (x:=Str.ofString "") ?_
  cases hb:Str.ofString "" == t with
  | false=>
   repeat lk
   refine ⟨_,rfl,?_⟩
   show wpAny _ _ _ _ _ _
   repeat lk
   exact q1 hb
  | true=>
   repeat lk
   refine B3u g1 ⟨rfl,rfl⟩ fun h3 u1 v1=>?_
   repeat lk
   refine B3u u1 ⟨rfl,rfl⟩ fun h4 u2 v2=>?_
   repeat lk
   refine B3u u2 ⟨rfl,rfl⟩ fun h5 u3 v3=>?_
   repeat lk
   refine wpAny_handled ?_
   rw [show A.in1.handled=none from hh]
   repeat lk
   refine wpAny_throw ?_
   refine wpAny_bind (wpAny_isInstance (T := "StopIteration") (b:=true) ⟨_,Heap.get?_push_size _ rfl,rfl⟩ isSubtype_stop ?_)
   exact wpAny_pure (q2 hb _ ⟨fun b o n e=>let n:=fun z:b=a=>n (z▸.head _); Heap.get?_push_of_some _ (Heap.get?_push_of_some _ (v3 b o n (v2 b o n (v1 b o n e)))),.same rfl,rfl,rfl⟩ (Heap.get?_push_of_some _ (Heap.get?_push_of_some _ u3)))
 | .ok .next,hr=>exact hr.elim
 | .ok .brk,hr=>exact hr.elim
 | .ok .cont,hr=>exact hr.elim
 | .error e,hr=>exact hr.elim
theorem B3v {hs:Heap} (W:WOk C hs) (O:OkC C) {Q:Option Value→Shared→Prop} {j lx:Nat} {ow:List Nat} (hh:A.handled=none) (hg:hget σ.hp j=some (.fit lx true ow)) (I:Inv C fi φ X σ s) (q:∀s',Inv C fi φ X σ s'→Q none s'):wpAny (MM C) A (pyNext (.ref (φ j))) Q E s:=by
 have x:C.LX φ σ.nx s.heap j (.fit lx true ow):=I.get hg
 rw [W.LX] at x
 refine e2a4 x fun f m _ hl h1 h2=>?_
 exact B5W h1 hh fun s' nn=>q s' (I.growNear O.H nn)
theorem A2t {hp:List (Nat×Mine.O)} (h:(A0c hp).Nodup) {p q:Nat×Mine.O} (hp1:p∈hp) (hq:q∈hp) (hne:p≠q):∀i∈p.1::own p.2,∀k∈q.1::own q.2,i≠k:=by
 induction hp with
 | nil=>exact nomatch hp1
 | cons x r ih=>
  rw [A0f] at h
  have n:=List.nodup_append.mp h
  exact fun i hi k hk=>(List.mem_cons.mp hp1).elim (fun e1=>(List.mem_cons.mp hq).elim (fun e2=>absurd (e1.trans e2.symm) hne) fun hq2=>n.2.2 i (e1▸hi) k (A0s hq2 k hk)) fun hp2=>(List.mem_cons.mp hq).elim (fun e2 e=>n.2.2 k (e2▸hk) i (A0s hp2 i hi) e.symm) fun hq2=>ih n.2.1 hp2 hq2 i hi k hk
theorem WOk.fn35 {hs h:Heap} (W:WOk C hs) (k:∀b o,C.h₀.get? b=some o→h.get? b=some o):∃cl dd fd sl,h.get? 35=some ⟨cl,dd,.func fd,sl⟩:=by
 obtain ⟨⟨cl,dd,dt,sl⟩,h1,h2⟩:=(A2B (W.K.keeps k) (B9H C.w.params)).obj
 have h2:dt=_:=h2
 subst h2
 exact ⟨cl,dd,_,sl,h1⟩
theorem B5X {ρ:Nat→List Nat} (pos:∀i,0 < (ρ i).length) {c:List Nat} (h:(Str.ofString "" == A0b ρ c)=true):c=[]:=by
 have e:([]:List Nat)=(sv ρ c):=congrArg (fun s:Str=>s.cps.toList) (beq_iff_eq.mp h)
 cases c with
 | nil=>rfl
 | cons d r=>
  have z:(if d < symB then [d] else ρ (d - symB))=[]:=(List.append_eq_nil_iff.mp e.symm).1
  by_cases q:d < symB
  ·
   rw [if_pos q] at z; exact nomatch z
  ·
   rw [if_neg q] at z; exact absurd (congrArg List.length z) (Nat.ne_of_gt (pos _))
theorem A7Y {hp:List (Nat×Mine.O)} {i j:Nat} {o:Mine.O} (hne:i≠j):hget (hset hp i o) j=hget hp j:=by
 induction hp with
 | nil=>rfl
 | cons x r ih=>
  show hget (match Nat.beq x.1 i with | true=>_ | false=>_) j=match Nat.beq x.1 j with | true=>_ | false=>_
  cases q:Nat.beq x.1 i with
  | true=>rw [A6P fun z=>hne ((A8y q).symm.trans z)]; exact (congrArg (fun b=>match b with | true=>some o | false=>hget r j) (A6P fun z=>hne ((A8y q).symm.trans z)):_)
  | false=>exact (congrArg (fun t=>match Nat.beq x.1 j with | true=>some x.2 | false=>t) ih:_)
theorem B5Y {hs:Heap} (W:WOk C hs) (O:OkC C) (F:A0X C) {Q:Option Value→Shared→Prop} {j lx:Nat} {ow c:List Nat} {hp:List (Nat×Mine.O)} (hR:Room A 80) (hg:hget σ.hp j=some (.fit lx false ow)) (hc:A3K σ.hp lx=some (c,hp)) (I:Inv C fi φ X σ s)
  (q1:c≠[]→∀s' t,Inv C fi φ X { σ with hp:=hp } s'→Q (some (.str (A0b C.ρ c) t)) s') (q2:c=[]→∀s',Inv C fi φ X { σ with hp:=hset hp j (.fit lx true ow) } s'→Q none s'):wpAny (MM C) A (pyNext (.ref (φ j))) Q E s:=by
 have x:C.LX φ σ.nx s.heap j (.fit lx false ow):=I.get hg
 rw [W.LX] at x
 refine e2a4 x fun f m e2z hl h1 h2=>?_
 subst e2z
 refine e4a1 (A7U hc) fun t l p ow' hgl=>?_
 have hx:C.LX φ σ.nx s.heap lx (.lex t l p ow'):=I.get hgl
 rw [W.LX] at hx
 have ap:∀i∈lx::ow',∀k∈[j,m],φ k≠φ i:=fun i hi k hk e=>A2t I.ids (A0l hgl) (A0l hg) (fun e=>nomatch (Prod.mk.inj e).2) i hi k hk (I.inj _ (A0s (A0l hgl) i hi) _ (A0s (A0l hg) k hk) e.symm)
 refine B9J h1 h2 (W.fn35 I.keep) hR.handled (B0p W O F I hgl hx (hR.le (m:=61) rfl).in1 (E:=fun _ _=>False) fun s' u W' nn hW hx'=>?_)
 refine e0a3 (I.readTurn W O hgl hc nn hW hx') fun I' e e4=>?_
 have k1:∀k∈[j,m],∀o,s.heap.get? (φ k)=some o→s'.heap.get? (φ k)=some o:=fun k hk o e=>nn.keep _ _ (fun h=>let ⟨i,hi,e⟩:=hW _ h; ap i hi k hk e) e
 have g2:=k1 m (.tail _ (.head _)) _ h2
 refine ⟨_,u,rfl,k1 j (.head _) _ h1,g2,W.fn35 I'.keep,fun h=>?_,fun h s2 n2 z2=>?_⟩
 ·
  rw [e] at h ⊢
  exact q1 (fun z=>by rw [z] at h; exact notf h) s' u I'
 ·
  rw [e] at h
  have hg':hget hp j=some (.fit lx false [m]):=by
   refine e1a2 (A7W O.S hc hgl) fun r e1z _=>?_
   subst e1z
   exact (A7Y fun z=>nomatch (z▸hgl).symm.trans hg).trans hg
  have hmj:φ m≠φ j:=fun e=>(List.nodup_cons.mp (B3s I.ids (A0l hg))).1 (I.inj m (A0s (A0l hg) m (.tail _ (.head _))) j (A0L hg) e▸.head _)
  have gm:=n2.keep _ _ (fun h=>hmj (List.mem_singleton.mp h)) g2
  exact q2 (B5X O.pos h) s2 (I'.turnNear O.H (σ:={ σ with hp:=hp }) hg' (o':=.fit lx true [m]) rfl n2 (fun b hb=>⟨j,.head _,List.mem_singleton.mp hb⟩) (ac ⟨_,z2⟩ (ac ⟨_,gm⟩ an)) (by
   show C.LX _ _ _ _ _
   rw [W.LX]
   exact ⟨f,m,rfl,hl,z2,gm⟩))
end
end Mine
end
section
namespace Mine
open PySem PySem.W PyProof.Rows
theorem C2B {C:Cx} {hs:Heap} (W:WOk C hs) (O:OkC C) (F:A0X C):A2p C 80 where
 attr:=fun ha I hv q=>B5F W O ha I hv q
 getm:=fun hg hl hk I q=>by rcases B3m hg hl hk with rfl | rfl | rfl <;> exact B5E W hg hl hk I q
 read:=fun hR hm I hv q=>B5R W O F (hR.le rfl) hm I hv q
 iter:=fun hgl hR hm hn hb I q=>B5U W O hgl (hR.le rfl) hm hn hb I q
 line:=fun hg I q=>B5G W O hg I q
 selfIt:=fun hg I q=>B5V W hg I q
 ended:=fun hh hg I q=>B3v W O hh hg I q
 next:=fun hR hg hc I q1 q2=>B5Y W O F hR hg hc I q1 q2
end Mine
end
section
namespace Mine
open PySem PySem.W PyProof.Rows
noncomputable def C2C (f:Form):Prop:=∀line,A6h (f.text ++ A6g f.more) line=some (f.tok,some (.lex (A6g f.more) (addL line f.text) 1 [2,3,4]),some (.list []))
theorem B5Z:∀f∈A3z,C2C f:=by
 intro f hf
 simp only [A3z,A1v,List.mem_append,List.mem_cons,List.not_mem_nil,or_false] at hf
 rcases hf with (((((rfl | rfl | rfl | rfl | rfl | rfl) | (rfl | rfl | rfl | rfl | rfl | rfl)) | (rfl | rfl | rfl | rfl | rfl | rfl)) | (rfl | rfl | rfl | rfl | rfl | rfl)) | (rfl | rfl | rfl))
 all_goals (intro line; kernel_rfl)
theorem B9K (line:Int):A6h [] line=some ([],some (.lex [] line 1 [2,3,4]),some (.list [])):=by kernel_rfl
noncomputable def Cx.atL (C:Cx) (s:Shared) (W:List Addr) (ρ:Nat→List Nat) (LX:(Nat→Addr)→Nat→Heap→Nat→O→Prop):Cx:={ C with h₀:=hideAll s.heap W,gens:=s.gens,drawn:=s.drawn,os:=s.os,ρ:=ρ,LX:=LX }
noncomputable def rhoR (ρ:Nat→List Nat) (R:List Nat):Nat→List Nat:=fun i=>if i=100 then R else ρ i
section
variable {C:Cx} {fi:Fi} {φ φ':Nat→Addr} {X X':List (Addr×Obj)} {σ σ' σ₁ σ₂ σ₃:St} {s s' s₁:Shared} {A:Around} {E:Value→Shared→Prop} {W:List Addr} {ρ':Nat→List Nat} {LX:(Nat→Addr)→Nat→Heap→Nat→O→Prop}
theorem B3w (hk₀:∀b∈W,C.h₀.get? b=none) {fi':Fi} {hp:List (Nat×O)} {nx:Nat} {loc cel:List V} {m:Str→Option Value} (he:A2E fi') (hL:s.heap.get? fi'.env.locals=none) (hk:∀b o,s.heap.get? b=some o→s₁.heap.get? b=some o)
  (hns:s₁.heap.Ns fi'.env.locals m) (hcad:fi'.cad=[]) (hid:∀i∈A0c hp,φ i∈W∧∃ob,s.heap.get? (φ i)=some ob)
  (inj:∀i∈A0c hp,∀j∈A0c hp,φ i=φ j→i=j) (nd:(A0c hp).Nodup) (low:∀i∈A0c hp,i < nx)
  (hl:∀x k v,at? fi'.cx.locs x=some k→nth loc k=some v→v≠.unb→∃rv,m x=some rv∧VR ρ' φ nx v rv)
  (hh:∀p∈hp,OR LX ρ' φ nx s₁.heap p.1 p.2) (hg:s₁.gens=s.gens) (hd:s₁.drawn=s.drawn) (ho:s₁.os=s.os):Inv (C.atL s W ρ' LX) fi' φ [] ⟨loc,cel,hp,nx⟩ s₁ where
 keep:=fun b o e=>hk b o (of_hideAll W e)
 inj:=inj
 live:=fun i hi=>⟨hideAll_none W (hid i hi).1,let ⟨ob,e⟩:=(hid i hi).2; ⟨ob,hk _ _ e⟩⟩
 env:=he
 ids:=nd
 low:=low
 nd:=by rw [hcad]; simp
 off:=fun a ha=>by
  unfold Fi.ads at ha
  rw [List.map_nil,List.append_nil,hcad] at ha
  rw [List.mem_singleton.mp ha]
  refine ⟨?_,fun i hi e=>?_⟩
  ·
   cases q:(C.atL s W ρ' LX).h₀.get? fi'.env.locals with
   | none=>rfl
   | some o=>have:=of_hideAll W q; rw [hL] at this; cases this
  ·
   obtain ⟨ob,e2⟩:=(hid i hi).2
   rw [e,hL] at e2; cases e2
 apart:=fun a ha hm=>nomatch hm
 loc:=⟨m,hns,hl⟩
 cel:=fun k a h=>by rw [hcad] at h; cases h
 hp:=hh
 xs:=fun p hp=>nomatch hp
 gens:=⟨#[],by rw [hg,Array.append_empty]; rfl,.empty⟩
 drawn:=hd
 os:=ho
theorem B6a (S:A0n C.ρ) (R:List Nat):A0n (rhoR C.ρ R):=by
 have e:∀i,i < 4→rhoR C.ρ R i=C.ρ i:=fun i hi=>if_neg (by omega)
 exact {
  one:=fun i hi=>by rw [e i hi]; exact S.one i hi
  inj:=fun i j hi hj h=>S.inj i j hi hj (by rw [←e i hi,←e j hj]; exact h)
  pun:=fun i x hi h=>S.pun i x hi (by rw [←e i hi]; exact h)
  low:=fun i x hi h=>by
   obtain ⟨y,h1,h2,h3,h4⟩:=S.low i x hi (by rw [←e i hi]; exact h)
   exact ⟨y,h1,h2,h3,fun z hz=>h4 z (by rw [←e (y - symB) (by omega)]; exact hz)⟩ }
theorem A6S {β:Type} {r:β} {q:Prop} {c:Prop} [i:Decidable c] {k l:Option β} (h:(if c then k else l)=some r) (H:k=some r→q) (H':l=some r→q):q:=by
 induction i with
 | isTrue hc=>exact H h
 | isFalse _=>exact H' h
theorem B6b {x:Str} {v:V} (h:A1P x=some v):v=.str [46,46,46]∨∃i,v=.int i:=by
 have I:∀{i:Int},some (V.int i)=some v→v=.str [46,46,46]∨∃i,v=.int i:=fun h=>.inr ⟨_,(Option.some.inj h).symm⟩
 unfold A1P at h
 exact A6S h (fun h=>.inl (Option.some.inj h).symm) fun h=>A6S h I fun h=>A6S h I fun h=>A6S h I A0a
theorem B6c {ρ ρ':Nat→List Nat} {x:Str} {v:V} {rv:Value} (hc:A1P x=some v) (h:VR ρ (fun _=>0) 0 v rv):VR ρ' (fun _=>0) 0 v rv:=by
 rcases B6b hc with rfl | ⟨i,rfl⟩
 ·
  cases h with
  | str _ t hl=>exact (VR.str [46,46,46] t hl:VR ρ' _ _ _ _)
 ·
  cases h with
  | int _ t=>exact .int _ _
theorem C2D (O:OkC C) (hk:∀b o,C.h₀.get? b=some o→s.heap.get? b=some o) (hW:∀b∈W,C.h₀.get? b=none) {R:List Nat} (hR:R.length≤32) (hR0:R≠[]) (hRs:∀c∈R,c < symB)
  (hext:∀φ φ' n n' h h' i o,LX φ n h i o→Ext φ φ' n→n≤n'→(∀j∈i::own o,j < n)→(∀j∈i::own o,∀ob,h.get? (φ j)=some ob→h'.get? (φ j)=some ob)→LX φ' n' h' i o) (hfrz:∀φ n h i xs,¬LX φ n h i (.frz xs)):OkC (C.atL s W (rhoR C.ρ R) LX) where
 H:={
  g:=O.H.g.keeps (Cx.at_keep hk hW)
  b:=O.H.b.keeps (Cx.at_keep hk hW)
  nolimit:=O.H.nolimit.keeps (Cx.at_keep hk hW)
  boot:=O.H.boot
  free:=O.H.free
  con:=fun x v h=>let ⟨rv,h1,h2⟩:=O.H.con x v h; ⟨rv,h1,B6c h h2⟩
  ρlen:=fun i=>by
   show (rhoR C.ρ R i).length≤32
   unfold rhoR
   split
   ·
    exact hR
   ·
    exact O.H.ρlen i
  ext:=hext
  frz:=fun φ n h i xs x=>absurd x (hfrz φ n h i xs) }
 S:=B6a O.S R
 pos:=fun i=>by
  show 0 < (rhoR C.ρ R i).length
  unfold rhoR
  split
  ·
   exact List.length_pos_iff.mpr hR0
  ·
   exact O.pos i
 small:=fun i c hc=>by
  have hc:c∈rhoR C.ρ R i:=hc
  unfold rhoR at hc
  split at hc
  ·
   exact hRs c hc
  ·
   exact O.small i c hc
theorem B9L (F:A0X C) (hk:∀b o,C.h₀.get? b=some o→s.heap.get? b=some o) (hW:∀b∈W,C.h₀.get? b=none):A0X (C.atL s W ρ' LX) where
 glob:=F.glob
 fn:=fun f hf=>let ⟨o,fd,h1,h2⟩:=F.fn f hf; ⟨o,fd,Cx.at_keep hk hW _ _ h1,h2⟩
 fnr:=let ⟨o,fd,h1,h2⟩:=F.fnr; ⟨o,fd,Cx.at_keep hk hW _ _ h1,h2⟩
theorem B9M {hs:Heap} (Wk:WOk C hs) (hk:∀b o,C.h₀.get? b=some o→s.heap.get? b=some o) (hW:∀b∈W,C.h₀.get? b=none):WOk (C.atL s W ρ' (LXof C.w.params hs ρ')) hs where
 K:=Wk.K.keeps (Cx.at_keep hk hW)
 LX:=rfl
 sub:=fun b o e=>Cx.at_keep hk hW _ _ (Wk.sub _ _ e)
 fread:=Wk.fread
 f9:=Wk.f9
 f10:=Wk.f10
theorem Inv.nearL {fi':Fi} (I:Inv (C.atL s W ρ' LX) fi' φ X σ s'):Near W s s':=
 ⟨fun b o h e=>I.keep b o (hideAll_get W e h),I.gens,I.drawn,I.os⟩
end
end Mine
end
section
namespace Mine
open PySem PySem.W PyProof.Rows
noncomputable def fd42 (P:Params):FuncData:=fdAt (KH P) 42
theorem C4k (P:Params):B1j (KH P) 42 ["self"]=true:=by kernel_rfl
theorem C2E (P:Params) (s:Shared) (v:Value):BindsTo s (fd42 P) ⟨[v],[]⟩ [(("self" : Str),v)]:=BindsTo.of_eq (by kernel_rfl)
theorem tr42 (P:Params):TrSS 60 (A0i (fd42 P).scope) A5g (A0Y (fd42 P)):=A2l (by kernel_rfl) (by kernel_rfl)
theorem C2F (P:Params):(A0i (fd42 P).scope).locs=(["self", "token", "fiter", "ch"]:List Str):=by kernel_rfl
theorem C4l {h:Heap} {P:Params} (X:(KH P).In h):∃fd:FuncData,A9a h 42 fd ["self"]∧(∀s v,BindsTo s fd ⟨[v],[]⟩ [(("self" : Str),v)])∧TrSS 60 (A0i fd.scope) A5g (A0Y fd)∧(A0i fd.scope).locs=(["self", "token", "fiter", "ch"]:List Str):=
 ⟨_,A2B X (C4k P),C2E P,tr42 P,C2F P⟩
section
variable {C:Cx} {φ:Nat→Addr} {s s' s₁:Shared} {A:Around} {E Q:Value→Shared→Prop}
theorem B3x {hs:Heap} {ρ:Nat→List Nat} {fd:FuncData} (R42:A9a C.h₀ 42 fd ["self"]) (hlocs:(A0i fd.scope).locs=(["self", "token", "fiter", "ch"]:List Str)) {D:LexD} {t:List Nat} {line:Int} {kp:Nat} (R0:A2W C.w.params hs s.heap (sv ρ t) line D) (hpb:s.heap.get? D.pl=some (A0k [] kp)) (hnd:D.five.Nodup)
  (h0:∀b∈D.five,C.h₀.get? b=none) {h₁:Heap} (hns:h₁.Ns s.heap.objs.size fun x=>(([("self",.ref D.x)]:List (Str×Value)).lookup x)) (hk1:∀b o,s.heap.get? b=some o→h₁.get? b=some o):
  Inv (C.atL s D.five ρ (LXof C.w.params hs ρ)) ⟨callEnv fd s.heap.objs.size 42,A0i fd.scope,[]⟩ (ad13 D.five) [] (B3k t line) { heap:=h₁,gens:=s.gens,drawn:=s.drawn,toks:=s.toks + 1,os:=s.os }:=by
 have mem5:∀i∈A0c (B3k t line).hp,i < 5:=(by decide:∀i∈([0,2,3,4,1]:List Nat),i < 5)
 have L:=R0.live
 have live:∀b∈D.five,∃o,s.heap.get? b=some o:=ac ⟨_,R0.hx⟩ (ac ⟨_,hpb⟩ fun b hb=>L b (.tail _ hb))
 refine B3w h0 (R42.env _) (A0e s.heap) hk1 hns rfl (fun i hi=>⟨A6N (mem5 i hi),live _ (A6N (mem5 i hi))⟩) (fun i hi j hj e=>A6M hnd (mem5 i hi) (mem5 j hj) e) (show ([0,2,3,4,1]:List Nat).Nodup by decide) mem5 (fun y kx v g1 g2 g3=>?_)
  (ac ⟨D,R0.keep fun b _ o e=>hk1 b o e,rfl,rfl,Nat.le_of_ble_eq_true rfl⟩ (ac ⟨[],kp,hk1 _ _ hpb,.nil,Nat.zero_le _⟩ an)) rfl rfl rfl
 have g1:at? (A0i fd.scope).locs y=some kx:=g1
 rw [hlocs] at g1
 have hy:=A1C g1
 cases kx with
 | zero=>exact ⟨.ref D.x,by rw [←Option.some.inj hy]; rfl,Option.some.inj g2▸.ref 0 (Nat.le_of_ble_eq_true rfl)⟩
 | succ n=>exact absurd (A6z (n:=3) g2) g3
theorem B3y {t tokS:List Nat} {line:Int} {a b:Option Mine.O} (h:A6h t line=some (tokS,a,b)):∃σ,run [] 60 (.ss A5g) (B3k t line)=some (.f (.ret (.str tokS)),σ)∧hget σ.hp 0=a∧hget σ.hp 1=b:=by
 unfold A6h at h
 generalize run [] 60 (.ss A5g) (B3k t line)=p at h ⊢
 induction p with
 | none=>exact A0a h
 | some p=>
  obtain ⟨r,σ⟩:=p
  induction r with
  | f f=>induction f with
   | ret v=>induction v with
    | str tok=>
     have e:=Prod.mk.inj (Option.some.inj h)
     have e2:=Prod.mk.inj e.2
     exact ⟨σ,by rw [e.1],e2.1,e2.2⟩
    | _=>exact A0a h
   | _=>exact A0a h
  | _=>exact A0a h
theorem B9N {hs:Heap} (Wk:WOk C hs) (O:OkC C) (F:A0X C) (hk:∀b o,C.h₀.get? b=some o→s.heap.get? b=some o) {D:LexD} {T:List Nat} {line line':Int} (R0:A2W C.w.params hs s.heap T line D) {kp:Nat} (hpb:s.heap.get? D.pl=some (A0k [] kp))
  (hnd:D.five.Nodup) (h0:∀b∈D.five,C.h₀.get? b=none) {R t tokS restS:List Nat} (hR:R.length≤32) (hR0:R≠[]) (hRs:∀c∈R,c < symB) (ht:sv (rhoR C.ρ R) t=T)
  (hrun:A6h t line=some (tokS,some (.lex restS line' 1 [2,3,4]),some (.list []))) (hA:Room A 150)
  (q:∀s' u kp' D',Near D.five s s'→A2W C.w.params hs s'.heap (sv (rhoR C.ρ R) restS) line' D'→D'.x::D'.W=D.x::D.W→D'.pl=D.pl→s'.heap.get? D.pl=some (A0k [] kp')→Q (.str (A0b (rhoR C.ρ R) tokS) u) s'):
  wpAny (MM C) A (call (.ref 42) [.ref D.x]) Q E s:=by
 subst ht
 refine e1a4 (C4l Wk.K) fun fd R42 hbind htr hlocs=>?_
 refine e1a2 R42.obj fun o42 h42 d42=>?_
 have W':=B9M (s:=s) (ρ':=rhoR C.ρ R) Wk hk h0
 have O':=C2D (s:=s) (LX:=LXof C.w.params hs (rhoR C.ρ R)) O hk h0 hR hR0 hRs B8s (fun _ _ _ _ _ x=>x)
 have F':=B9L (s:=s) (ρ':=rhoR C.ρ R) (LX:=LXof C.w.params hs (rhoR C.ρ R)) F hk h0
 have B:=big (FT:=[]) (K:=80) (C:=C.atL s D.five (rhoR C.ρ R) (LXof C.w.params hs (rhoR C.ρ R))) ⟨O',C2B W' O' F',F',(fun h=>nomatch h),(fun f fn h=>nomatch h)⟩ rfl 60
 refine e1a3 (B3y hrun) fun σ₂ hr g0 g1=>?_
 refine wpAny_call (codeAny_call_def (A0v hA) (hk _ _ h42) d42 (O.H.nolimit.keeps hk) (R42.code.keeps hk) R42.body (hbind _ _) R42.cell (ac (R42.loc _ (.head _)) an) (fun h₁ hns hk1=>?_) R42.co R42.gen R42.kind)
 refine anyQ (T:=Q) (fun _ _ h=>h) (fun _ h=>h) fun Qf Ef hQ hN=>?_
 refine B.ss (fi:=⟨callEnv fd s.heap.objs.size 42,A0i fd.scope,[]⟩) (X:=[]) hr (hA.le (m:=141) rfl).deep (k:=60) htr _ _ _ _ (B3x R42 hlocs R0 hpb hnd h0 hns hk1) fun φ' s' rf e I' fr=>?_
 cases fr with
 | ret hv=>
 obtain ⟨u,rfl⟩:=A5I hv
 have x':A1M C.w.params hs φ' σ₂.nx s'.heap 0 (sv (rhoR C.ρ R) restS) line' 1 [2,3,4]:=I'.get g0
 refine e1a4 x' fun D' R' m p _=>?_
 refine e2a3 (I'.get g1) fun vs kp' p1 p2 _=>?_
 have f1:φ' 1=D.pl:=e 1 (Nat.le_of_ble_eq_true rfl)
 rw [f1] at p p1
 have m2:[0,2,3,4].map φ'=D.x::D.W:=List.map_congr_left (g:=ad13 D.five) (ac (e 0 (Nat.le_of_ble_eq_true rfl)) (ac (e 2 (Nat.le_of_ble_eq_true rfl)) (ac (e 3 (Nat.le_of_ble_eq_true rfl)) (ac (e 4 (Nat.le_of_ble_eq_true rfl)) an))))
 have p3:vs=[]:=B4M (p:=fun vs=>vs=[]) p2 rfl
 exact hQ _ _ <| q s' u kp' D' I'.nearL R' (m.symm.trans m2) p.symm (p3▸p1)
end
end Mine
end
section
namespace Mine
open PySem PySem.W PyProof.Rows
noncomputable def B1r (c d:Nat):Nat:=match Nat.beq c d with | true=>1 | false=>0
theorem A1V (c d:Nat) (r:List Nat):A0w c (d::r)=B1r c d + A0w c r:=by
 unfold B1r
 show (match Nat.beq c d with | true=>A0w c r + 1 | false=>A0w c r)=_
 cases Nat.beq c d with
 | true=>simp only; lia
 | false=>simp only; lia
theorem A1W (c:Nat):∀a b:List Nat,A0w c (a ++ b)=A0w c a + A0w c b
 | [],b=>by simp [A0w]
 | d::a,b=>by
  show A0w c (d::(a ++ b))=_
  rw [A1V,A1V,A1W c a b]
  lia
section
variable {C:Cx} {fi:Fi} {φ φ':Nat→Addr} {X X':List (Addr×Obj)} {σ σ' σ₁ σ₂ σ₃:St} {s s' s₁:Shared} {A:Around} {E Q:Value→Shared→Prop} {W:List Addr}
noncomputable def A2K (t:List Nat):Bool:=t.all fun c=>Nat.blt c (symB + 4)
theorem A7Z:(A3z.all fun f=>A2K f.text && A2K f.tok)=true:=by kernel_rfl
theorem A9k:∀f∈A3z,A2K f.text=true∧A2K f.tok=true:=fun f hf=>by
 have h:=List.all_eq_true.mp A7Z f hf
 rw [Bool.and_eq_true] at h
 exact h
theorem B0q {ρ:Nat→List Nat} {R:List Nat} {t:List Nat} (h:A2K t=true):sv (rhoR ρ R) t=sv ρ t:=by
 induction t with
 | nil=>simp [sv]
 | cons c t ih=>
  unfold A2K at h
  rw [List.all_cons,Bool.and_eq_true] at h
  have ih:=ih h.2
  have hc:c < symB + 4:=A2b h.1
  have key:(if c < symB then [c] else rhoR ρ R (c - symB))=(if c < symB then [c] else ρ (c - symB)):=by
   by_cases q:c < symB
   ·
    rw [if_pos q,if_pos q]
   ·
    rw [if_neg q,if_neg q]
    exact if_neg (by lia)
  show (if c < symB then [c] else rhoR ρ R (c - symB)) ++ sv (rhoR ρ R) t=(if c < symB then [c] else ρ (c - symB)) ++ sv ρ t
  rw [ih,key]
theorem B9O (S:A0n C.ρ) {t:List Nat}:∀(l:Int),A2K t=true→addL l t=l + (A0w 10 (sv C.ρ t):Nat):=by
 induction t with
 | nil=>intro l _; simp [addL,sv,A0w]
 | cons c t ih=>
  intro l h
  unfold A2K at h
  rw [List.all_cons,Bool.and_eq_true] at h
  have hc:c < symB + 4:=A2b h.1
  refine (ih _ h.2).trans ?_
  have e1:sv C.ρ (c::t)=(if c < symB then [c] else C.ρ (c - symB)) ++ sv C.ρ t:=rfl
  rw [e1,A1W]
  have key:A0w 10 (if c < symB then [c] else C.ρ (c - symB))=B1r c 10:=by
   by_cases q:c < symB
   ·
    rw [if_pos q,A1V]
    unfold B1r
    cases hb:Nat.beq c 10 with
    | true=>
     have:=Nat.eq_of_beq_eq_true hb
     subst this
     rfl
    | false=>
     cases hb2:Nat.beq 10 c with
     | true=>have:=Nat.eq_of_beq_eq_true hb2; subst this; cases hb
     | false=>rfl
   ·
    rw [if_neg q]
    obtain ⟨x,hx⟩:=S.one (c - symB) (by lia)
    have hp:=S.pun (c - symB) x (by lia) hx
    rw [hx,A1V]
    unfold B1r
    cases hb:Nat.beq c 10 with
    | true=>have:=Nat.eq_of_beq_eq_true hb; subst this; exact absurd (by decide) q
    | false=>
     cases hb2:Nat.beq 10 x with
     | true=>have:=Nat.eq_of_beq_eq_true hb2; subst this; exact absurd hp (by decide)
     | false=>rfl
  rw [key]
  unfold B1r
  cases hb:Nat.beq c 10 with
  | true=>simp only; lia
  | false=>simp only; lia
theorem Inv.rebuild (H:C.Ok) (I:Inv C fi φ X σ s) {hp':List (Nat×O)} (hid:A0c hp'=A0c σ.hp) (hn:Near W s s') (hW:∀b∈W,∃k∈A0c σ.hp,b=φ k) (hlive:∀k∈A0c σ.hp,∃ob,s'.heap.get? (φ k)=some ob)
  (hO:∀p∈hp',OR C.LX C.ρ φ σ.nx s'.heap p.1 p.2):Inv C fi φ X { σ with hp:=hp' } s':=by
 have adOff:∀a∈fi.ads X,∀ob,s.heap.get? a=some ob→s'.heap.get? a=some ob:=fun a ha ob e=>
  hn.keep _ _ (fun hm=>by obtain ⟨k,hk,e2⟩:=hW a hm; exact (I.off a ha).2 k hk e2.symm) e
 exact {
  keep:=fun b ob e=>hn.keep b ob (fun hm=>by
   refine e1a2 (hW b hm) fun k hk e2z=>?_
   subst e2z
   have:=(I.live k hk).1
   rw [e] at this; cases this) (I.keep b ob e)
  inj:=fun i hi j hj=>I.inj i (by rw [←hid]; exact hi) j (by rw [←hid]; exact hj)
  live:=fun k hk=>⟨(I.live k (by rw [←hid]; exact hk)).1,hlive k (by rw [←hid]; exact hk)⟩
  env:=I.env
  ids:=by show (A0c hp').Nodup; rw [hid]; exact I.ids
  low:=fun k hk=>I.low k (by rw [←hid]; exact hk)
  nd:=I.nd
  off:=fun a ha=>⟨(I.off a ha).1,fun k hk=>(I.off a ha).2 k (by rw [←hid]; exact hk)⟩
  apart:=I.apart
  loc:=by
   obtain ⟨m,⟨ob,es,ep,e1,e2⟩,h⟩:=I.loc
   exact ⟨m,⟨ob,es,ep,adOff _ I.lad _ e1,e2⟩,h⟩
  cel:=fun k a hc=>by
   refine e2a2 (I.cel k a hc) fun ob cv e1 e2=>?_
   exact ⟨ob,cv,adOff _ (I.cadIn (List.mem_of_getElem? hc)) _ e1,e2⟩
  hp:=hO
  xs:=fun p hp=>adOff _ (I.xIn hp) _ (I.xs p hp)
  gens:=by
   refine e1a2 I.gens fun m e h=>?_
   refine e1a2 hn.gens fun m' e' h'=>?_
   exact ⟨m ++ m',by rw [e',e,Array.append_assoc],A0m h h'⟩
  drawn:=hn.drawn.trans I.drawn
  os:=hn.os.trans I.os }
end
end Mine
end
section
namespace Mine
open PySem PySem.W PyProof.Rows
section
variable {C:Cx} {fi:Fi} {φ φ':Nat→Addr} {X X':List (Addr×Obj)} {σ σ' σ₁ σ₂ σ₃:St} {s s' s₁:Shared} {A:Around} {E Q:Value→Shared→Prop} {W:List Addr}
theorem C2G {vs:List V} {k:Option (V×St)} {r:V×St} {q:Prop} (h:nil0 vs k=some r) (H:vs=[]→k=some r→q):q:=by
 cases vs with
 | nil=>exact H rfl h
 | cons=>exact A0a h
theorem B6d {vs:List V} {v:V} {q:Prop} (h:nat 9 vs σ=some (v,σ')) (H:∀j toks src pb ow,vs=[.ref j]→hget σ.hp j=some (.tok toks src pb ow)→hget σ.hp pb=some (.list [])→popT σ j pb src ow toks=some (v,σ')→q):q:=
 A9P (k:=fun v:V=>v.r fun j=>B1I σ.hp j fun toks src pb own=>hL σ.hp pb fun xs=>nil0 xs (popT σ j pb src own toks)) (show nat9 vs σ=some (v,σ') from h) fun x e h=>r_on h fun j e2 h=>by
  unfold B1I at h
  cases hg:hget σ.hp j with
  | none=>rw [hg] at h; exact A0a h
  | some o=>
   rw [hg] at h
   induction o with
   | tok a b c d=>exact A3j h fun xs h1 h=>C2G h fun e3 h=>H j a b c d (e2▸e) hg (e3▸h1) h
   | _=>exact A0a h
theorem Inv.turnTok (O:OkC C) (I:Inv C fi φ X σ s) {j pb:Nat} {toks ts:List (List Nat)} {src ow:List Nat} {kp:Nat} (hg:hget σ.hp j=some (.tok toks src pb ow)) (hpb:hget σ.hp pb=some (.list [])) (nn:Near W s s') (hW:∀b∈W,∃i∈j::pb::ow,φ i=b)
  (x:C.LX φ σ.nx s'.heap j (.tok ts src pb ow)) (live:∀i∈j::ow,∃ob,s'.heap.get? (φ i)=some ob) (hp':s'.heap.get? (φ pb)=some (A0k [] kp)):Inv C fi φ X { σ with hp:=hset σ.hp j (.tok ts src pb ow) } s':=by
 have hin:∀i∈j::pb::ow,i∈A0c σ.hp:=ac (A0L hg) (ac (A0L hpb) fun i hi=>A0s (A0l hg) i (.tail _ hi))
 have off:∀k∈A0c σ.hp,k∉j::pb::ow→∀ob,s.heap.get? (φ k)=some ob→s'.heap.get? (φ k)=some ob:=fun k hk n ob e=>nn.keep _ _ (fun hm=>let ⟨i,hi,e2⟩:=hW _ hm; n (I.inj i (hin i hi) k hk e2▸hi)) e
 refine I.rebuild O.H (A9J hg rfl) nn (fun b hb=>let ⟨i,hi,e⟩:=hW b hb; ⟨i,hin i hi,e.symm⟩) (fun k hk=>?_) fun p hp=>?_
 ·
  by_cases q1:k∈j::pb::ow
  ·
   exact ac (p:=fun k=>∃ob,s'.heap.get? (φ k)=some ob) (live j (.head _)) (ac ⟨_,hp'⟩ fun i hi=>live i (.tail _ hi)) k q1
  ·
   exact (I.live k hk).2.imp (off k hk q1)
 ·
  rcases A9K hg I.ids p hp with rfl | ⟨hm,hd⟩
  ·
   exact x
  ·
   by_cases q1:p=(pb,.list [])
   ·
    subst q1; exact ⟨[],kp,hp',.nil,Nat.zero_le _⟩
   ·
    have ap:=A2t I.ids hm (A0l hpb) q1
    exact OR.ext O.H (I.hp p hm) (Ext.refl _ _) (Nat.le_refl _) (I.lowH hm) fun i hi ob e=>off i (A0s hm i hi) (fun m=>(List.mem_cons.mp m).elim (fun e=>hd i hi (e▸.head _)) fun m=>(List.mem_cons.mp m).elim (ap i hi pb (.head _)) fun m=>hd i hi (.tail _ m)) ob e
theorem B9P {ρ:Nat→List Nat} {R:List Nat} {m:Bool} (h1:m=true→R≠[]∧R.length≤32) (h2:m=false→R=[]) (hs:∀c∈R,c < symB):∃R':List Nat,R'.length≤32∧R'≠[]∧(∀c∈R',c < symB)∧sv (rhoR ρ R') (A6g m)=R:=by
 cases m with
 | true=>exact ⟨R,(h1 rfl).2,(h1 rfl).1,hs,(congrArg (· ++ []) ((if_neg (by decide +kernel)).trans (if_pos (by decide +kernel)))).trans (List.append_nil R)⟩
 | false=>exact ⟨[122],Nat.le_of_ble_eq_true rfl,nofun,ac (by decide +kernel) an,(h2 rfl).symm⟩
theorem A2h.nil_inv {ρ:Nat→List Nat} {T:List Nat} (h:A2h ρ T []):T=[]:=by cases h; rfl
theorem A2h.cons_inv {ρ:Nat→List Nat} {T t:List Nat} {ts:List (List Nat)} (h:A2h ρ T (t::ts)):∃f R,f∈A3z∧(f.more=true→R≠[]∧R.length≤32)∧(f.more=false→R=[])∧A2h ρ R ts∧T=sv ρ f.text ++ R∧t=sv ρ f.tok:=by
 cases h with
 | step f R ts hf hm hn hr=>exact ⟨f,R,hf,hm,hn,hr,rfl,rfl⟩
theorem B3z {hs:Heap} (Wk:WOk C hs) (O:OkC C) (F:A0X C) (I:Inv C fi φ X σ s) {j pb:Nat} {toks ts:List (List Nat)} {src ow:List Nat} (hg:hget σ.hp j=some (.tok toks src pb ow)) (hpb:hget σ.hp pb=some (.list [])) {line:Int} {f:Form} {R:List Nat} (x1:A1M C.w.params hs φ σ.nx s.heap j (sv C.ρ f.text ++ R) line pb ow)
  (x3:line + A0w 10 (sv C.ρ f.text ++ R)=1 + A0w 10 (sv C.ρ src)) (ok:A6h (f.text ++ A6g f.more) line=some (f.tok,some (.lex (A6g f.more) (addL line f.text) 1 [2,3,4]),some (.list []))) (pl1:A2K f.text=true) (pl2:A2K f.tok=true)
  (r1:f.more=true→R≠[]∧R.length≤32) (r2:f.more=false→R=[]) (hL:A2h C.ρ R (ts.map (sv C.ρ))) (hlen:∀t∈ts,t.length≤4000) (hA:Room A 150) (q:∀s' u,Inv C fi φ X { σ with hp:=hset σ.hp j (.tok ts src pb ow) } s'→Q (.str (A0b C.ρ f.tok) u) s'):
  wpAny (MM C) A (call (.ref 42) [.ref (φ j)]) Q E s:=by
 refine e1a4 x1 fun D R0 m p hp=>?_
 refine e1a4 (B9P (ρ:=C.ρ) r1 r2 (fun c hc=>R0.sm c (List.mem_append_right _ hc))) fun R' a1 a2 a3 a4=>?_
 refine e2a3 (I.get hpb) fun vs0 kp p1 p2 _=>?_
 have e0:vs0=[]:=B4M (p:=fun vs=>vs=[]) p2 rfl
 have e5:(j::pb::ow).map φ=D.five:=by
  show φ j::φ pb::ow.map φ=D.x::D.pl::D.W
  rw [A6O m,p,(List.cons.inj m).2]
 have hin:∀i∈j::pb::ow,i∈A0c σ.hp:=ac (A0L hg) (ac (A0L hpb) fun i hi=>A0s (A0l hg) i (.tail _ hi))
 have ap:∀i∈j::ow,i≠pb:=fun i hi=>A2t I.ids (A0l hg) (A0l hpb) (fun e=>nomatch (Prod.mk.inj e).2) i hi pb (.head _)
 have n0:=List.nodup_cons.mp (B3s I.ids (A0l hg))
 have nd:(j::pb::ow).Nodup:=List.nodup_cons.mpr ⟨fun m=>(List.mem_cons.mp m).elim (ap j (.head _)) n0.1,List.nodup_cons.mpr ⟨fun m=>ap pb (.tail _ m) rfl,n0.2⟩⟩
 have back:∀b∈D.five,∃i∈j::pb::ow,φ i=b:=fun b hb=>List.mem_map.mp (e5▸hb)
 rw [A6O m]
 refine B9N Wk O F I.keep R0 (e0▸p▸p1) (e5▸I.mapNd nd hin) (fun b hb=>let ⟨i,hi,e⟩:=back b hb; e▸(I.live i (hin i hi)).1) a1 a2 a3 (t:=f.text ++ A6g f.more) (by rw [A1r,B0q pl1,a4]) ok hA fun s' u kp' D' nn R2 m2 p2 hp'=>?_
 rw [a4] at R2
 have x:A1M C.w.params hs φ σ.nx s'.heap j R (addL line f.text) pb ow:=⟨D',R2,m.trans m2.symm,p.trans p2.symm,hp⟩
 have I':=I.turnTok O (ts:=ts) hg hpb nn back (by rw [Wk.LX]; exact ⟨R,addL line f.text,x,hL,by rw [B9O O.S line pl1,←x3,A1W,Int.natCast_add,Int.add_assoc],hlen⟩) (B0n x) (p▸hp')
 rw [show A0b (rhoR C.ρ R') f.tok=A0b C.ρ f.tok by unfold A0b; rw [B0q pl2]]
 exact q s' u I'
theorem B9Q {hs:Heap} (Wk:WOk C hs) (O:OkC C) (F:A0X C) {vs:List V} {v:V} (h:nat 9 vs σ=some (v,σ')) (hA:Room A 150):A3r C fi A X σ σ' 9 vs v:=fun φ s E Q rvs I hv q=>B6d h fun j toks src pb ow e hg hpb h=>by
 subst e
 rw [Wk.f9]
 refine C1A (p:=fun rvs=>wpAny (MM C) A (call (.ref 42) rvs) Q E s) hv fun x hx=>?_
 rw [A1a hx]
 have x:C.LX φ σ.nx s.heap j (.tok toks src pb ow):=I.get hg
 rw [Wk.LX] at x
 refine e2a4 x fun T line x1 x2 x3 x4=>?_
 cases toks with
 | nil=>
  obtain rfl:=x2.nil_inv
  have e:=Prod.mk.inj (Option.some.inj h)
  rw [←e.1,←e.2] at q
  refine B3z Wk O F I hg hpb (f:=⟨[],[],false⟩) (R:=[]) (ts:=[]) x1 x3 (B9K line) rfl rfl nofun (fun _=>rfl) .nil nofun hA fun s' u I'=>q φ s' _ (Ext.refl _ _) ?_ (.str [] u (Nat.zero_le _))
  rwa [A7V hg] at I'
 | cons t r=>
  refine e2a6 x2.cons_inv fun f R hf hm hn hr e6z e=>?_
  subst e6z
  have pl:=A9k f hf
  have e2:=Prod.mk.inj (Option.some.inj h)
  rw [←e2.1,←e2.2] at q
  refine B3z Wk O F I hg hpb x1 x3 (B5Z f hf line) pl.1 pl.2 hm hn hr (fun t' ht'=>x4 t' (.tail _ ht')) hA fun s' u I'=>q φ s' _ (Ext.refl _ _) I' ?_
  rw [show A0b C.ρ f.tok=A0b C.ρ t by unfold A0b; rw [←e]]
  exact .str t u (x4 t (.head _))
end
end Mine
end
section
namespace Mine
open PySem PySem.W PyProof.Rows
noncomputable def escQ (n:Nat):Pos:=([⟨79,8,79,11⟩,⟨79,13,79,15⟩,⟨79,8,79,15⟩,⟨80,11,80,17⟩,⟨81,19,81,22⟩,⟨81,24,81,28⟩,⟨81,31,81,33⟩,⟨81,24,81,33⟩,⟨81,18,81,34⟩,⟨81,12,81,34⟩,⟨81,12,81,34⟩,⟨82,12,82,18⟩,⟨82,21,82,26⟩,⟨82,12,82,26⟩,⟨83,13,83,15⟩,⟨83,19,83,23⟩,⟨83,13,83,23⟩,⟨84,12,84,18⟩,⟨84,21,84,25⟩,⟨84,12,84,25⟩,⟨86,19,86,22⟩,⟨86,24,86,26⟩,⟨86,18,86,27⟩,⟨86,12,86,27⟩,⟨86,12,86,27⟩,⟨83,8,86,27⟩,⟨80,8,86,27⟩,⟨77,4,77,7⟩,⟨77,10,77,11⟩,⟨77,4,77,11⟩,⟨78,4,78,10⟩,⟨78,13,78,18⟩,⟨78,4,78,18⟩,⟨79,19,79,28⟩,⟨79,29,79,33⟩,⟨79,19,79,34⟩,⟨79,4,86,27⟩,⟨87,7,87,13⟩,⟨88,15,88,18⟩,⟨88,20,88,24⟩,⟨88,14,88,25⟩,⟨88,8,88,25⟩,⟨88,8,88,25⟩]:List Pos).getD n ⟨87,4,88,25⟩
noncomputable def B3A (K:Frag) (a:Addr) (q:Nat→Pos):Bool:=match fdOf K a with
 | some fd=>codeIn K fd.code fd.qualname && !fd.scope.isCoroutine && fd.scope.isGenerator && fd.scope.kind == .function && (fd.scope.names.all fun x=>x.2 != .cell) && fd.globals == mainGlobals && fd.builtins == builtinsNs &&
  (fd.scope.names.lookup ("addr" : Str) == some .local) && (fd.scope.names.lookup ("pos" : Str) == some .local) && (fd.scope.names.lookup ("ch" : Str) == some .local) && (fd.scope.names.lookup ("escape" : Str) == some .local) && (fd.scope.names.lookup ("enumerate" : Str) == some .globalImplicit)
 | none=>false
theorem B3B (P:Params):B3A (KH P) 70 escQ=true:=by kernel_rfl
theorem B6e (P:Params):(fdAt (KH P) 70).body=.stmts (A6b escQ):=by kernel_rfl
theorem B3C (P:Params) (x:Value):bindArgs (fdAt (KH P) 70) ⟨[x],[]⟩=pure [(("addr" : Str),x)]:=by kernel_rfl
section
variable {C:Cx} {A:Around} {E:Value→Shared→Prop} {s:Shared}
theorem C4m {a b c d e f g h i j k l:Bool} {q:Prop} (z:(a && b && c && d && e && f && g && h && i && j && k && l)=true) (H:a=true→b=true→c=true→d=true→e=true→f=true→g=true→h=true→i=true→j=true→k=true→l=true→q):q:=by
 simp only [Bool.and_eq_true] at z
 obtain ⟨⟨⟨⟨⟨⟨⟨⟨⟨⟨⟨c1,c2⟩,c3⟩,c4⟩,c5⟩,c6⟩,c7⟩,c8⟩,c9⟩,c10⟩,c11⟩,c12⟩:=z
 exact H c1 c2 c3 c4 c5 c6 c7 c8 c9 c10 c11 c12
theorem C2H (O:OkC C) {env:Env} (G:GEnv env) (g1:env.globals=mainGlobals) (g2:env.builtins=builtinsNs) {Pr:Addr→Prop} {A':Around} {t:Str} {tk:Tok} {g:Nat} {m:Str→Option Value} (hA':A'.handled=none) (hPC:¬Pr env.locals) {oC:Obj} (hoC:s.heap.get? env.locals=some oC)
  (hns:∀h':Heap,h'.get? env.locals=some oC→h'.Ns env.locals m) (ha:m "addr" = some (.str t tk)) (hat:s.gens[g]?=some (.fresh (.func (A6b escQ) env))) (old:∀b o,C.h₀.get? b=some o→b≠env.locals):B1i C.prog C.w A' Pr C.h₀ g (esc false 0 0 t.cps.toList) s:=by
 refine ⟨_,[env.locals],esc false 0 0 t.cps.toList,hat,rfl,fun b hb=>?_,by rw [Nat.sub_self]; rfl,Nat.le_refl _,fun s'' K hW=>⟨rfl,?_⟩⟩
 ·
  rw [List.mem_singleton.mp hb]
  exact ⟨hPC,_,hoC⟩
 ·
  refine B2Y (A:=A'.in1) (q:=escQ) (m:=m) (tk:=tk) G hA' (hns _ (hW _ (.head _) _ hoC)) ha hPC K.1 (fun A2 s₂ E2 Q2 hk2 hq2=>?_)
  have k2:∀b o,C.h₀.get? b=some o→s₂.heap.get? b=some o:=fun b o x=>hk2 b o (old b o x) (K.2 b o x)
  refine A3p G.kind G.ken (Calls.loadGlobal_builtin (mg:=C.mg) (mb:=C.mb) ?_ (O.H.free _ rfl) ?_ ((O.H.boot "enumerate" (by decide)).trans A7z) hq2)
  ·
   rw [g1]; exact O.H.g.keeps k2
  ·
   rw [g2]; exact O.H.b.keeps k2
theorem B6f (O:OkC C) (X:(KH C.w.params).In C.h₀) (hk:∀b o,C.h₀.get? b=some o→s.heap.get? b=some o) (hroom:A.depth < recursionLimit) {t:Str} {tk:Tok} {Q:Value→Shared→Prop}
  (q:∀a s' gs,s.heap.get? a=none→s'.heap.IsGen a s.gens.size→(∀b o,s.heap.get? b=some o→s'.heap.get? b=some o)→s'.gens=s.gens.push gs→gs.bare=true→s'.drawn=s.drawn→s'.os=s.os→
   (∀(Pr:Addr→Prop) (A':Around),(∀b,Pr b→b=a∨∃o,s.heap.get? b=some o)→A'.handled=none→B1i C.prog C.w A' Pr C.h₀ s.gens.size (esc false 0 0 t.cps.toList) s')→Q (.ref a) s'):
  wpAny (MM C) A (call (.ref 70) [.str t tk]) Q E s:=by
 have hc:=B3B C.w.params
 have hb:=B6e C.w.params
 have hbi:=B3C C.w.params (.str t tk)
 unfold B3A at hc
 cases hf:fdOf (KH C.w.params) 70 with
 | none=>rw [hf] at hc; cases hc
 | some fd=>
 rw [hf] at hc
 have e:fdAt (KH C.w.params) 70=fd:=by unfold fdAt; rw [hf]; rfl
 rw [e] at hb hbi
 refine e1a2 (A3y hf) fun o hl hd'=>?_
 refine C4m hc fun c1 c2 c3 c4 c5 c6 c7 c8 c9 c10 c11 c12=>?_
 have k1:=beq_iff_eq.mp c4
 have l2:fd.scope.isCoroutine=false:=by simpa using c2
 have l8:=beq_iff_eq.mp c8
 have l9:=beq_iff_eq.mp c9
 have l10:=beq_iff_eq.mp c10
 have l11:=beq_iff_eq.mp c11
 have l12:=beq_iff_eq.mp c12
 have g1:=beq_iff_eq.mp c6
 have g2:=beq_iff_eq.mp c7
 have nl:s.heap.NoLimit:=O.H.nolimit.keeps hk
 refine wpAny_call (codeAny_call_generator hroom (hk _ _ (X 70 o hl)) hd' l2 c3 hb ((codeRec_of X c1).keeps hk) (BindsTo.of_eq hbi _ _ _ _ ?_))
 refine wpAny_newFunctionEnv (fun x hx=>bne_iff_ne.mp (List.all_eq_true.mp c5 x hx)) (fun x hx=>by
  simp only [List.mem_cons,List.not_mem_nil,or_false] at hx
  subst hx
  exact beq_iff_eq.mp c8) (fun h₁ hn₁ hs₁=>?_) k1
 have k₁:∀b o,s.heap.get? b=some o→h₁.get? b=some o:=fun b o x=>hs₁.extBut b o (Nat.ne_of_lt (Heap.lt_size x)) (Heap.get?_push_of_some _ x)
 have sz₁:h₁.objs.size=s.heap.objs.size + 1:=by rw [hs₁.1,Heap.size_push]
 refine ⟨nl.keeps k₁,?_⟩
 have kk:∀(o':Obj) b o,s.heap.get? b=some o→(h₁.push o').get? b=some o:=fun o' b o x=>Heap.get?_push_of_some _ (k₁ b o x)
 have hCn:s.heap.get? s.heap.objs.size=none:=A0e s.heap
 have hCa:h₁.objs.size≠s.heap.objs.size:=by rw [sz₁]; exact Nat.succ_ne_self _
 refine q _ _ _ ?_ ⟨_,_,_,Heap.get?_push_size _ rfl,rfl,rfl,rfl⟩ (kk _) rfl rfl rfl rfl fun Pr A' hPr hA'=>?_
 ·
  cases x:s.heap.get? h₁.objs.size with
  | none=>rfl
  | some o=>exact absurd (Heap.lt_size x) (by rw [sz₁]; exact Nat.not_lt.mpr (Nat.le_succ _))
 ·
  have hPC:¬Pr s.heap.objs.size:=fun h=>by
   rcases hPr _ h with h | ⟨o,h⟩
   ·
    exact hCa h.symm
   ·
    rw [hCn] at h; cases h
  refine e3a2 hn₁ fun oC es ep hoC hCr=>?_
  exact C2H (env:=newEnv fd.scope s.heap.objs.size fd.globals fd.closure (fd.qualname ++ ".<locals>.") (some 70) fd.code none fd.builtins) (m:=fun x=>[(("addr" : Str),Value.str t tk)].reverse.lookup x) (tk:=tk) (oC:=oC) O ⟨k1,l2,l9,l10,l11,l8,l12⟩ g1 g2 hA' hPC (Heap.get?_push_of_some _ hoC) (fun h' e=>⟨oC,es,ep,e,hCr⟩) rfl (Array.getElem?_push_size ..) fun b o x eb=>A0a (hCn.symm.trans ((congrArg s.heap.get? (show b=s.heap.objs.size from eb)).symm.trans (hk b o x)))
end
end Mine
end
section
namespace Mine
noncomputable def chkL:List (Nat×List Nat)→Int→Bool
 | [],o=>decide (o=0)
 | p::l,o=>match seq p.2 [40] with
  | true=>chkL l (o + 1)
  | false=>match seq p.2 [41] with
   | true=>(match decide (o - 1 < 0) with | true=>false | false=>chkL l (o - 1))
   | false=>chkL l o
structure Sz where
 st:Int
 op:Option Int
 res:List (List Nat)
noncomputable def addR (t:List Nat) (st o:Int) (res:List (List Nat)):List (List Nat):=match decide (st=o) with
 | true=>res
 | false=>res ++ [cutL t (clip st t.length) (clip o t.length)]
noncomputable def A6l (t:List Nat) (p:Nat×List Nat) (z:Sz):Sz:=match seq p.2 [34] with
 | false=>z
 | true=>match z.op with
  | none=>⟨z.st,some p.1,z.res⟩
  | some o=>⟨p.1 + 1,none,addR t z.st o z.res⟩
noncomputable def A2u (t:List Nat):List (Nat×List Nat)→Sz→Sz
 | [],z=>z
 | p::l,z=>A2u t l (A6l t p z)
noncomputable def finS (t:List Nat) (z:Sz):List Nat:=A3b [] (if z.st < t.length then z.res ++ [cutL t (clip z.st t.length) t.length] else z.res)
noncomputable def A3C (t:List Nat):List Nat:=if A4s t [34] 0 t.length < 0 then t else finS t (A2u t (escA false 0 t) ⟨0,none,[]⟩)
noncomputable def chkF (t:List Nat):Bool:=chkL (escA false 0 (A3C t)) 0
inductive Tk where | op | cl | eo | ec | q1 | q2 | q3 | a
noncomputable def Tk.txt:Tk→List Nat
 | .op=>[40] | .cl=>[41] | .eo=>[92,40] | .ec=>[92,41] | .q1=>[34,40,34] | .q2=>[34,41,41,34] | .q3=>[34,92,34,41,34] | .a=>[97]
noncomputable def Tk.quo:Tk→Bool
 | .q1=>true | .q2=>true | .q3=>true | _=>false
noncomputable def Tk.prs (i:Nat):Tk→List (Nat×List Nat)
 | .op=>[(i,[40])] | .cl=>[(i,[41])] | .eo=>[(i + 1,[92,40])] | .ec=>[(i + 1,[92,41])] | .q1=>[(i,[34]),(i + 1,[40]),(i + 2,[34])] | .q2=>[(i,[34]),(i + 1,[41]),(i + 2,[41]),(i + 3,[34])]
 | .q3=>[(i,[34]),(i + 2,[92,34]),(i + 3,[41]),(i + 4,[34])] | .a=>[(i,[97])]
noncomputable def A0r (l:List Tk):List Nat:=l.flatMap Tk.txt
theorem A1N (k:Tk) (l:List Tk):A0r (k::l)=k.txt ++ A0r l:=by simp [A0r]
theorem B0r (k:Tk) (i:Nat) (r:List Nat):escA false i (k.txt ++ r)=k.prs i ++ escA false (i + k.txt.length) r:=by
 cases k <;> rfl
noncomputable def balT:List Tk→Int→Bool
 | [],o=>decide (o=0)
 | .op::l,o=>balT l (o + 1)
 | .cl::l,o=>match decide (o - 1 < 0) with | true=>false | false=>balT l (o - 1)
 | _::l,o=>balT l o
theorem B9R {l:List Tk}:∀(o:Int) (i:Nat),(∀k∈l,k.quo=false)→chkL (escA false i (A0r l)) o=balT l o:=by
 induction l with
 | nil=>exact fun _ _ _=>rfl
 | cons k l ih=>
  intro o i h
  have ih:=fun o=>ih o (i + k.txt.length) fun x hx=>h x (.tail _ hx)
  have hk:=h k (.head _)
  rw [A1N,B0r]
  cases k with
  | cl=>exact congrArg (fun x=>match decide (o - 1 < 0) with | true=>false | false=>x) (ih _)
  | q1=>exact notf hk
  | q2=>exact notf hk
  | q3=>exact notf hk
  | _=>exact ih _
theorem A9l {l:List Tk}:∀(o:Int),balT (l.filter fun k=>!k.quo) o=balT l o:=by
 induction l with
 | nil=>exact fun _=>rfl
 | cons k l ih=>
  intro o
  cases k with
  | cl=>exact congrArg (fun x=>match decide (o - 1 < 0) with | true=>false | false=>x) (ih _)
  | _=>exact ih _
theorem B1s (l:List (List Nat)):A3b [] l=l.flatten:=by
 cases l with
 | nil=>rfl
 | cons x r=>exact (A5Q [] x r).trans (congrArg (x ++ ·) List.flatMap_id')
theorem B6g {w:Nat} {k:Nat}:∀(s:List Nat) (i:Nat),s.length≤k→A5v [w] k s i=none→w∉s:=by
 induction k with
 | zero=>exact fun s _ h _ hm=>absurd (List.length_pos_of_mem hm) (Nat.not_lt.mpr h)
 | succ k ih=>
  intro s i h e hm
  cases s with
  | nil=>exact nomatch hm
  | cons c s=>
   have e:(match (match Nat.beq w c with | true=>true | false=>false:Bool) with | true=>some i | false=>A5v [w] k s (i + 1))=none:=e
   cases q:Nat.beq w c with
   | true=>rw [q] at e; exact B7S e
   | false=>
    rw [q] at e
    exact (List.mem_cons.mp hm).elim (fun z=>notf ((Nat.beq_refl w).symm.trans (z▸q))) (ih s (i + 1) (Nat.le_of_succ_le_succ h) e)
theorem B6h {w:Nat} {t:List Nat} (h:A4s t [w] 0 t.length < 0):w∉t:=fun hm=>by
 have hp:=List.length_pos_of_mem hm
 unfold A4s at h
 rw [show Nat.blt t.length (0 + [w].length)=false from Bool.eq_false_iff.mpr fun z=>absurd (Nat.le_of_ble_eq_true z) (Nat.not_le.mpr (Nat.succ_lt_succ hp))] at h
 dsimp only at h
 cases e:A5v [w] (t.length + 1 - (0 + [w].length)) (t.drop 0) 0 with
 | none=>exact B6g (t.drop 0) 0 (Nat.le_refl _) e hm
 | some i=>rw [e] at h; exact absurd h (Int.not_lt.mpr (Int.natCast_nonneg i))
theorem B0s (i n:Nat):clip (i:Int) n=Nat.min i n:=rfl
theorem B9S {k:Tk} (h:k.quo=true) (t:List Nat) (i:Nat) (r:List (Nat×List Nat)) (st:Int) (res:List (List Nat)):A2u t (k.prs i ++ r) ⟨st,none,res⟩=A2u t r ⟨((i + k.txt.length:Nat):Int),none,addR t st i res⟩:=by
 cases k with
 | q1=>rfl
 | q2=>rfl
 | q3=>rfl
 | _=>exact noft h
theorem B9T {k:Tk} (h:k.quo=false) (t:List Nat) (i:Nat) (r:List (Nat×List Nat)) (st:Int) (res:List (List Nat)):A2u t (k.prs i ++ r) ⟨st,none,res⟩=A2u t r ⟨st,none,res⟩:=by
 cases k with
 | q1=>exact notf h
 | q2=>exact notf h
 | q3=>exact notf h
 | _=>rfl
theorem B8x {A X:List Nat} {st:Nat} (h:st≤A.length):cutL (A ++ X) (clip st (A ++ X).length) (clip A.length (A ++ X).length)=A.drop st:=by
 have hl:A.length≤(A ++ X).length:=by rw [List.length_append]; exact Nat.le_add_right _ _
 rw [B0s,B0s,show Nat.min st (A ++ X).length=st from Nat.min_eq_left (Nat.le_trans h hl),show Nat.min A.length (A ++ X).length=A.length from Nat.min_eq_left hl]
 show ((A ++ X).take A.length).drop st=A.drop st
 rw [List.take_left]
theorem A8a {α:Type} (l:List (List α)) (x:List α):(l ++ [x]).flatten=l.flatten ++ x:=by rw [List.flatten_append]; exact congrArg (l.flatten ++ ·) (List.append_nil x)
theorem B3D {A X:List Nat} {st:Nat} (h:st≤A.length) (res:List (List Nat)):(addR (A ++ X) st A.length res).flatten=res.flatten ++ A.drop st:=by
 unfold addR
 cases hd:decide ((st:Int)=(A.length:Int)) with
 | true=>rw [Int.ofNat_inj.mp (of_decide_eq_true hd),List.drop_length,List.append_nil]
 | false=>
  dsimp only
  rw [A8a,B8x h]
theorem B9U {A:List Nat} {st:Nat} (h:st≤A.length) (res:List (List Nat)):finS A ⟨st,none,res⟩=res.flatten ++ A.drop st:=by
 unfold finS
 rw [B1s]
 by_cases hl:(st:Int) < (A.length:Int)
 ·
  rw [if_pos hl,A8a]
  have z:=B8x (X:=[]) h
  rw [List.append_nil,show clip (A.length:Int) A.length=A.length from Nat.min_self _] at z
  exact congrArg (res.flatten ++ ·) z
 ·
  rw [if_neg hl,List.drop_of_length_le (Int.ofNat_le.mp (Int.not_lt.mp hl)),List.append_nil]
theorem B3E {l:List Tk}:∀(A:List Nat) (st:Nat) (res:List (List Nat)),st≤A.length→
  finS (A ++ A0r l) (A2u (A ++ A0r l) (escA false A.length (A0r l)) ⟨st,none,res⟩)=res.flatten ++ A.drop st ++ A0r (l.filter fun k=>!k.quo):=by
 induction l with
 | nil=>
  intro A st res h
  show finS (A ++ []) ⟨st,none,res⟩=_ ++ []
  rw [List.append_nil,List.append_nil,B9U h]
 | cons k l ih=>
  intro A st res h
  have eL:A.length + k.txt.length=(A ++ k.txt).length:=List.length_append.symm
  rw [A1N,B0r,←List.append_assoc]
  cases hq:k.quo with
  | true=>
   rw [B9S hq,eL,ih _ _ _ (Nat.le_refl _),List.drop_length,List.append_nil,List.append_assoc A,B3D h,List.filter_cons_of_neg (by rw [hq]; exact nofun)]
  | false=>
   rw [B9T hq,eL,ih _ _ _ (Nat.le_trans h (eL▸Nat.le_add_right _ _)),List.drop_append_of_le_length h,List.filter_cons_of_pos (by rw [hq]; rfl),A1N,List.append_assoc,List.append_assoc,List.append_assoc]
theorem A4f (l:List Tk):A3C (A0r l)=A0r (l.filter fun k=>!k.quo):=by
 unfold A3C
 by_cases h:A4s (A0r l) [34] 0 (A0r l).length < 0
 ·
  rw [if_pos h]
  have hn:=B6h h
  have:∀k∈l,k.quo=false:=fun k hk=>by
   cases hq:k.quo with
   | false=>rfl
   | true=>
    refine absurd (List.mem_flatMap.mpr ⟨k,hk,?_⟩) hn
    cases k <;> first
     | (cases hq; done)
     | simp [Tk.txt]
  rw [List.filter_eq_self.mpr fun k hk=>by rw [this k hk]; rfl]
 ·
  rw [if_neg h]
  exact B3E (l:=l) [] 0 [] (Nat.le_refl _)
theorem B6i (l:List Tk):chkF (A0r l)=balT l 0:=by
 unfold chkF
 rw [A4f,B9R _ _ fun k hk=>by simpa using (List.mem_filter.mp hk).2,A9l]
noncomputable def A1h (us:List Tk) (b:Bool):List Tk:=us ++ [if b then .op else .cl]
noncomputable def B0t:Tk→Bool
 | .op=>false | .cl=>false | _=>true
theorem B9V {us l:List Tk} {o:Int} (h:∀k∈us,B0t k=true):balT (us ++ l) o=balT l o:=by
 induction us with
 | nil=>rfl
 | cons k us ih=>
  have ih:=ih fun x hx=>h x (.tail _ hx)
  have hk:=h k (.head _)
  cases k with
  | op=>exact noft hk
  | cl=>exact noft hk
  | _=>exact ih
noncomputable def bal1:List Bool→Nat→Bool
 | [],c=>Nat.beq c 0
 | b::r,c=>match b with
  | true=>bal1 r (c + 1)
  | false=>match c with
   | 0=>false
   | c + 1=>bal1 r c
theorem B1t (f:Nat→List Tk) (g:Nat→Bool) (hf:∀p,∀k∈f p,B0t k=true) {s:List Nat}:∀(c:Nat),balT (s.flatMap fun p=>A1h (f p) (g p)) (c:Int)=bal1 (s.map g) c:=by
 induction s with
 | nil=>
  intro c
  cases c with
  | zero=>rfl
  | succ c=>exact decide_eq_false fun e=>nomatch Int.ofNat_inj.mp e
 | cons p s ih=>
  intro c
  rw [List.flatMap_cons,List.map_cons]
  generalize g p=x
  rw [show A1h (f p) x=f p ++ [if x=true then Tk.op else Tk.cl] from rfl,List.append_assoc,B9V (hf p)]
  generalize (s.flatMap fun p=>A1h (f p) (g p))=L at ih ⊢
  cases x with
  | true=>exact ih (c + 1)
  | false=>
   cases c with
   | zero=>rfl
   | succ c=>
    show (match decide (((c + 1:Nat):Int) - 1 < 0) with | true=>false | false=>balT L (((c + 1:Nat):Int) - 1))=_
    rw [show ((c + 1:Nat):Int) - 1=(c:Int) from Int.add_sub_cancel (c:Int) 1,decide_eq_false (Int.not_lt.mpr (Int.natCast_nonneg c))]
    exact ih c
noncomputable def opens (p:Nat):Bool:=Nat.beq (p % 2) 1
theorem C2I:∀(s:List Nat) (c:Nat),bal s c=bal1 (s.map opens) c:=by
 intro s
 induction s with
 | nil=>intro c; rfl
 | cons p s ih=>
  intro c
  unfold bal opens
  rw [List.map_cons]
  generalize Nat.beq (p % 2) 1=x
  cases x with
  | true=>exact ih _
  | false=>cases c with
   | zero=>rfl
   | succ c=>exact ih c
end Mine
end
section
namespace Mine
noncomputable def chkB:List S:=[.ifs (.cmp .eq (.loc 3) (.lit (.str [40]))) [.aug (.loc 1) .add (.lit (.int 1))] [.ifs (.cmp .eq (.loc 3) (.lit (.str [41]))) [.aug (.loc 1) .sub (.lit (.int 1)),.ifs (.cmp .lt (.loc 1) (.lit (.int 0))) [.ret (.lit (.bool false))] []] []]]
noncomputable def B1u:Fn:=⟨1,4,[.asg [.loc 0] (.call 8 [.loc 0]),.asg [.loc 1] (.lit (.int 0)),.for_ (.tup [.loc 2,.loc 3]) .gen [.loc 0] chkB,.ret (.cmp .eq (.loc 1) (.lit (.int 0)))]⟩
noncomputable def strB:List S:=[.ifs (.cmp .eq (.loc 5) (.lit (.str [34]))) [.ifs (.cmp .is_ (.loc 2) (.lit .none)) [.asg [.loc 2] (.loc 4)] [.ifs (.cmp .ne (.loc 1) (.loc 2)) [.expr (.meth .append (.loc 3) [.sli (.loc 0) (some (.loc 1)) (some (.loc 2))])] [],.asg [.loc 1] (.bin .add (.loc 4) (.lit (.int 1))),.asg [.loc 2] (.lit .none)]] []]
noncomputable def B6j:Fn:=⟨1,6,[.ifs (.cmp .notin (.lit (.str [34])) (.loc 0)) [.ret (.loc 0)] [],.asg [.loc 1] (.lit (.int 0)),.asg [.loc 2] (.lit .none),.asg [.loc 3] (.lst []),.for_ (.tup [.loc 4,.loc 5]) .gen [.loc 0] strB,
 .ifs (.cmp .lt (.loc 1) (.bi .len [.loc 0])) [.expr (.meth .append (.loc 3) [.sli (.loc 0) (some (.loc 1)) none])] [],.ret (.meth .join (.lit (.str [])) [.loc 3])]⟩
noncomputable def noFn:Fn:=⟨99,0,[]⟩
noncomputable def fnC:List Fn:=[noFn,noFn,noFn,noFn,noFn,noFn,noFn,B1u,B6j]
noncomputable def A1n (t:List Nat):Bool:=t.all fun c=>Nat.blt c symB
theorem A5k {a b:List Nat} (ha:A1n a=true) (hb:A1n b=true):A0F a b=true:=by
 unfold A0F
 rw [show (a.all fun c=>Nat.blt c symB)=true from ha,show (b.all fun c=>Nat.blt c symB)=true from hb]
 rfl
theorem A2X {a:List Nat} (ha:A1n a=true):flat a=true:=List.all_eq_true.mpr fun c hc=>by
 have:=List.all_eq_true.mp ha c hc
 exact Nat.blt_eq.mpr (Nat.lt_trans (Nat.blt_eq.mp this) (Nat.lt_add_of_pos_right (by decide)))
theorem B3F {hp:List (Nat×O)} {a b:List Nat} (ha:A1n a=true) (hb:A1n b=true):veq hp (.str a) (.str b)=some (seq a b):=by
 show (match A0F a b with | true=>some (seq a b) | false=>none)=_
 rw [A5k ha hb]
theorem t_eq {FT:List Fn} {n i:Nat} {σ:St} {c w:List Nat} (h:nth σ.loc i=some (.str c)) (hc:A1n c=true) (hw:A1n w=true):run FT (n + 2) (.t (.cmp .eq (.loc i) (.lit (.str w)))) σ=some (.b (seq c w),σ):=
 B4F (op:=.eq) (v:=.str c) (w:=.str w) (σ₁:=σ) (σ₂:=σ) (show bnd (nth σ.loc i) σ=_ by rw [h]; rfl) rfl (B3F (hp:=σ.hp) hc hw)
noncomputable def chkS (a:List Nat) (o:Int) (x y:V) (nx:Nat):St:=⟨[.str a,.int o,x,y],[],[],nx⟩
theorem B6k (n:Nat) (a c:List Nat) (o p:Int) (nx:Nat) (hc:A1n c=true):
  run fnC (n + 12) (.ss chkB) (chkS a o (.int p) (.str c) nx)=match seq c [40] with
   | true=>some (.f .next,chkS a (o + 1) (.int p) (.str c) nx)
   | false=>match seq c [41] with
    | true=>(match decide (o - 1 < 0) with
     | true=>some (.f (.ret (.bool false)),chkS a (o - 1) (.int p) (.str c) nx)
     | false=>some (.f .next,chkS a (o - 1) (.int p) (.str c) nx))
    | false=>some (.f .next,chkS a o (.int p) (.str c) nx):=by
 refine A6u (R_if (t_eq rfl hc rfl) ?_)
 cases seq c [40] with
 | true=>rfl
 | false=>
  refine A6u (R_if (σ:=chkS a o (.int p) (.str c) nx) (t_eq rfl hc rfl) ?_)
  cases seq c [41] with
  | false=>rfl
  | true=>
   refine R_ss (B4G (σ:=chkS a o (.int p) (.str c) nx) rfl rfl rfl rfl rfl) (A6u (R_if (σ₁:=chkS a (o - 1) (.int p) (.str c) nx) (c:=decide (o - 1 < 0)) rfl ?_))
   cases decide (o - 1 < 0) with
   | true=>rfl
   | false=>rfl
theorem A6m {p:Nat×List Nat} (h:(∀c∈p.2,c < symB)):A1n p.2=true:=List.all_eq_true.mpr fun c hc=>Nat.blt_eq.mpr (h c hc)
theorem A2Y (l l' c c':List V) (nx:Nat):A3L ⟨l,c,[],nx⟩ ⟨l',c',[],nx⟩=true:=Bool.and_eq_true_iff.mpr ⟨Nat.beq_refl nx,rfl⟩
theorem A8b (l l' c c':List V) (xs ys:List V):A3L ⟨l,c,[(0,.list xs)],1⟩ ⟨l',c',[(0,.list ys)],1⟩=true:=rfl
theorem B6l (a:List Nat) (nx:Nat) {l:List (Nat×List Nat)}:∀(F:Nat) (o:Int) (x y:V),(∀p∈l,∀c∈p.2,c < symB)→l.length + 13≤F→
  ∃f σ',run fnC F (.forG (.tup [.loc 2,.loc 3]) chkB l) (chkS a o x y nx)=some (.f f,σ')∧
   ((f=.ret (.bool false)∧chkL l o=false∧σ'.hp=[]∧σ'.nx=nx)∨(f=.next∧∃o' x' y',σ'=chkS a o' x' y' nx∧chkL l o=decide (o'=0))):=by
 induction l with
 | nil=>
  intro F o x y _ hF
  obtain ⟨n,rfl⟩:=Nat.exists_eq_add_of_le' hF
  exact ⟨.next,_,rfl,.inr ⟨rfl,o,x,y,rfl,rfl⟩⟩
 | cons p l ih=>
  intro F o x y h hF
  obtain ⟨n,rfl⟩:=Nat.exists_eq_add_of_le' (Nat.le_trans (Nat.add_le_add_right (Nat.succ_le_succ (Nat.zero_le l.length)) 13) hF)
  have ih:=fun o=>ih (n + 13) o (.int p.1) (.str p.2) (fun q hq=>h q (.tail _ hq)) (Nat.le_of_succ_le_succ hF)
  have hb:=B6k (n + 1) a p.2 o (p.1:Int) nx (A6m (h p (.head _)))
  unfold chkL
  cases h1:seq p.2 [40] with
  | true=>
   rw [h1] at hb
   refine e2a2 (ih (o + 1)) fun f σ' e r=>?_
   exact ⟨f,σ',A9H rfl rfl hb (A2Y _ _ _ _ nx) e,r⟩
  | false=>
   rw [h1] at hb
   cases h2:seq p.2 [41] with
   | true=>
    rw [h2] at hb
    cases h3:decide (o - 1 < 0) with
    | true=>
     rw [h3] at hb
     exact ⟨_,_,B8M rfl rfl hb,.inl ⟨rfl,rfl,rfl,rfl⟩⟩
    | false=>
     rw [h3] at hb
     refine e2a2 (ih (o - 1)) fun f σ' e r=>?_
     exact ⟨f,σ',A9H rfl rfl hb (A2Y _ _ _ _ nx) e,r⟩
   | false=>
    rw [h2] at hb
    refine e2a2 (ih o) fun f σ' e r=>?_
    exact ⟨f,σ',A9H rfl rfl hb (A2Y _ _ _ _ nx) e,r⟩
noncomputable def opV:Option Int→V
 | none=>.none
 | some o=>.int o
noncomputable def strS (t:List Nat) (z:Sz) (x y:V):St:=⟨[.str t,.int z.st,opV z.op,.ref 0,x,y],[],[(0,.list (z.res.map .str))],1⟩
theorem B3G {t:List Nat} {z:Sz} {x y:V} (s:List Nat) (h:z.res.length≤4000):A1G .append (strS t z x y) (.ref 0) [.str s]=some (.none,strS t { z with res:=z.res ++ [s] } x y):=by
 refine (if_pos (by rw [List.length_map]; exact h)).trans ?_
 unfold strS
 rw [List.map_append]
 rfl
theorem B6m (n:Nat) (t c:List Nat) (z:Sz) (p:Nat) (hc:A1n c=true) (ht:A1n t=true) (hres:z.res.length≤4000):
  run fnC (n + 14) (.ss strB) (strS t z (.int p) (.str c))=some (.f .next,strS t (A6l t (p,c) z) (.int p) (.str c)):=by
 refine A6u (R_if (t_eq rfl hc rfl) ?_)
 unfold A6l
 dsimp only
 cases seq c [34] with
 | false=>rfl
 | true=>
  obtain ⟨st,op,res⟩:=z
  cases op with
  | none=>rfl
  | some o=>
   refine A6u (R_if (σ:=strS t ⟨st,some o,res⟩ (.int p) (.str c)) (σ₁:=strS t ⟨st,some o,res⟩ (.int p) (.str c)) (c:=false) rfl ?_)
   have t2:run fnC (n + 8) (.t (.cmp .ne (.loc 1) (.loc 2))) (strS t ⟨st,some o,res⟩ (.int p) (.str c))=some (.b (!decide (st=o)),strS t ⟨st,some o,res⟩ (.int p) (.str c)):=B4F rfl rfl rfl
   have hs:A2C (strS t ⟨st,some o,res⟩ (.int p) (.str c)) (.str t) (some (.int st)) (some (.int o))=some (.str (cutL t (clip st t.length) (clip o t.length)),strS t ⟨st,some o,res⟩ (.int p) (.str c)):=(A6t (A2X ht)).trans rfl
   unfold addR
   dsimp only
   generalize decide (st=o)=d at t2 ⊢
   cases d with
   | true=>exact R_ss (σ₁:=strS t ⟨st,some o,res⟩ (.int p) (.str c)) (R_if t2 (by kernel_rfl)) (by kernel_rfl)
   | false=>exact R_ss (σ₁:=strS t ⟨st,some o,res ++ [cutL t (clip st t.length) (clip o t.length)]⟩ (.int p) (.str c)) (R_if t2 (A6u (B1L (A6w rfl rfl (R_es (B1M rfl (fun f=>rfl) hs) rfl) rfl (B3G _ hres))))) (by kernel_rfl)
theorem A8c (t:List Nat) (p:Nat×List Nat) (z:Sz):(A6l t p z).res.length≤z.res.length + 1:=by
 unfold A6l
 cases seq p.2 [34] with
 | false=>exact Nat.le_succ _
 | true=>
  cases z.op with
  | none=>exact Nat.le_succ _
  | some o=>
   show (addR t z.st o z.res).length≤_
   unfold addR
   cases decide (z.st=o) with
   | true=>exact Nat.le_succ _
   | false=>exact Nat.le_of_eq List.length_append
theorem B6n (t:List Nat) (ht:A1n t=true) {l:List (Nat×List Nat)}:∀(F:Nat) (z:Sz) (x y:V),(∀p∈l,∀c∈p.2,c < symB)→z.res.length + l.length≤4000→l.length + 15≤F→
  ∃x' y',run fnC F (.forG (.tup [.loc 4,.loc 5]) strB l) (strS t z x y)=some (.f .next,strS t (A2u t l z) x' y'):=by
 induction l with
 | nil=>
  intro F z x y _ _ hF
  obtain ⟨n,rfl⟩:=Nat.exists_eq_add_of_le' hF
  exact ⟨x,y,rfl⟩
 | cons p l ih=>
  intro F z x y h hl hF
  obtain ⟨n,rfl⟩:=Nat.exists_eq_add_of_le' (Nat.le_trans (Nat.add_le_add_right (Nat.succ_le_succ (Nat.zero_le l.length)) 15) hF)
  obtain ⟨x',y',e⟩:=ih (n + 15) (A6l t p z) (.int p.1) (.str p.2) (fun q hq=>h q (.tail _ hq)) (Nat.le_trans (Nat.add_le_add_right (A8c t p z) _) (by rw [Nat.add_right_comm]; exact hl)) (Nat.le_of_succ_le_succ hF)
  exact ⟨x',y',A9H rfl rfl (B6m (n + 1) t p.2 z p.1 (A6m (h p (.head _))) ht (Nat.le_trans (Nat.le_add_right _ _) hl)) (A8b _ _ _ _ _ _) e⟩
theorem B3H (l:List (List Nat)):B0E (l.map .str)=some l:=by
 induction l with
 | nil=>rfl
 | cons x l ih=>
  show (B0E (l.map .str)).map (x::·)=_
  rw [ih]; rfl
theorem B1v (t:List Nat) {l:List (Nat×List Nat)}:∀(z:Sz),(A2u t l z).res.length≤z.res.length + l.length:=by
 induction l with
 | nil=>exact fun z=>Nat.le_refl _
 | cons p l ih=>exact fun z=>Nat.le_trans (ih _) (Nat.le_trans (Nat.add_le_add_right (A8c t p z) _) (Nat.le_of_eq (Nat.add_right_comm _ _ _)))
theorem A4C {t:List Nat}:∀(b:Bool) (i:Nat),(escA b i t).length≤t.length + 1:=by
 induction t with
 | nil=>intro b i; cases b <;> exact Nat.le_of_ble_eq_true rfl
 | cons c r ih=>
  intro b i
  cases b with
  | true=>exact Nat.succ_le_succ (ih false (i + 1))
  | false=>
   show (if c=92 then escA true (i + 1) r else (i,[c])::escA false (i + 1) r).length≤_
   by_cases h:c=92
   ·
    rw [if_pos h]; exact Nat.le_succ_of_le (ih true (i + 1))
   ·
    rw [if_neg h]; exact Nat.succ_le_succ (ih false (i + 1))
theorem A3D {r:List Nat} (b:Bool) (i:Nat) (h:∀c∈r,c < symB):∀p∈escA b i r,∀c∈p.2,c < symB:=fun p hp=>(A6c r b i h p hp).1
theorem B0u (FT:List Fn) (n:Nat) (s:S) (l:List S) (σ:St):run FT (n + 1) (.ss (s::l)) σ=match run FT n (.s s) σ with | some (.f .next,σ)=>run FT n (.ss l) σ | x=>x:=rfl
theorem B9W {FT:List Fn} {n f:Nat} {vs:List V} {σ σ':St} {fn:Fn} {v:V} (h0:(nth FT 11).isSome=false) (h1:nth FT f=some fn) (h2:vs.length=fn.params∧vs.length < 50) (h:run FT n (.ss fn.body) { σ with loc:=vs ++ List.replicate (fn.size - vs.length) .unb,cel:=[] }=some (.f (.ret v),σ')):
  run FT (n + 1) (.app f vs) σ=some (.v v,{ tidy σ' σ.nx v with loc:=σ.loc,cel:=σ.cel }):=by
 show (match A7d (nth FT 11).isSome f vs σ with | some p=>some (R.v p.1,p.2) | none=>_)=_
 rw [h0]
 show (nth FT f).bind _=_
 rw [h1]
 show (if vs.length=fn.params∧vs.length < 50 then _ else _)=_
 rw [if_pos h2,h]; rfl
noncomputable def strU (t:List Nat):St:=⟨.str t::List.replicate 5 .unb,[],[],0⟩
theorem B9X (t:List Nat) (ht:A1n t=true) (hl:t.length≤3000) (hfin:(A3C t).length≤4000) (k:Nat) (hk:t.length≤k) (loc cel:List V):
  ∃m,run fnC (k + 40) (.app 8 [.str t]) ⟨loc,cel,[],0⟩=some (.v (.str (A3C t)),⟨loc,cel,[],m⟩):=by
 have hsm:∀c∈t,c < symB:=fun c hc=>Nat.blt_eq.mp (List.all_eq_true.mp ht c hc)
 have c1:run fnC (k + 37) (.t (.cmp .notin (.lit (.str [34])) (.loc 0))) (strU t)=some (.b (!!decide (A4s t [34] 0 t.length < 0)),strU t):=B4F rfl rfl (by
  show (match A0F t [34] with | true=>some (!decide (A4s t [34] 0 t.length < 0)) | false=>none:Option Bool).map (!·)=_
  rw [A5k ht rfl]; rfl)
 unfold A3C at hfin ⊢
 by_cases hq:A4s t [34] 0 t.length < 0
 ·
  rw [if_pos hq]
  rw [decide_eq_true hq] at c1
  exact ⟨0,(B1P (FT:=fnC) (f:=8) (fn:=B6j) rfl rfl ⟨rfl,Nat.le_of_ble_eq_true rfl⟩ (A6v (R_if c1 (A6v (A4L (σ₁:=strU t) (v:=.str t) (by kernel_rfl)))))).trans rfl⟩
 ·
  rw [if_neg hq] at hfin ⊢
  rw [decide_eq_false hq] at c1
  refine e2a1 (B6n t ht (l:=escA false 0 t) (k + 33) ⟨0,none,[]⟩ .unb .unb (A3D false 0 hsm) (Nat.le_trans (Nat.add_le_add_left (Nat.le_trans (A4C false 0) (Nat.succ_le_succ hl)) 0) (by decide)) (show _≤k + 1 + 32 from Nat.add_le_add (Nat.le_trans (A4C false 0) (Nat.succ_le_succ hk)) (by decide:15≤32))) fun x' y' hloop=>?_
  have hzl:(A2u t (escA false 0 t) ⟨0,none,[]⟩).res.length≤4000:=Nat.le_trans (B1v t _) (Nat.le_trans (Nat.add_le_add_left (Nat.le_trans (A4C false 0) (Nat.succ_le_succ hl)) 0) (by decide))
  generalize A2u t (escA false 0 t) ⟨0,none,[]⟩=z at hloop hzl hfin ⊢
  have s5:run fnC (k + 33) (.s (.ifs (.cmp .lt (.loc 1) (.bi .len [.loc 0])) [.expr (.meth .append (.loc 3) [.sli (.loc 0) (some (.loc 1)) none])] [])) (strS t z x' y')=some (.f .next,strS t { z with res:=if z.st < t.length then z.res ++ [cutL t (clip z.st t.length) t.length] else z.res } x' y'):=by
   have t5:run fnC (k + 32) (.t (.cmp .lt (.loc 1) (.bi .len [.loc 0]))) (strS t z x' y')=some (.b (decide (z.st < t.length)),strS t z x' y'):=B4F rfl (R_bi (u':=.int t.length) rfl ((A6t (A2X ht)).trans rfl)) rfl
   have hs:A2C (strS t z x' y') (.str t) (some (.int z.st)) none=some (.str (cutL t (clip z.st t.length) t.length),strS t z x' y'):=(A6t (A2X ht)).trans rfl
   by_cases hlt:z.st < t.length
   ·
    rw [if_pos hlt]
    rw [decide_eq_true hlt] at t5
    exact R_if t5 (A6u (B1L (A6w rfl rfl (R_es (B1M rfl (fun f=>rfl) hs) rfl) rfl (B3G (cutL t (clip z.st t.length) t.length) hzl))))
   ·
    rw [if_neg hlt]
    rw [decide_eq_false hlt] at t5
    exact R_if t5 rfl
  unfold finS at hfin ⊢
  generalize (if z.st < t.length then z.res ++ [cutL t (clip z.st t.length) t.length] else z.res)=R at s5 hfin ⊢
  have hj:A1G .join (strS t { z with res:=R } x' y') (.str []) [.ref 0]=some (.str (A3b [] R),strS t { z with res:=R } x' y'):=by
   show (B0E (R.map .str)).bind _=_
   rw [B3H]
   exact if_pos hfin
  exact ⟨1,(B1P (FT:=fnC) (f:=8) (fn:=B6j) rfl rfl ⟨rfl,Nat.le_of_ble_eq_true rfl⟩ (R_ss (σ₁:=strU t) (R_if c1 (by kernel_rfl)) (R_ss (σ₁:=⟨[.str t,.int 0,.unb,.unb,.unb,.unb],[],[],0⟩) (by kernel_rfl) (R_ss (σ₁:=⟨[.str t,.int 0,.none,.unb,.unb,.unb],[],[],0⟩) (by kernel_rfl) (R_ss (σ₁:=strS t ⟨0,none,[]⟩ .unb .unb) (by kernel_rfl)
   (R_ss (B8O rfl ht hloop) (R_ss s5 (A6v (A4L (A6w rfl rfl rfl rfl hj)))))))))).trans rfl⟩
noncomputable def chkU (t:List Nat) (m:Nat):St:=⟨.str t::List.replicate 3 .unb,[],[],m⟩
theorem B9Y (t:List Nat) (ht:A1n t=true) (hl:t.length≤3000) (hsub:A1n (A3C t)=true) (hfin:(A3C t).length≤t.length) (k:Nat) (hk:t.length≤k) (loc cel:List V):
  ∃m,run fnC (k + 60) (.app 7 [.str t]) ⟨loc,cel,[],0⟩=some (.v (.bool (chkF t)),⟨loc,cel,[],m⟩):=by
 obtain ⟨m,hs⟩:=B9X t ht hl (Nat.le_trans hfin (Nat.le_trans hl (by decide))) (k + 16) (Nat.le_trans hk (Nat.le_add_right _ _)) (.str t::List.replicate 3 .unb) []
 refine ⟨m,?_⟩
 unfold chkF
 generalize A3C t=u at hs hsub hfin ⊢
 have hsm:∀c∈u,c < symB:=fun c hc=>Nat.blt_eq.mp (List.all_eq_true.mp hsub c hc)
 refine e2a2 (B6l u m (l:=escA false 0 u) (k + 55) 0 .unb .unb (A3D false 0 hsm) (show _≤k + 1 + 54 from Nat.add_le_add (Nat.le_trans (A4C false 0) (Nat.succ_le_succ (Nat.le_trans hfin hk))) (by decide:13≤54))) fun f σ' hloop hc=>?_
 have s0:run fnC (k + 58) (.s (.asg [.loc 0] (.call 8 [.loc 0]))) (chkU t 0)=some (.f .next,chkU u m):=(A3M (σ₁:=⟨.str t::List.replicate 3 .unb,[],[],m⟩) (B1N (vs:=[.str t]) (σ₁:=chkU t 0) (by kernel_rfl) hs) rfl).trans (by kernel_rfl)
 have b:∀{w:Bool} {σ₂:St},run fnC (k + 57) (.ss [.for_ (.tup [.loc 2,.loc 3]) .gen [.loc 0] chkB,.ret (.cmp .eq (.loc 1) (.lit (.int 0)))]) (chkS u 0 .unb .unb m)=some (.f (.ret (.bool w)),σ₂)→σ₂.hp=[]→σ₂.nx=m→run fnC (k + 60) (.app 7 [.str t]) ⟨loc,cel,[],0⟩=some (.v (.bool w),⟨loc,cel,[],m⟩):=fun {w σ₂} h h1 h2=>by
  refine (B1P (FT:=fnC) (f:=7) (fn:=B1u) rfl rfl ⟨rfl,Nat.le_of_ble_eq_true rfl⟩ (R_ss s0 (R_ss (σ₁:=chkS u 0 .unb .unb m) (by kernel_rfl) h))).trans ?_
  obtain ⟨l2,c2,hp2,n2⟩:=σ₂
  have h1:hp2=[]:=h1
  have h2:n2=m:=h2
  subst h1 h2
  rfl
 rcases hc with ⟨rfl,h2,h3,h4⟩ | ⟨rfl,o',x',y',rfl,h2⟩
 ·
  rw [h2]
  exact b (A6v (B8O rfl hsub hloop)) h3 h4
 ·
  rw [h2]
  exact b (R_ss (B8O rfl hsub hloop) (A6v (A4L (A5F (σ₂:=chkS u o' x' y' m) rfl rfl rfl)))) rfl rfl
theorem B9Z (l:List Tk) (hl:(A0r l).length≤120) (loc cel:List V):∃m,run fnC 180 (.app 7 [.str (A0r l)]) ⟨loc,cel,[],0⟩=some (.v (.bool (balT l 0)),⟨loc,cel,[],m⟩):=by
 have tk_small:∀l:List Tk,A1n (A0r l)=true:=fun l=>List.all_eq_true.mpr fun c hc=>by
  refine e1a2 (List.mem_flatMap.mp hc) fun k _ hc=>?_
  have:c < 100:=by
   cases k <;> simp [Tk.txt] at hc <;> lia
  exact Nat.blt_eq.mpr (Nat.lt_trans this (by show 100 < 2097152; lia))
 have tk_len:∀(l:List Tk),(A0r (l.filter fun k=>!k.quo)).length≤(A0r l).length:=fun l=>by
  induction l with
  | nil=>exact Nat.le_refl _
  | cons k l ih=>
   rw [List.filter_cons,A1N]
   split
   ·
    rw [A1N]; simp; lia
   ·
    simp; lia
 have h:=B9Y (A0r l) (tk_small l) (by lia) (by rw [A4f]; exact tk_small _) (by rw [A4f]; exact tk_len l) 120 hl loc cel
 rw [B6i] at h
 exact h
theorem C2J {β:Type} {r:β} {q:Prop} {c:Prop} [i:Decidable c] {k:Option β} (h:(if c then k else none)=some r) (H:c→k=some r→q):q:=by
 induction i with
 | isTrue hc=>exact H hc h
 | isFalse _=>exact A0a h
theorem B6o {FT:List Fn} {n f:Nat} {vs:List V} {σ σ':St} {fn:Fn} {b:Bool} (h0:(nth FT 11).isSome=false) (h1:nth FT f=some fn) (h:run FT (n + 1) (.app f vs) σ=some (.v (.bool b),σ')):
  ∃σ₂,run FT n (.ss fn.body) { σ with loc:=vs ++ List.replicate (fn.size - vs.length) .unb,cel:=[] }=some (.f (.ret (.bool b)),σ₂):=by
 unfold run step B0H at h
 simp only [h0,A7d,h1,Option.bind] at h
 refine C2J h fun _ h=>?_
 generalize run FT n (.ss fn.body) _=p at h
 match p with
 | some (.f (.ret v),σ₂)=>exact ⟨σ₂,(by cases h; rfl)⟩
 | some (.f .next,_)=>exact nomatch (Prod.mk.inj (Option.some.inj h)).1
 | none | some (.v _,_) | some (.vs _,_) | some (.b _,_) | some (.f .brk,_) | some (.f .cont,_)=>exact A0a h
end Mine
end
section
namespace Mine
open PySem PySem.W PyProof.Rows
section
variable {C:Cx} {P:Params}
theorem fn7 (X:(KH P).In C.h₀) (h:C.fv 7=84):FnIs C 7 B1u:=
 A1j X h (ps:=["addr"]) (k:=60) (by kernel_rfl) (by kernel_rfl) (by kernel_rfl) (by kernel_rfl) (by kernel_rfl) fun rvs hr=>l1 rvs hr fun x0=>by kernel_rfl
theorem fn8 (X:(KH P).In C.h₀) (h:C.fv 8=77):FnIs C 8 B6j:=
 A1j X h (ps:=["addr"]) (k:=60) (by kernel_rfl) (by kernel_rfl) (by kernel_rfl) (by kernel_rfl) (by kernel_rfl) fun rvs hr=>l1 rvs hr fun x0=>by kernel_rfl
theorem C2K (X:(KH P).In C.h₀):∃o fd,C.h₀.get? 70=some o∧o.data=.func fd:=by
 have hc:=B3B P
 unfold B3A at hc
 cases hf:fdOf (KH P) 70 with
 | none=>rw [hf] at hc; cases hc
 | some fd=>
  refine e1a2 (A3y hf) fun o hl hd'=>?_
  exact ⟨o,fd,X 70 o hl,hd'⟩
end
section
variable {C:Cx} {fi:Fi} {φ φ':Nat→Addr} {X X':List (Addr×Obj)} {σ σ' σ₁ σ₂ σ₃:St} {s s' s₁:Shared} {A:Around} {E Q:Value→Shared→Prop} {W:List Addr}
theorem OkC.withGens (O:OkC C) (G:Array GenState):OkC (C.withGens G):=⟨⟨O.H.g,O.H.b,O.H.nolimit,O.H.boot,O.H.free,O.H.con,O.H.ρlen,O.H.ext,O.H.frz⟩,O.S,O.pos,O.small⟩
theorem A0X.withGens (F:A0X C) (G:Array GenState):A0X (C.withGens G):=⟨F.glob,F.fn,F.fnr⟩
theorem FnIs.withGens {f:Nat} {fn:Fn} (F:FnIs C f fn) (G:Array GenState):FnIs (C.withGens G) f fn:=⟨let ⟨fd,ps,k,F⟩:=F.ex; ⟨fd,ps,k,⟨F.R,F.len,F.nd,F.idx,F.tr,F.bind⟩⟩⟩
structure Raw (C:Cx):Prop where
 O:OkC C
 F:A0X C
 X:(KH C.w.params).In C.h₀
 esc:C.mg "_iter_escaped_chars" = some (.ref 70)
theorem Raw.at (R:Raw C) (hk:∀b o,C.h₀.get? b=some o→s.heap.get? b=some o) (hW:∀b∈W,C.h₀.get? b=none):Raw (C.at s W) where
 O:=B3n R.O hk hW
 F:=B8u R.F hk hW
 X:=fun a o e=>Cx.at_keep hk hW a o (R.X a o e)
 esc:=R.esc
theorem C2L (R:Raw C):B2Z C where
 glob:=R.esc
 fn:=C2K R.X
 make:=fun hk hroom q=>B6f R.O R.X hk hroom q
theorem C0a (R:Raw C) (hL:C.LX=fun _ _ _ _ _=>False) {FT:List Fn} (h11:(nth FT 11).isSome=false) (hfn:∀f fn,nth FT f=some fn→fn.params < 50→FnIs C f fn):HypG C FT 0 where
 O:=R.O
 L:=B3p R.O hL
 F:=R.F
 N:=fun h=>nomatch (h11.symm.trans h)
 fn:=hfn
 G:=fun _=>⟨C2L R,fun G=>⟨R.O.withGens G,B3p (R.O.withGens G) hL,R.F.withGens G,(fun h=>nomatch (h11.symm.trans h)),fun f fn h1 h2=>(hfn f fn h1 h2).withGens G⟩⟩
theorem B0v (R:Raw C) (hk:∀b o,C.h₀.get? b=some o→s.heap.get? b=some o) (hW:∀b∈W,C.h₀.get? b=none) {FT:List Fn} (h11:(nth FT 11).isSome=false) (hfn:∀f fn,nth FT f=some fn→fn.params < 50→FnIs C f fn) {f:Nat} {fn:Fn} (hF:FnIs C f fn)
  {vs:List V} {rvs:List Value} {hp:List (Nat×O)} {nx n:Nat} {v:V} (hlen:vs.length=fn.params) (hv:VRs C.ρ φ nx vs rvs) (hid:∀i∈A0c hp,φ i∈W∧∃ob,s.heap.get? (φ i)=some ob)
  (inj:∀i∈A0c hp,∀j∈A0c hp,φ i=φ j→i=j) (nd:(A0c hp).Nodup) (low:∀i∈A0c hp,i < nx) (hh:∀p∈hp,OR (fun _ _ _ _ _=>False) C.ρ φ nx s.heap p.1 p.2)
  (hr:run FT n (.ss fn.body) ⟨vs ++ List.replicate (fn.size - vs.length) .unb,[],hp,nx⟩=some (.f (.ret v),σ₂)) (hR:Room A (n + 1))
  (q:∀φ' s' rv fi',Ext φ φ' nx→Inv (C.at s W) fi' φ' [] σ₂ s'→VR C.ρ φ' σ₂.nx v rv→Q rv s'):wpAny (MM C) A (call (.ref (C.fv f)) rvs) Q E s:=by
 have RA:=R.at (s:=s) hk hW
 have kk:=Cx.at_keep (s:=s) hk hW
 have H:HypG (C.at s W) FT 0:=C0a RA rfl h11 fun f fn h1 h2=>(hfn f fn h1 h2).mono kk rfl
 have B:=bigG n H
 refine e3a1 hF.ex fun fd ps k F=>?_
 refine e1a2 F.R.obj fun o f1 f2=>?_
 have hrl:rvs.length=fn.params:=hv.length.trans hlen
 refine wpAny_call (codeAny_call_def (A0v hR) (hk _ _ f1) f2 (R.O.H.nolimit.keeps hk) (F.R.code.keeps hk) F.R.body (F.bind s rvs hrl) F.R.cell (fun x hx=>F.R.loc _ (List.of_mem_zip hx).1) (fun h₁ hns hk1=>?_) F.R.co F.R.gen F.R.kind)
 refine B.ss hr hR.deep F.tr φ _ _ _ (A4B (s₁:={ heap:=h₁,gens:=s.gens,drawn:=s.drawn,toks:=s.toks + (ps.zip rvs).length,os:=s.os }) hW (F.R.env _) (A0e _) hk1 hns .nil (fun a ha=>nomatch ha) (fun i hi=>⟨(hid i hi).1,nofun,(hid i hi).2⟩) inj nd low (F.locs hv hrl) (fun k a h=>nomatch h) (fun p hp=>OR.ext RA.O.H (hh p hp) (Ext.refl _ _) (Nat.le_refl _) (fun j hj=>low j (A0s hp j hj)) fun _ _ _ e=>hk1 _ _ e) rfl rfl rfl) fun φ' s' rf e I' fr=>?_
 cases fr with
 | ret hv'=>exact q φ' s' _ _ e I' hv'
structure A9m (ρ:Nat→List Nat):Prop where
 ex:∃us:Nat→List Tk,(∀p,∀x∈us p,B0t x=true)∧∀p,symB + 8≤p→ρ (p - symB)=A0r (A1h (us p) (opens p))∧(A0r (A1h (us p) (opens p))).length≤15
theorem B6p {vs:List V} {v:V} (h:nat 7 vs σ=some (v,σ')):∃ss,vs=[.str ss]∧(∀p∈ss,symB + 8≤p)∧ss.length≤8∧v=.bool (bal ss 0)∧σ'=σ:=
 A9P (k:=fun v:V=>v.s fun s=>gd (s.all (Nat.ble (symB + 8)) && Nat.ble s.length 8) (some (V.bool (bal s 0),σ))) (show nat7 vs σ=some (v,σ') from h) fun x e h=>s_on h fun s e2 h=>A1D h fun hc h=>
  let hc:=Bool.and_eq_true_iff.mp hc
  let e3:=Prod.mk.inj (Option.some.inj h)
  ⟨s,e2▸e,fun p hp=>Nat.le_of_ble_eq_true (List.all_eq_true.mp hc.1 p hp),Nat.le_of_ble_eq_true hc.2,e3.1.symm,e3.2.symm⟩
theorem C0b (R:Raw C) (PW:A9m C.ρ) (h7:C.fv 7=84) (h8:C.fv 8=77) {vs:List V} {v:V} (h:nat 7 vs σ=some (v,σ')) (hA:Room A 200):A3r C fi A X σ σ' 7 vs v:=by
 intro φ s E Q rvs I hv q
 refine e1a5 (B6p h) fun ss e1z hp hl e4z e5z=>?_
 subst e1z e4z e5z
 refine e1a2 PW.ex fun us hus hu=>?_
 have hsv:∀l:List Nat,(∀p∈l,symB + 8≤p)→sv C.ρ l=A0r (l.flatMap fun p=>A1h (us p) (opens p))∧(sv C.ρ l).length≤15 * l.length:=by
  intro l
  induction l with
  | nil=>intro _; exact ⟨rfl,Nat.le_refl _⟩
  | cons p l ih=>
   intro hl
   obtain ⟨e1,e2⟩:=ih fun x hx=>hl x (.tail _ hx)
   obtain ⟨u1,u2⟩:=hu p (hl p (.head _))
   have h0:=hl p (.head _)
   have e0:sv C.ρ (p::l)=A0r (A1h (us p) (opens p)) ++ sv C.ρ l:=by
    show (if p < symB then [p] else C.ρ (p - symB)) ++ sv C.ρ l=_
    rw [if_neg (by lia),u1]
   refine ⟨?_,?_⟩
   ·
    rw [e0,e1,List.flatMap_cons]
    unfold A0r
    rw [List.flatMap_append]
   ·
    rw [e0,List.length_append,List.length_cons]; lia
 obtain ⟨e1,e2⟩:=hsv ss hp
 cases hv with
 | cons a b=>
 cases b
 cases a with
 | str _ tk hlen=>
 generalize hT:ss.flatMap (fun p=>A1h (us p) (opens p))=T at e1
 have hTl:(A0r T).length≤120:=by rw [←e1]; lia
 obtain ⟨m,hrun⟩:=B9Z T hTl [] []
 have hbal:balT T 0=bal ss 0:=by
  rw [←hT,C2I]
  exact B1t us opens hus 0
 have hbody:∃σ₂,run fnC 179 (.ss B1u.body) ⟨[V.str (A0r T)] ++ List.replicate (B1u.size - 1) .unb,[],[],0⟩=some (.f (.ret (.bool (bal ss 0))),σ₂):=by
  rw [hbal] at hrun
  exact B6o (fn:=B1u) rfl rfl hrun
 obtain ⟨σ₂,hb⟩:=hbody
 have hstr:A0b C.ρ ss=A0b C.ρ (A0r T):=by
  unfold A0b
  rw [e1,A2H C.ρ (l:=A0r T) fun c hc=>by
   refine e1a2 (List.mem_flatMap.mp hc) fun k _ hc=>?_
   have:c < 100:=by cases k <;> simp [Tk.txt] at hc <;> lia
   exact Nat.lt_trans this (by show 100 < 2097152; lia)]
 rw [hstr]
 refine B0v (W:=[]) (FT:=fnC) (φ:=φ) (nx:=0) (hp:=[]) R I.keep (by simp) rfl (fun f fn h1 h2=>?_) (fn7 R.X h7) (vs:=[.str (A0r T)]) rfl (.cons (.str _ _ (by lia)) .nil) (fun i hi=>by cases hi) (fun i hi=>by cases hi) .nil (fun i hi=>by cases hi) (fun p hp=>by cases hp) hb (hA.le rfl) fun φ' s' rv fi' e I' hr=>?_
 ·
  match f,h1 with
  | 0,h1=>cases h1; exact absurd h2 (by decide)
  | 1,h1=>cases h1; exact absurd h2 (by decide)
  | 2,h1=>cases h1; exact absurd h2 (by decide)
  | 3,h1=>cases h1; exact absurd h2 (by decide)
  | 4,h1=>cases h1; exact absurd h2 (by decide)
  | 5,h1=>cases h1; exact absurd h2 (by decide)
  | 6,h1=>cases h1; exact absurd h2 (by decide)
  | 7,h1=>cases h1; exact fn7 R.X h7
  | 8,h1=>cases h1; exact fn8 R.X h8
  | f + 9,h1=>cases h1
 ·
  cases hr
  exact q φ s' _ (Ext.refl _ _) (I.growNear R.O.H I'.near) (.bool _)
theorem C4n (R:Raw C) {hs:Heap} (Wk:WOk C hs) (PW:A9m C.ρ) (h7:C.fv 7=84) (h8:C.fv 8=77):B9u C 200:=by
 intro fi A X σ σ' f vs v h hA
 have hf:f=7∨f=9:=by
  unfold nat at h
  cases h7:Nat.beq f 7 with
  | true=>exact .inl (Nat.eq_of_beq_eq_true h7)
  | false=>rw [h7] at h; exact A1D h fun h9 _=>.inr (Nat.eq_of_beq_eq_true h9)
 rcases hf with rfl | rfl
 ·
  exact C0b R PW h7 h8 h hA
 ·
  exact B9Q Wk R.O R.F h (hA.le rfl)
end
end Mine
end
section
namespace Mine
open PySem PySem.W PyProof.Rows
set_option tactic.hygienic true in
theorem A0q:∀(names:List (Str×NameKind)) (k:Nat) (acc:List (Str×Addr)) (x:Str),((∃c,acc.lookup x=some c)∨(x,NameKind.cell)∈names)→∃c,(cellsFrom k names acc).lookup x=some c
 | [],k,acc,x,h=>by
  rcases h with h | h
  ·
   exact h
  ·
   cases h
 | (n,kd)::r,k,acc,x,h=>by
  unfold cellsFrom
  split
  ·
   refine A0q r _ _ x ?_
   rcases h with ⟨c,h⟩ | h
   ·
    left
    rw [List.lookup_cons]
    cases hb:x == n with
    | true=>exact ⟨_,rfl⟩
    | false=>exact ⟨c,h⟩
   ·
    rcases List.mem_cons.mp h with e | h
    ·
     left
     cases e
     rw [List.lookup_cons,beq_self_eq_true]; exact ⟨_,rfl⟩
    ·
     exact .inr h
  ·
   rename_i hk
   refine A0q r _ _ x ?_
   rcases h with h | h
   ·
    exact .inl h
   ·
    rcases List.mem_cons.mp h with e | h
    ·
     cases e; exact absurd rfl hk
    ·
     exact .inr h
noncomputable def A5l (fd:FuncData) (L:Addr):List Addr:=(A0i fd.scope).cels.map fun x=>((cellsFrom (L + 1) fd.scope.names []).lookup x).getD 0
theorem A1X:∀{l:List (Str×NameKind)} {x:Str},(∀y∈l,y.2≠.free)→x∈A4M l→(x,NameKind.cell)∈l
 | (n,k)::l,x,h,hm=>by
  have ih:=A1X (l:=l) (x:=x) fun y hy=>h y (.tail _ hy)
  have h0:=h (n,k) (.head _)
  unfold A4M at hm ih
  cases k with
  | cell=>
   rw [List.filterMap_cons] at hm
   rcases List.mem_cons.mp hm with rfl | hm
   ·
    exact .head _
   ·
    exact .tail _ (ih hm)
  | free=>exact absurd rfl h0
  | _=>exact .tail _ (ih hm)
theorem A8d {kind:Str→Option NameKind}:∀{b:List (Str×Value)} {m:Str→Option Value} {x:Str},x∉b.map (·.1)→bindL kind b m x=m x
 | [],m,x,_=>rfl
 | (n,v)::r,m,x,h=>by
  unfold bindL
  have h1:x≠n:=fun e=>h (by simp [e])
  have h2:x∉r.map (·.1):=fun e=>h (by simp only [List.map_cons]; exact .tail _ e)
  rw [A8d h2]
  split
  ·
   exact if_neg h1
  ·
   rfl
theorem A8e {kind:Str→Option NameKind}:∀{b:List (Str×Value)} {m:Str→Option Value} {x:Str},x∉b.map (·.1)→bindC kind b m x=m x
 | [],m,x,_=>rfl
 | (n,v)::r,m,x,h=>by
  unfold bindC
  have h1:x≠n:=fun e=>h (by simp [e])
  have h2:x∉r.map (·.1):=fun e=>h (by simp only [List.map_cons]; exact .tail _ e)
  rw [A8e h2]
  split
  ·
   rfl
  ·
   exact if_neg h1
theorem B0w {ps:List Str} {rvs:List Value} {x:Str} (h:x∉ps):x∉(ps.zip rvs).map (·.1):=fun hm=>by
 refine e1a2 (List.mem_map.mp hm) fun p hp e2z=>?_
 subst e2z
 exact h (List.of_mem_zip hp).1
theorem A8f {kind:Str→Option NameKind}:∀{ps:List Str} {rvs:List Value} {m:Str→Option Value} {i:Nat} {x:Str} {rv:Value},ps.Nodup→ps[i]?=some x→rvs[i]?=some rv→kind x=some .local→bindL kind (ps.zip rvs) m x=some rv
 | [],_,_,i,_,_,_,h,_,_=>by cases i <;> cases h
 | p::ps,[],_,i,_,_,_,_,h,_=>by cases i <;> cases h
 | p::ps,w::rvs,m,0,x,rv,nd,h1,h2,hk=>by
  simp only [List.getElem?_cons_zero,Option.some.injEq] at h1 h2
  subst h1 h2
  rw [List.zip_cons_cons,bindL,A8d (B0w (List.nodup_cons.mp nd).1),if_pos hk,if_pos rfl]
 | p::ps,w::rvs,m,i + 1,x,rv,nd,h1,h2,hk=>by
  rw [List.zip_cons_cons,bindL]
  exact A8f (List.nodup_cons.mp nd).2 (by simpa using h1) (by simpa using h2) hk
theorem A8g {kind:Str→Option NameKind}:∀{ps:List Str} {rvs:List Value} {m:Str→Option Value} {i:Nat} {x:Str} {rv:Value},ps.Nodup→ps[i]?=some x→rvs[i]?=some rv→kind x≠some .local→bindC kind (ps.zip rvs) m x=some rv
 | [],_,_,i,_,_,_,h,_,_=>by cases i <;> cases h
 | p::ps,[],_,i,_,_,_,_,h,_=>by cases i <;> cases h
 | p::ps,w::rvs,m,0,x,rv,nd,h1,h2,hk=>by
  simp only [List.getElem?_cons_zero,Option.some.injEq] at h1 h2
  subst h1 h2
  rw [List.zip_cons_cons,bindC,A8e (B0w (List.nodup_cons.mp nd).1),if_neg hk,if_pos rfl]
 | p::ps,w::rvs,m,i + 1,x,rv,nd,h1,h2,hk=>by
  rw [List.zip_cons_cons,bindC]
  exact A8g (List.nodup_cons.mp nd).2 (by simpa using h1) (by simpa using h2) hk
structure RecC (h₀:Heap) (a:Addr) (fd:FuncData) (ps:List Str):Prop where
 obj:∃o,h₀.get? a=some o∧o.data=.func fd
 code:h₀.CodeRec fd.code fd.qualname
 body:fd.body=.stmts (A0Y fd)
 co:fd.scope.isCoroutine=false
 gen:fd.scope.isGenerator=false
 kind:fd.scope.kind=.function
 nofree:∀x∈fd.scope.names,x.2≠.free
 ndebug:∀x∈fd.scope.names,(x.1 == ("__debug__" : Str))=false∧(x.1 == ("__classdict__" : Str))=false
 nodup:ps.Nodup
 pars:∀x∈ps,fd.scope.names.lookup x=some .local∨fd.scope.names.lookup x=some .cell
 clo:fd.closure=[]
 globals:fd.globals=mainGlobals
 builtins:fd.builtins=builtinsNs
 look:∀x,(at? (A0i fd.scope).locs x).isSome=true→fd.scope.names.lookup x=some .local
 lookC:∀x,x∈(A0i fd.scope).cels→fd.scope.names.lookup x=some .cell
 nodC:(A0i fd.scope).cels.Nodup
noncomputable def B3I (K:Frag) (a:Addr) (ps:List Str):Bool:=match fdOf K a with
 | some fd=>codeIn K fd.code fd.qualname && (match fd.body with | .stmts _=>true | _=>false) && !fd.scope.isCoroutine && !fd.scope.isGenerator && fd.scope.kind == .function && (fd.scope.names.all fun x=>x.2 != .free && x.1 != ("__debug__" : Str) && x.1 != ("__classdict__" : Str)) &&
  decide ps.Nodup && (ps.all fun x=>fd.scope.names.lookup x == some .local || fd.scope.names.lookup x == some .cell) && fd.closure.isEmpty && fd.globals == mainGlobals && fd.builtins == builtinsNs &&
  ((A0i fd.scope).locs.all fun x=>fd.scope.names.lookup x == some .local) && ((A0i fd.scope).cels.all fun x=>fd.scope.names.lookup x == some .cell) && decide (A0i fd.scope).cels.Nodup
 | none=>false
theorem A9n {K:Frag} {h₀:Heap} (X:K.In h₀) {a:Addr} {ps:List Str} (hc:B3I K a ps=true):RecC h₀ a (fdAt K a) ps:=by
 unfold B3I at hc
 cases hf:fdOf K a with
 | none=>rw [hf] at hc; cases hc
 | some fd=>
 rw [hf] at hc
 have e:fdAt K a=fd:=by unfold fdAt; rw [hf]; rfl
 rw [e]
 refine e1a2 (A3y hf) fun o hl hd=>?_
 simp only [Bool.and_eq_true] at hc
 obtain ⟨⟨⟨⟨⟨⟨⟨⟨⟨⟨⟨⟨⟨c1,c2⟩,c3⟩,c4⟩,c5⟩,c6⟩,c7⟩,c8⟩,c9⟩,c10⟩,c11⟩,c12⟩,c13⟩,c14⟩:=hc
 have names:∀x∈fd.scope.names,x.2≠.free∧(x.1 == ("__debug__" : Str))=false∧(x.1 == ("__classdict__" : Str))=false:=fun x hx=>by
  have:=List.all_eq_true.mp c6 x hx
  simp only [Bool.and_eq_true] at this
  exact ⟨bne_iff_ne.mp this.1.1,beq_eq_false_iff_ne.mpr (bne_iff_ne.mp this.1.2),beq_eq_false_iff_ne.mpr (bne_iff_ne.mp this.2)⟩
 exact {
  obj:=⟨o,X a o hl,hd⟩
  code:=codeRec_of X c1
  body:=by
   unfold A0Y
   cases hbb:fd.body with
   | stmts b=>rfl
   | expr x=>rw [hbb] at c2; cases c2
  co:=by simpa using c3
  gen:=by simpa using c4
  kind:=beq_iff_eq.mp c5
  nofree:=fun x hx=>(names x hx).1
  ndebug:=fun x hx=>(names x hx).2
  nodup:=of_decide_eq_true c7
  pars:=fun x hx=>by
   have:=List.all_eq_true.mp c8 x hx
   rw [Bool.or_eq_true] at this
   exact this.imp beq_iff_eq.mp beq_iff_eq.mp
  clo:=List.isEmpty_iff.mp c9
  globals:=beq_iff_eq.mp c10
  builtins:=beq_iff_eq.mp c11
  look:=fun x hx=>by
   obtain ⟨k,hk⟩:=Option.isSome_iff_exists.mp hx
   exact beq_iff_eq.mp (List.all_eq_true.mp c12 x (List.mem_of_getElem? (A1C hk)))
  lookC:=fun x hx=>beq_iff_eq.mp (List.all_eq_true.mp c13 x hx)
  nodC:=of_decide_eq_true c14 }
section
variable {C:Cx} {φ φ':Nat→Addr} {X:List (Addr×Obj)} {s s' s₁:Shared} {A:Around} {E Q:Value→Shared→Prop}
noncomputable abbrev fiC (fd:FuncData) (L a:Addr):Fi:=⟨callEnvC fd L a,A0i fd.scope,A5l fd L⟩
theorem RecC.env {h₀:Heap} {a L:Addr} {fd:FuncData} {ps:List Str} (R:RecC h₀ a fd ps):A2E (fiC fd L a):=by
 have kof:∀x,(callEnvC fd L a).kindOf x=fd.scope.names.lookup x:=fun x=>rfl
 have cel:∀x k,at? (A0i fd.scope).cels x=some k→∃c,(A5l fd L)[k]?=some c∧(callEnvC fd L a).cells.lookup x=some c:=fun x k h=>by
  have h1:=A1C h
  have hm:=A1X R.nofree (List.mem_of_getElem? h1)
  obtain ⟨c,hc⟩:=A0q fd.scope.names (L + 1) [] x (.inr hm)
  refine ⟨c,?_,hc⟩
  unfold A5l
  rw [List.getElem?_map,h1]
  show some ((List.lookup x (cellsFrom (L + 1) fd.scope.names [])).getD 0)=some c
  rw [hc]; rfl
 exact {
  kind:=R.kind
  globals:=R.globals
  builtins:=R.builtins
  loc:=fun x h=>h
  glob:=fun x h=>h
  celk:=fun x h=>h
  frek:=fun x h=>.inr h
  cell:=fun x k _ h2=>cel x k h2
  nclass:=fun x k h2=>(R.ndebug (x,.cell) (A1X R.nofree (List.mem_of_getElem? (A1C h2)))).2
  ndebug:=fun x h=>by
   have h:(fd.scope.names.lookup x).isSome=true:=h
   obtain ⟨q,hq⟩:=Option.isSome_iff_exists.mp h
   exact (R.ndebug (x,q) (A0O hq)).1 }
theorem enterC (H:C.Ok) (hk:∀b o,C.h₀.get? b=some o→s.heap.get? b=some o) {fd:FuncData} {a:Addr} {ps:List Str} (R:RecC C.h₀ a fd ps) {vs:List V} {rvs:List Value} {hp:List (Nat×O)} {nx:Nat} {loc cel:List V}
  (x:InCallC s (callEnvC fd s.heap.objs.size a).locals (bindL (callEnvC fd s.heap.objs.size a).kindOf (ps.zip rvs) fun _=>none) (callEnvC fd s.heap.objs.size a).cells (bindC (callEnvC fd s.heap.objs.size a).kindOf (ps.zip rvs) fun _=>none) s₁)
  (hv:VRs C.ρ φ nx vs rvs) (hid:∀i∈A0c hp,C.h₀.get? (φ i)=none∧∃ob,s.heap.get? (φ i)=some ob)
  (inj:∀i∈A0c hp,∀j∈A0c hp,φ i=φ j→i=j) (nd:(A0c hp).Nodup) (low:∀i∈A0c hp,i < nx) (hh:∀p∈hp,OR C.LX C.ρ φ nx s.heap p.1 p.2)
  (hl:∀k v,nth loc k=some v→v≠.unb→∃i y,(A0i fd.scope).locs[k]?=some y∧ps[i]?=some y∧nth vs i=some v)
  (hc:∀k v,nth cel k=some v→v≠.unb→∃i y,(A0i fd.scope).cels[k]?=some y∧ps[i]?=some y∧nth vs i=some v) (hg:∃more,s.gens=C.gens ++ more∧AllBare more) (hd:s.drawn=C.drawn) (ho:s.os=C.os)
  (hX:∀p∈X,s.heap.get? p.1=some p.2∧C.h₀.get? p.1=none∧∀i∈A0c hp,φ i≠p.1):
  Inv C (fiC fd s.heap.objs.size a) φ X ⟨loc,cel,hp,nx⟩ s₁:=by
 refine e2a2 x.done fun h' tk e2z hkeep=>?_
 subst e2z
 have hL:=A0e s.heap
 have cadm:∀b∈A5l fd s.heap.objs.size,∃y,y∈(A0i fd.scope).cels∧(callEnvC fd s.heap.objs.size a).cells.lookup y=some b:=fun b hb=>by
  refine e1a2 (List.mem_map.mp hb) fun y hy e2z=>?_
  subst e2z
  have hm:=A1X R.nofree hy
  obtain ⟨c,hc⟩:=A0q fd.scope.names (s.heap.objs.size + 1) [] y (.inr hm)
  exact ⟨y,hy,by show (cellsFrom _ _ _).lookup y=_; rw [hc]; rfl⟩
 have above:∀b∈A5l fd s.heap.objs.size,s.heap.objs.size < b:=fun b hb=>by
  refine e1a2 (cadm b hb) fun y hy he=>?_
  exact x.above y b (PySem.mem_of_lookup he)
 have free:∀b∈s.heap.objs.size::A5l fd s.heap.objs.size,s.heap.get? b=none:=fun b hb=>by
  rcases List.mem_cons.mp hb with rfl | hb
  ·
   exact hL
  ·
   cases q:s.heap.get? b with
   | none=>rfl
   | some o=>exact absurd (Nat.lt_trans (above b hb) (Heap.lt_size q)) (Nat.lt_irrefl _)
 exact {
  keep:=fun b o e=>hkeep b o (hk b o e)
  inj:=inj
  live:=fun i hi=>⟨(hid i hi).1,let ⟨ob,e⟩:=(hid i hi).2; ⟨ob,hkeep _ _ e⟩⟩
  env:=R.env
  ids:=nd
  low:=low
  nd:=by
   show (s.heap.objs.size::A5l fd s.heap.objs.size).Nodup
   refine List.nodup_cons.mpr ⟨fun hm=>absurd (above _ hm) (Nat.lt_irrefl _),?_⟩
   unfold A5l
   rw [List.Nodup,List.pairwise_map]
   refine List.Pairwise.imp_of_mem (fun {y z} hy hz hne e=>hne ?_) R.nodC
   obtain ⟨c,hc⟩:=A0q fd.scope.names (s.heap.objs.size + 1) [] y (.inr (A1X R.nofree hy))
   obtain ⟨d,hd⟩:=A0q fd.scope.names (s.heap.objs.size + 1) [] z (.inr (A1X R.nofree hz))
   rw [hc,hd] at e
   have e:c=d:=e
   subst e
   exact name_of_addr x.apart (PySem.mem_of_lookup hc) (PySem.mem_of_lookup hd)
  off:=fun b hb=>by
   unfold Fi.ads at hb
   rcases List.mem_append.mp hb with hb | hb
   rotate_left
   ·
    refine e1a2 (List.mem_map.mp hb) fun p hp e2z=>?_
    subst e2z
    exact ⟨(hX p hp).2.1,(hX p hp).2.2⟩
   have hf:=free b hb
   refine ⟨?_,fun i hi e=>?_⟩
   ·
    cases q:C.h₀.get? b with
    | none=>rfl
    | some o=>have:=hk _ _ q; rw [hf] at this; cases this
   ·
    obtain ⟨ob,e2⟩:=(hid i hi).2
    rw [e,hf] at e2; cases e2
  apart:=fun b hb hm=>by
   refine e1a2 (List.mem_map.mp hm) fun p hp e2z=>?_
   subst e2z
   have h1:=(hX p hp).1
   have h2:s.heap.get? p.1=none:=free p.1 hb
   rw [h2] at h1; cases h1
  loc:=⟨_,x.toInCall.ns,fun y k v h1 h2 h3=>by
   refine e2a3 (hl k v h2 h3) fun i z e1 e2 e3=>?_
   have hz:=A1C h1
   have hz:(A0i fd.scope).locs[k]?=some y:=hz
   rw [e1] at hz
   cases hz
   refine e1a2 (hv.nth e3) fun rv e4 e5=>?_
   exact ⟨rv,A8f R.nodup e2 e4 (R.look _ (by rw [h1]; rfl)),e5⟩⟩
  cel:=fun k b hb=>by
   have hb':(A5l fd s.heap.objs.size)[k]?=some b:=hb
   unfold A5l at hb'
   rw [List.getElem?_map] at hb'
   refine e1a2 (Option.map_eq_some_iff.mp hb') fun y hy e=>?_
   have hm:=List.mem_of_getElem? hy
   obtain ⟨c,hc2⟩:=A0q fd.scope.names (s.heap.objs.size + 1) [] y (.inr (A1X R.nofree hm))
   rw [hc2] at e
   have e:c=b:=e
   subst e
   refine e1a2 (x.cell y c hc2) fun o ho1 ho2=>?_
   refine ⟨o,_,ho1,ho2,fun v h2 h3=>?_⟩
   refine e2a3 (hc k v h2 h3) fun i z e1 e2 e3=>?_
   rw [hy] at e1
   cases e1
   refine e1a2 (hv.nth e3) fun rv e4 e5=>?_
   exact ⟨rv,A8g R.nodup e2 e4 (by rw [show (callEnvC fd s.heap.objs.size a).kindOf y=fd.scope.names.lookup y from rfl,R.lookC y hm]; simp),e5⟩
  hp:=fun p hp=>OR.ext H (hh p hp) (Ext.refl _ _) (Nat.le_refl _) (fun j hj=>low j (A0s hp j hj)) fun _ _ _ e=>hkeep _ _ e
  xs:=fun p hp=>hkeep _ _ (hX p hp).1
  gens:=hg
  drawn:=hd
  os:=ho }
end
end Mine
end
section
namespace Mine
open PySem PySem.W PyProof.Rows
theorem RecC.cellsOk {h₀:Heap} {a L:Addr} {fd:FuncData} {ps:List Str} (R:RecC h₀ a fd ps) {rvs:List Value}:∀x∈ps.zip rvs,fd.scope.names.lookup x.1=some .local∨(fd.scope.names.lookup x.1=some .cell∧((cellsFrom (L + 1) fd.scope.names []).lookup x.1).isSome=true):=fun x hx=>by
 rcases R.pars x.1 (List.of_mem_zip hx).1 with h | h
 ·
  exact .inl h
 ·
  obtain ⟨c,hc⟩:=A0q fd.scope.names (L + 1) [] x.1 (.inr (A0O h))
  exact .inr ⟨h,by rw [hc]; rfl⟩
section
variable {C:Cx} {fi fi':Fi} {φ φ':Nat→Addr} {X:List (Addr×Obj)} {σ σ' σ₁ σ₂:St} {s s' s₁:Shared} {A:Around} {E Q:Value→Shared→Prop} {N:Nat}
theorem B3J (O:OkC C) {FT:List Fn} {n:Nat} (B:SndU C (run FT n) N) {a:Addr} {fd:FuncData} {ps:List Str} (RC:RecC C.h₀ a fd ps) {vs:List V} {rvs:List Value} (hbind:bindArgs fd ⟨rvs,[]⟩=pure (ps.zip rvs)) {kt:Nat} {v:V} {loc cel:List V} {t:List S}
  (I:Inv C fi φ X σ s) (hv:VRs C.ρ φ σ.nx vs rvs)
  (hl:∀k v,nth loc k=some v→v≠.unb→∃i y,(A0i fd.scope).locs[k]?=some y∧ps[i]?=some y∧nth vs i=some v)
  (hc:∀k v,nth cel k=some v→v≠.unb→∃i y,(A0i fd.scope).cels[k]?=some y∧ps[i]?=some y∧nth vs i=some v)
  (ht:TrSS kt (A0i fd.scope) t (A0Y fd)) (hr:run FT n (.ss t) ⟨loc,cel,σ.hp,σ.nx⟩=some (.f (.ret v),σ₂)) (hR:Room A (N + 1))
  (q:∀φ' s' rv,Ext φ φ' σ.nx→Inv C fi φ' X { σ₂ with loc:=σ.loc,cel:=σ.cel } s'→VR C.ρ φ' σ₂.nx v rv→Q rv s'):wpAny (MM C) A (call (.ref a) rvs) Q E s:=by
 obtain ⟨o,ho,hdd⟩:=RC.obj
 obtain ⟨Y,hY1,hY2⟩:=B0i I
 have hroom:Room (A.deeper (callEnvC fd s.heap.objs.size a)) N:=hR.deep
 refine wpAny_call (codeAny_call_cells (A0v hR) (I.keep _ _ ho) hdd (O.H.nolimit.keeps I.keep) (RC.code.keeps I.keep) RC.body hbind RC.clo RC.cellsOk (fun s₁ x=>?_) RC.co RC.gen RC.kind)
 have hn:=B.nx _ _ _ _ hr
 have I1:Inv C (fiC fd s.heap.objs.size a) φ (Y ++ X) ⟨loc,cel,σ.hp,σ.nx⟩ s₁:=
  enterC O.H I.keep RC x hv I.live I.inj I.ids I.low I.hp hl hc I.gens I.drawn I.os fun p hp=>by
   have hm:p.1∈fi.ads X:=by
    unfold Fi.ads
    rcases List.mem_append.mp hp with hp | hp
    ·
     exact List.mem_append_left _ (by rw [←hY1]; exact List.mem_map_of_mem hp)
    ·
     exact List.mem_append_right _ (List.mem_map_of_mem hp)
   refine ⟨?_,(I.off _ hm).1,(I.off _ hm).2⟩
   rcases List.mem_append.mp hp with hp | hp
   ·
    exact hY2 p hp
   ·
    exact I.xs p hp
 refine B.ss hr hroom ht φ _ _ _ I1 fun φ' s' rf e I' fr=>?_
 cases fr with
 | ret hv'=>exact q φ' s' _ e (I.leave hY1 hY2 I' e hn) hv'
end
end Mine
end
section
namespace Mine
open PySem PySem.W PyProof.Rows
noncomputable abbrev KK (P:Params):Frag:=KH P
noncomputable def esAt (K:Frag) (L:Addr):=match K.lookup L with
 | some o=>(match o.data with
  | .dict es _=>some es
  | _=>none)
 | none=>none
noncomputable def nsAt (K:Frag) (L:Addr) (x:Str):Option Value:=(esAt K L).bind fun es=>nsFind es x
noncomputable def B8y (K:Frag) (L:Addr):Bool:=(esAt K L).isSome
theorem C0c {K:Frag} {h:Heap} {L:Addr} {m:Str→Option Value} (X:K.In h) (hn:h.Ns L m) (hd:B8y K L=true) (x:Str):m x=nsAt K L x:=by
 refine e3a4 hn fun o es' ep' ho hdata _ hf=>?_
 unfold nsAt
 unfold B8y esAt at *
 cases e:K.lookup L with
 | none=>rw [e] at hd; exact noft hd
 | some o'=>
  rw [Option.some.inj ((X L _ e).symm.trans ho)]
  show m x=Option.bind (match o.data with | .dict es _=>some es | _=>none) fun es=>nsFind es x
  rw [hdata]
  exact (hf x).symm
theorem C2M {P:Params}:∃t1 t2,(KH P).lookup 52=some (excClassObj "_netrclex" "_netrclex" 52 51 [.type "object"] [.type "object"] true [] [] false none none none none (some (.str "_netrclex" t1)) (some (.str "_netrclex" t2)) (some (.bool true)) "object.__new__"):=⟨189,197,by kernel_rfl⟩
theorem C2N {P:Params}:(KH P).lookup 28=some ⟨.type "function",(((KH P).lookup 28).getD default).dict,.func (fdAt (KH P) 28),(((KH P).lookup 28).getD default).slots⟩:=by kernel_rfl
noncomputable def A1O:Obj:={ cls:=.type "dict",data:=.dict #[] }
section
variable {prog:Program} {w:World} {P:Params} {A:Around} {E Q:Value→Shared→Prop}
theorem B1w {h:Heap} {g:Array GenState} {d:Drawn} {t:Nat} {os:OsState} {st:Value} (X:(KH P).In h)
  (q:wpAny (model prog w) (A.under (.builtin "type.__call__" ⟨[.ref 52,st],[]⟩)) (call (.ref 28) [.ref (h.objs.size + 1),st]) (fun r s'=>r=.none∧Q (.ref (h.objs.size + 1)) s') E ⟨(h.push A1O).push (lexI h.objs.size),g,d,t,os⟩):
  wpAny (model prog w) A (call (.ref 52) [st]) Q E ⟨h,g,d,t,os⟩:=by
 refine e2a1 (C2M (P:=P)) fun t1 t2 e52=>?_
 have hC:=X 52 _ e52
 have hn:h.Ns 51 (h.nsMap 51):=.of_isNs (isNs_of_in X (by kernel_rfl))
 have hi:h.nsMap 51 "__init__" = some (.ref 28):=(C0c X hn (by kernel_rfl) _).trans (by kernel_rfl)
 have f1:=tc_lookup
 have f2:=tc_bind (.ref 52)
 have hT:(⟨h,g,d,t,os⟩:Shared).TypeIs (.ref 52) "type" := ⟨_,hC,rfl⟩
 refine wpAny_call (codeAny_of_tree ?_)
 show wpAny _ _ (callAny (.ref 52) _) _ _ _
 repeat (any_goals (first | assumption | with_reducible refine wpAny_loadPart_at hC ?_ | wp_step))
 refine ⟨rfl,?_⟩
 refine codeAny_call_builtin_at (Code.quiet_builtin _ (by decide +kernel)) entry_typeCall (wpAny_check_type_call_sub hC ?_)
 have hmro:mroOf (.type "object")=pure [.type "object"]:=by kernel_rfl
 have hlk:typeLookup (.type "object") "__init__" = pure (some (.builtin "object.__init__")):=by rw [typeLookup_type,builtinLookup_eq_fast]; kernel_rfl
 show wpAny _ _ (Builtin.«type.__call__» ⟨[.ref 52,st],[]⟩) _ _ _
 repeat (first | with_reducible refine wpAny_loadPart_at hC ?_ | with_reducible refine wpAny_madeBy_exc hC ?_ | wp_step)
 refine codeAny_call_builtin_code (Code.quiet_builtin _ PySem.F.objNew.quiet) (wpAny_check_obj_new PySem.F.objNew hC (codeAny_obj_new PySem.F.objNew hC hn hi ?_))
 have up:∀{b o},h.get? b=some o→((h.push A1O).push (lexI h.objs.size)).get? b=some o:=fun e=>Heap.get?_push_of_some _ (Heap.get?_push_of_some _ e)
 have hx:((h.push A1O).push (lexI h.objs.size)).get? (h.objs.size + 1)=some (lexI h.objs.size):=by
  have:=Heap.get?_push_size (h.push A1O) (o:=lexI h.objs.size) rfl
  rw [Heap.size_push] at this
  exact this
 have h28:=X 28 _ C2N
 have hcC:(Value.ref 52::[Value.type "object"]).contains (.ref 52)=true:=rfl
 show wpAny _ _ _ _ _ (⟨(h.push A1O).push (lexI h.objs.size),g,d,t,os⟩:Shared)
 unfold isInstance
 repeat (first | with_reducible refine wpAny_loadPart_at hx ?_ | wp_step)
 show wpAny _ _ (isSubtype (.ref 52) (.ref 52)) _ _ _
 refine wpAny_isSubtype_exc (up hC) ?_
 rw [hcC]
 repeat (first | with_reducible refine wpAny_loadPart_at hx ?_ | wp_step)
 show wpAny _ _ (typeLookup (.ref 52) _) _ _ _
 refine wpAny_typeLookup_exc (up hC) (hn.keeps fun b o e=>up e) hmro hlk ?_
 rw [hi]
 have h28T:(⟨(h.push A1O).push (lexI h.objs.size),g,d,t,os⟩:Shared).TypeIs (.ref 28) "function" := ⟨_,up h28,rfl⟩
 refine wpAny_holding (wpAny_bind ?_)
 unfold bindSpecial
 refine wpAny_bind (wpAny_typeOf h28T ?_)
 rw [if_pos (by decide)]
 refine wpAny_pure (wpAny_bind (wpAny_mono q (fun r s' hr=>?_) fun _ _ x=>x))
 rw [hr.1]
 wp_walk
 exact hr.2
end
end Mine
end
section
namespace Mine
open PySem PySem.W PyProof.Rows
noncomputable def st1 (k:Nat→TH):Obj:=⟨.type "dict",none,.dict #[⟨(k 0).2,.str "lineno" (k 0).1,.int 1 (k 1).1⟩] 1,#[]⟩
noncomputable def st2 (st:Addr) (k:Nat→TH):Obj:=⟨.type "dict",none,.dict #[⟨(k 0).2,.str "lineno" (k 0).1,.int 1 (k 1).1⟩,⟨(k 2).2,.str "instream" (k 2).1,.ref st⟩] 2,#[]⟩
noncomputable def st3 (st:Addr) (k:Nat→TH):Obj:=⟨.type "dict",none,.dict #[⟨(k 0).2,.str "lineno" (k 0).1,.int 1 (k 1).1⟩,⟨(k 2).2,.str "instream" (k 2).1,.ref st⟩,⟨(k 3).2,.str "whitespace" (k 3).1,.str "\n\t\r " (k 4).1⟩] 3,#[]⟩
noncomputable def kput (k:Nat→TH) (i:Nat) (x:TH):Nat→TH:=fun j=>match Nat.beq j i with | true=>x | false=>k j
theorem put1 {h:Int} {t u:Tok}:Obj.putName "lineno" h (.str "lineno" t) (.int 1 u) A1O=st1 (kput (kput (fun _=>(0,0)) 0 (t,h)) 1 (u,0)):=by kernel_rfl
theorem put2 {h:Int} {t:Tok} {st:Addr} {k:Nat→TH}:Obj.putName "instream" h (.str "instream" t) (.ref st) (st1 k)=st2 st (kput k 2 (t,h)):=by kernel_rfl
theorem put3 {h:Int} {t u:Tok} {st:Addr} {k:Nat→TH}:Obj.putName "whitespace" h (.str "whitespace" t) (.str "\n\t\r " u) (st2 st k)=st3 st (kput (kput k 3 (t,h)) 4 (u,0)):=by kernel_rfl
theorem put4 {P:Params} {h:Int} {t:Tok} {st pl:Addr} {k:Nat→TH}:Obj.putName "pushback" h (.str "pushback" t) (.ref pl) (st3 st k)=lexD P 1 st pl (kput k 5 (t,h)):=by kernel_rfl
section
variable {C:Cx} {fi:Fi} {φ φ':Nat→Addr} {X X':List (Addr×Obj)} {σ σ' σ₁ σ₂ σ₃:St} {s s' s₁:Shared} {A:Around} {E Q:Value→Shared→Prop} {W:List Addr}
theorem B6q {x d:Addr} {nm:Str} {v:Value} {es:Array DictEntry} {n:Nat} {D:Tok→Obj} (K:(KH C.w.params).In s.heap) (h1:s.heap.get? x=some (lexI d)) (h2:s.heap.get? d=some ⟨.type "dict",none,.dict es n,#[]⟩) (ht:takerIn (KH C.w.params) 52 nm=some none)
  (hk:aRefKeyMayBeTheName nm es=false) (hD:∀t,Obj.putName nm (PyData.keyHash C.w.params nm) (.str nm t) v ⟨.type "dict",none,.dict es n,#[]⟩=D t) (hl:∀t,(D t).data.pastItsLine=none) (hf:∀t,(D t).isFreed=false)
  {Q:Unit→Shared→Prop} (q:∀s' t,Near [d] s s'→s'.heap.get? d=some (D t)→Q () s'):wpAny (MM C) A (setAttr (.ref x) nm v) Q E s:=by
 have IA:PySem.W.InstAt s.heap x (lexI d) 52 (some ⟨.type "dict",none,.dict es n,#[]⟩):=⟨h1,rfl,by kernel_rfl,h2⟩
 refine set_plain K IA C2x (osa_open (s:={ s with toks:=s.toks + 1 }) K IA B3r ht fun b=>?_)
 refine e1a2 (any_some (C2w (P:=C.w.params))) fun cd hc hd'=>?_
 have Lc:=looks_clsIn (M:=MM C) K hc
 obtain ⟨hh,g,dr,t,os⟩:=s
 dsimp only at h1 h2 K Lc ⊢
 refine wpAny_bind (wpAny_pure (wpAny_bind (wpAny_bind (wpAny_loadPart h1 (wpAny_bind (Lc.at ?_))))))
 rw [hd']
 refine wpAny_pure (a:=some d) (wpAny_bind (wpAny_pure (wpAny_bind ?_)))
 unfold nsSet
 refine wpAny_bind (wpAny_bind (wpAny_askSetting (wpAny_pure (wpAny_bind (wpAny_mkText (wpAny_bind (wpAny_loadPart h2 ?_)))))))
 show wpAny _ _ (if aRefKeyMayBeTheName _ _=true then _ else _) _ _ _
 rw [hk,if_neg Bool.false_ne_true]
 refine wpAny_updatePart h2 ?_
 have e':(hh.update d (Obj.putName nm (PyData.keyHash C.w.params nm) (.str nm (t + 1)) v)).get? d=some (D (t + 1)):=by
  rw [←hD (t + 1)]
  exact Heap.get?_update_self _ h2 (by rw [hD]; exact hf _)
 refine wpAny_bind (wpAny_lookBehind e' (hl _) (wpAny_pure ?_))
 exact q _ _ ⟨fun b o hb e=>(Heap.get?_update_ne _ _ _ _ fun z=>hb (by rw [z]; exact .head _)).trans e,.same rfl,rfl,rfl⟩ e'
theorem C0d {P:Params}:takerIn (KH P) 52 "lineno" = some none:=by kernel_rfl
theorem C2O {P:Params}:takerIn (KH P) 52 "instream" = some none:=by kernel_rfl
theorem C4o {P:Params}:takerIn (KH P) 52 "whitespace" = some none:=by kernel_rfl
theorem C4p {P:Params}:takerIn (KH P) 52 "pushback" = some none:=by kernel_rfl
theorem B3K (es:Array DictEntry) (h:Nat.ble es.size 4=true) (n:Nat):(Data.dict es n).pastItsLine=none:=pastItsLine_dict (Nat.le_trans (Nat.le_of_ble_eq_true h) (by rw [sizeLine_eq]; exact Nat.le_of_ble_eq_true rfl))
noncomputable def cx28 (P:Params):Ctx:=A0i (fdAt (KH P) 28).scope
theorem C4q (P:Params):B1j (KH P) 28 ["self", "fp"]=true:=by kernel_rfl
theorem C2P (P:Params) (s:Shared) (v w:Value):BindsTo s (fdAt (KH P) 28) ⟨[v,w],[]⟩ [(("self" : Str),v),("fp",w)]:=BindsTo.of_eq (by kernel_rfl)
theorem B0x (P:Params):NmE (cx28 P) (.loc 0) "self" := ⟨by kernel_rfl,by kernel_rfl⟩
theorem fp28 (P:Params):NmE (cx28 P) (.loc 1) "fp" := ⟨by kernel_rfl,by kernel_rfl⟩
theorem C2Q (P:Params):(cx28 P).locs=(["self", "fp"]:List Str):=by kernel_rfl
noncomputable def asA (n:Nat) (x:Str) (l:Nat) (v:PySem.Expr) (r:Nat):PySem.Stmt:=.Assign [.Attribute (.Name "self" (ps n 8 n 12)) x (ps n 8 n l)] v (ps n 8 n r)
noncomputable def el28:PySem.Expr:=.List [] (ps 8 24 8 26)
theorem C2R (P:Params):A0Y (fdAt (KH P) 28)=[asA 5 "lineno" 19 (.Constant (.int 1) 0 (ps 5 22 5 23)) 23,asA 6 "instream" 21 (.Name "fp" (ps 6 24 6 26)) 26,asA 7 "whitespace" 23 (.Constant (.str "\n\t\r ") 0 (ps 7 26 7 35)) 35,asA 8 "pushback" 21 el28 26]:=by kernel_rfl
theorem C4r (P:Params):TrE 9 (cx28 P) (.lst []) el28:=A9I (by kernel_rfl) (by kernel_rfl)
theorem A4D (O:OkC C) {x d:Addr} {nm:Str} {v:Value} {es:Array DictEntry} {n:Nat} {D:(Nat→TH)→Obj} (K:(KH C.w.params).In C.h₀) (h1:C.h₀.get? x=some (lexI d)) (I:Inv C fi φ [(d,⟨.type "dict",none,.dict es n,#[]⟩)] σ s) (ht:takerIn (KH C.w.params) 52 nm=some none)
  (hk:aRefKeyMayBeTheName nm es=false) {k:Tok→Nat→TH} (hD:∀t,Obj.putName nm (PyData.keyHash C.w.params nm) (.str nm t) v ⟨.type "dict",none,.dict es n,#[]⟩=D (k t)) (hl:∀k,(D k).data.pastItsLine=none) (hf:∀k,(D k).isFreed=false)
  {Q:Unit→Shared→Prop} (q:∀s' k,Inv C fi φ [(d,D k)] σ s'→Q () s'):wpAny (MM C) A (setAttr (.ref x) nm v) Q E s:=
 B6q (K.keeps I.keep) (I.keep _ _ h1) (I.xs _ (.head _)) ht hk hD (fun t=>hl _) (fun t=>hf _) fun s' t nn g=>q s' _ (I.rehold O.H nn rfl fun p hp=>by rw [List.mem_singleton.mp hp]; exact g)
noncomputable def two2 (x st:Addr):Nat→Addr
 | 0=>x
 | _=>st
noncomputable def fi28 (P:Params) (L:Addr):Fi:=⟨callEnv (fdAt (KH P) 28) L 28,cx28 P,[]⟩
theorem B6r (KX:(KH C.w.params).In C.h₀) (O:OkC C) (F:A0X C) (hk:∀b o,C.h₀.get? b=some o→s.heap.get? b=some o) {x d st:Addr} (hx:s.heap.get? x=some (lexI d)) (hd:s.heap.get? d=some A1O) (hd0:C.h₀.get? d=none) (hne:x≠d) (hR:Room A 60)
  (q:∀s' pl kp k,Near [d] s s'→s'.heap.get? d=some (lexD C.w.params 1 st pl k)→s'.heap.get? pl=some (A0k [] kp)→s.heap.get? pl=none→Q .none s'):
  wpAny (MM C) A (call (.ref 28) [.ref x,.ref st]) Q E s:=by
 have R28:=A2B KX (C4q C.w.params)
 refine e1a2 R28.obj fun o28 h28 d28=>?_
 have h0:∀b∈[d],C.h₀.get? b=none:=fun b hb=>by rw [List.mem_singleton.mp hb]; exact hd0
 have O':=B3n (W:=[d]) O hk h0
 have hfree:=A0e s.heap
 refine wpAny_call (codeAny_call_def (A0v hR) (hk _ _ h28) d28 (O.H.nolimit.keeps hk) (R28.code.keeps hk) R28.body (C2P _ _ _ _) R28.cell (fun y hy=>R28.loc _ (List.mem_map_of_mem (f:=(·.1)) hy)) (fun h₁ hns hk1=>?_) R28.co R28.gen R28.kind)
 refine anyQ (T:=Q) (fun _ _ h=>h) (fun _ h=>h) fun Qf Ef hQ hN=>?_
 show wpAny (MM C) (A.deeper (fi28 C.w.params s.heap.objs.size).env) (execs _ (fi28 C.w.params s.heap.objs.size).env) Qf Ef _
 have hroom:Room (A.deeper (fi28 C.w.params s.heap.objs.size).env) (20 + 0):=(hR.le (m:=21) rfl).deep
 have B:=big (B0o (W:=[d]) O F hk h0) rfl 20
 have I0:Inv (C.at s [d]) (fi28 C.w.params s.heap.objs.size) (two2 x st) [] ⟨[.ref 0,.ref 1],[],[],2⟩ { heap:=h₁,gens:=s.gens,drawn:=s.drawn,toks:=s.toks + 2,os:=s.os }:=by
  refine A4B h0 (R28.env _) hfree hk1 hns .nil (fun a ha=>nomatch ha) (fun i hi=>nomatch hi) (fun i hi=>nomatch hi) .nil (fun i hi=>nomatch hi) (fun y kx v h1 h2 h3=>?_) (fun kx a h=>nomatch h) (fun p hp=>nomatch hp) rfl rfl rfl
  have h1:at? (cx28 C.w.params).locs y=some kx:=h1
  rw [C2Q] at h1
  have hy:=A1C h1
  match kx,hy with
  | 0,hy=>
   rw [←Option.some.inj hy,←Option.some.inj h2]
   exact ⟨.ref x,rfl,.ref (φ:=two2 x st) 0 (Nat.zero_lt_succ _)⟩
  | 1,hy=>
   rw [←Option.some.inj hy,←Option.some.inj h2]
   exact ⟨.ref st,rfl,.ref (φ:=two2 x st) 1 (Nat.lt_succ_self _)⟩
  | n + 2,hy=>exact B7S hy.symm
 have hd':(C.at s [d]).h₀.get? d=none:=hideAll_none _ (.head _)
 have K':(KH C.w.params).In (C.at s [d]).h₀:=KX.keeps (Cx.at_keep hk h0)
 have hx':(C.at s [d]).h₀.get? x=some (lexI d):=hideAll_get _ hx fun m=>hne (List.mem_singleton.mp m)
 have I:=I0.hold (Y:=[(d,A1O)]) fun p hp=>by
  rw [List.mem_singleton.mp hp]
  exact ⟨hd',hk1 _ _ hd,fun i hi=>(nomatch hi),fun hm=>A0a (hfree.symm.trans (List.mem_singleton.mp (show d∈[s.heap.objs.size] from hm)▸hd))⟩
 rw [show A0Y (fdAt (KH C.w.params) 28)=_ from C2R C.w.params]
 refine wpAny_execs_cons (plainObj_wpAny_Assign_Attribute (wpAny_Constant_int (A1s O' (B0x _) (r:=run [] 1) (v:=.ref 0) rfl (I.toks O'.H _) fun φ1 s1 r1 e1 I1 v1=>?_)))
 have a1:r1=.ref x:=(A1a v1).trans (congrArg Value.ref (e1 0 (Nat.zero_lt_succ _)))
 rw [a1]
 refine A4D (D:=st1) O' K' hx' I1 C0d (by kernel_rfl) (fun t=>put1) (fun t=>B3K _ rfl _) (fun t=>rfl) fun s2 t2 I2=>?_
 refine wpAny_execs_cons (plainObj_wpAny_Assign_Attribute (A1s O' (fp28 _) (r:=run [] 1) (v:=.ref 1) rfl I2 fun φ3 s3 r3 e3 I3 v3=>A1s O' (B0x _) (r:=run [] 1) (v:=.ref 0) rfl I3 fun φ4 s4 r4 e4 I4 v4=>?_))
 have a3:r3=.ref st:=(A1a v3).trans (congrArg Value.ref ((e3 1 (Nat.lt_succ_self _)).trans (e1 1 (Nat.lt_succ_self _))))
 have b4:=(e4 0 (Nat.zero_lt_succ _)).trans ((e3 0 (Nat.zero_lt_succ _)).trans (e1 0 (Nat.zero_lt_succ _)))
 rw [a3,(A1a v4).trans (congrArg Value.ref b4)]
 refine A4D (D:=st2 st) O' K' hx' I4 C2O (by kernel_rfl) (fun t=>put2) (fun t=>B3K _ rfl _) (fun t=>rfl) fun s5 t5 I5=>?_
 refine wpAny_execs_cons (plainObj_wpAny_Assign_Attribute (wpAny_Constant_str (A1s O' (B0x _) (r:=run [] 1) (v:=.ref 0) rfl (I5.toks O'.H _) fun φ6 s6 r6 e6 I6 v6=>?_)))
 have b6:=(e6 0 (Nat.zero_lt_succ _)).trans b4
 rw [(A1a v6).trans (congrArg Value.ref b6)]
 refine A4D (D:=st3 st) O' K' hx' I6 C4o (by kernel_rfl) (fun t=>put3) (fun t=>B3K _ rfl _) (fun t=>rfl) fun s7 t7 I7=>?_
 have hr:run [] 20 (.e (.lst [])) ⟨[.ref 0,.ref 1],[],[],2⟩=some (.v (.ref 2),⟨[.ref 0,.ref 1],[],[(2,.list [])],3⟩):=by kernel_rfl
 refine wpAny_execs_cons (plainObj_wpAny_Assign_Attribute (B.e (fi:=(fi28 C.w.params s.heap.objs.size)) hr hroom (C4r _) _ _ _ _ I7 fun φ8 s8 r8 e8 I8 v8=>A1s O' (B0x _) (r:=run [] 1) (v:=.ref 0) rfl I8 fun φ9 s9 r9 e9 I9 v9=>?_))
 have b9:=(e9 0 (Nat.zero_lt_succ _)).trans ((e8 0 (Nat.zero_lt_succ _)).trans b6)
 rw [(A1a v9).trans (congrArg Value.ref b9),(A1a v8).trans (congrArg Value.ref (e9 2 (Nat.lt_succ_self _)).symm)]
 refine A4D (D:=lexD C.w.params 1 st (φ9 2)) O' K' hx' I9 C4p (by kernel_rfl) (fun t=>put4 (P:=C.w.params)) (fun t=>B3K _ rfl _) (fun t=>rfl) fun sA tA IA=>wpAny_execs_nil ?_
 refine e2a3 (IA.get (i:=2) (o:=.list []) rfl) fun vs kp g1 g2 _=>?_
 cases g2
 have hp:φ9 2≠d:=(IA.off d (List.mem_append_right _ (.head _))).2 2 (.head _)
 have hn:=(IA.live 2 (.head _)).1
 refine hN _ (q _ _ _ _ IA.near (IA.xs _ (.head _)) g1 ?_)
 cases z:s.heap.get? (φ9 2) with
 | none=>rfl
 | some o=>exact A0a (hn.symm.trans (hideAll_get [d] z fun m=>hp (List.mem_singleton.mp m)))
end
end Mine
end
section
namespace Mine
open PySem PySem.W PyProof.Rows PySem.W.X
noncomputable def vsOf (o:Obj):Array Value:=match o.data with | .fields vs=>vs | _=>#[]
noncomputable def o104 (P:Params):Obj:=((KH P).lookup 104).getD default
noncomputable def vStr:Value→Str×Tok | .str x t=>(x,t) | _=>("",0)
noncomputable def vInt:Value→Int×Tok | .int x t=>(x,t) | _=>(0,0)
noncomputable def C4s:Value→Bool | .bool b=>b | _=>false
theorem B6s {P:Params} {h:Heap} (X:(KH P).In h):CodeHd h 104 100:=
 ⟨o104 P,vsOf (o104 P),(vStr ((vsOf (o104 P)).getD 18 .none)).1,(vStr ((vsOf (o104 P)).getD 18 .none)).2,(vInt ((vsOf (o104 P)).getD 7 .none)).1,(vInt ((vsOf (o104 P)).getD 7 .none)).2,C4s ((vsOf (o104 P)).getD 9 .none),(vInt ((vsOf (o104 P)).getD 10 .none)).1,(vInt ((vsOf (o104 P)).getD 10 .none)).2,
  X 104 _ (by kernel_rfl),by kernel_rfl,by kernel_rfl,by kernel_rfl,by kernel_rfl,by kernel_rfl,by kernel_rfl,by kernel_rfl,by kernel_rfl,Nat.ne_of_beq_eq_false rfl⟩
noncomputable abbrev A2v (P:Params) (L:Addr):Env:=callEnvC (fdAt (KH P) 105) L 105
theorem B8z (P:Params) (L:Addr):closureFor A0u.2.2 (A2v P L)=pure [(("left" : Str),L + 1)]:=by kernel_rfl
theorem A6T (P:Params) (L:Addr):(A2v P L).code=.ref 104:=by kernel_rfl
theorem A6U (P:Params) (L:Addr):(A2v P L).globals=mainGlobals:=by kernel_rfl
theorem C0e:typeLookup (.type "function") "__setattr__" = pure (some (.builtin "object.__setattr__")):=by rw [typeLookup_type,builtinLookup_eq_fast]; kernel_rfl
section
variable {prog:Program} {w:World} {A:Around} {E:Value→Shared→Prop} {s:Shared}
theorem C2S {st:Addr} {v:Value} {nm:Str} {Q:Unit→Shared→Prop} {fd:FuncData} (h1:s.heap.get? st=some ⟨.type "function",none,.func fd,#[]⟩)
  (h:codeAny (model prog w) A (.call (.builtin "object.__setattr__") ⟨[.ref st,.str nm s.toks,v],[]⟩) (fun r s'=>match r with | .ok (.ret _)=>Q () s' | .ok _=>False | .error e=>E e s') { s with toks:=s.toks + 1 }):wpAny (model prog w) A (setAttr (.ref st) nm v) Q E s:=by
 have hT:({ s with toks:=s.toks + 1 }:Shared).TypeIs (.ref st) "function" := ⟨_,h1,rfl⟩
 refine wpAny_bind (wpAny_mkText (wpAny_bind (wpAny_bind (wpAny_bind (wpAny_typeOf hT ?_)))))
 rw [C0e]
 refine wpAny_pure (wpAny_holding ?_)
 rw [PySem.F.store_object.slot.bind]
 refine wpAny_bind (wpAny_pure (wpAny_bind (wpAny_call (codeAny_mono h fun r s' z=>?_))))
 match r,z with
 | .ok (.ret _),z=>exact wpAny_pure (wpAny_pure z)
 | .error e,z=>exact z
end
theorem C2T:mroOf (.type "function")=pure [.type "function",.type "object"]:=by kernel_rfl
theorem C0f:typeLookup (.type "function") "read" = pure none:=by rw [typeLookup_type,builtinLookup_eq_fast]; kernel_rfl
theorem B3L (v:Value):refuseLoop v "__setattr__" [.type "function",.type "object"]=pure ():=by kernel_rfl
theorem C2U:isSubtype (.type "function") (.type "object")=pure true:=by kernel_rfl
theorem C0g {st d:Addr}:dictMade (.type "function") st d=pure (some d):=by kernel_rfl
theorem putR {P:Params} {h:Int} {t:Tok} {rd:Addr}:Obj.putName "read" h (.str "read" t) (.ref rd) A1O=B1k P rd (t,h):=by kernel_rfl
section
variable {prog:Program} {w:World} {A:Around} {s:Shared} {R:Result→Shared→Prop}
theorem C2V {st rd:Addr} {fd:FuncData} {tk:Tok} (h1:s.heap.get? st=some ⟨.type "function",none,.func fd,#[]⟩)
  (q:∀sd k s',s.heap.get? sd=none→Near [st] s s'→s'.heap.get? st=some ⟨.type "function",some sd,.func fd,#[]⟩→s'.heap.get? sd=some (B1k w.params rd k)→R (.ok (.ret .none)) s'):
  codeAny (model prog w) A (.call (.builtin "object.__setattr__") ⟨[.ref st,.str "read" tk,.ref rd],[]⟩) R s:=by
 have SF:=PySem.F.store_object
 have T:Looks (model prog w) s.heap (typeOf (.ref st)) (.type "function"):=fun A Q E s' k q=>wpAny_typeOf ⟨_,k _ _ h1,rfl⟩ q
 have sub:Looks (model prog w) s.heap (isInstance (.ref st) (.type "object")) true:=T.andThen (.of_pure C2U)
 refine codeAny_call_builtin SF.slot.plain SF.entry (@check_slot (model prog w) _ _ s "object.__setattr__" "object" "__setattr__" (.ref st) [.str "read" tk,.ref rd] [] _ SF.kind SF.split sub (SF.args (.ref st) (.str "read" tk) (.ref rd)) ?_)
 rw [osa_eq,refuse_eq]
 refine wpAny_bind (wpAny_bind (T.here (wpAny_bind ((Looks.of_pure C2T).here ?_))))
 rw [B3L]
 refine wpAny_pure (wpAny_bind (T.here (wpAny_bind ((Looks.of_pure C0f).here (wpAny_bind (wpAny_pure ?_))))))
 obtain ⟨hh,g,dr,t,os⟩:=s
 dsimp only at h1 T sub ⊢
 refine wpAny_bind (wpAny_pure ?_)
 refine wpAny_bind (wpAny_bind (wpAny_loadPart h1 ?_))
 show wpAny _ _ (alloc A1O >>= _) _ _ _
 refine wpAny_bind (wpAny_alloc' ?_)
 have h1':=Heap.get?_push_of_some A1O h1
 refine wpAny_bind (wpAny_update h1' ?_)
 have hne:hh.objs.size≠st:=fun e=>by rw [←e,A0e] at h1; exact A0a h1
 have h2:((hh.push A1O).update st fun o=>{ o with dict:=some hh.objs.size }).get? hh.objs.size=some A1O:=(Heap.get?_update_ne _ _ _ _ hne).trans (Heap.get?_push_size _ rfl)
 have h3:((hh.push A1O).update st fun o=>{ o with dict:=some hh.objs.size }).get? st=some ⟨.type "function",some hh.objs.size,.func fd,#[]⟩:=Heap.get?_update_self _ h1' rfl
 have e1:∀d:Addr,Builtin.ObjectAttr.storeInDict d (.str "read" tk) "read" (.ref rd)=(pure () >>= fun _=>nsSet d "read" (.ref rd) >>= fun _=>lookBehind d (some (.str "read" 0)) >>= fun _=>ret .none):=fun _=>rfl
 show wpAny _ _ (dictMade (.type "function") st hh.objs.size) _ _ _
 rw [C0g]
 refine wpAny_pure ?_
 dsimp only
 rw [e1]
 refine wpAny_bind (wpAny_pure (wpAny_bind ?_))
 unfold nsSet
 refine wpAny_bind (wpAny_bind (wpAny_askSetting (wpAny_pure (wpAny_bind (wpAny_mkText (wpAny_bind (wpAny_loadPart h2 ?_)))))))
 show wpAny _ _ (if aRefKeyMayBeTheName _ _=true then _ else _) _ _ _
 rw [show aRefKeyMayBeTheName "read" #[]=false by kernel_rfl,if_neg Bool.false_ne_true]
 refine wpAny_updatePart h2 ?_
 have e':=Heap.get?_update_self (Obj.putName "read" (PyData.keyHash w.params "read") (.str "read" t) (.ref rd)) h2 (by rw [putR (P:=w.params)]; rfl)
 rw [putR (P:=w.params)] at e'
 refine wpAny_bind (wpAny_lookBehind e' (B3K _ rfl _) (wpAny_pure ?_))
 refine q hh.objs.size _ _ (A0e _) ⟨fun b o hb e=>?_,.same rfl,rfl,rfl⟩ ((Heap.get?_update_ne _ _ _ _ hne.symm).trans h3) e'
 have hb1:b≠hh.objs.size:=fun z=>by rw [z,A0e] at e; exact A0a e
 exact (Heap.get?_update_ne _ _ _ _ hb1).trans ((Heap.get?_update_ne _ _ _ _ fun z=>hb (by rw [z]; exact .head _)).trans (Heap.get?_push_of_some _ e))
end
end Mine
end
section
namespace Mine
open PySem PySem.W PyProof.Rows
noncomputable def B3M (o:Obj) (q:Str):Prop:=∃vs t,o.data=.fields vs∧vs[1]?=some (.str q t)
noncomputable def A2d (h:Heap) (a:Addr):Prop:=∃co,h.get? a=some co∧B3M co "_law_lexer.<locals>.read"
theorem B0y {h:Heap} {c:Addr} {o:Obj} {q:Str} (e:h.get? c=some o) (k:B3M o q):h.CodeRec (.ref c) q:=
 let ⟨vs,t,k1,k2⟩:=k
 ⟨c,o,vs,t,rfl,e,k1,k2⟩
theorem C0h {h:Heap} {c:Addr} {q:Str} (x:h.CodeRec (.ref c) q):∃co,h.get? c=some co∧B3M co q:=by
 refine e4a4 x fun c' o vs t e h1 h2 h3=>?_
 rw [←Value.ref.inj e] at h1
 exact ⟨o,h1,vs,t,h2,h3⟩
structure C2W (s s':Shared) (a:Addr) (fd:FuncData):Prop where
 free:s.heap.get? a=none
 at_:s'.heap.get? a=some ⟨.type "function",none,.func fd,#[]⟩
 near:Near [100] s s'
noncomputable def tab1 (c1:Addr):Array Value:=#[rawInt 170,rawInt 4,.ref c1]
noncomputable def tab2 (c1 c2:Addr):Array Value:=#[rawInt 170,rawInt 4,.ref c1,rawInt 174,rawInt 13,.ref c2]
noncomputable def tabA:Option (Addr×Addr)→Array Value
 | none=>#[]
 | some p=>tab2 p.1 p.2
noncomputable def tabB (c1:Addr):Option (Addr×Addr)→Array Value
 | none=>tab1 c1
 | some p=>tab2 c1 p.2
noncomputable def B1x:Str := "_law_lexer.<locals>.read"
section
variable {P:Params} {M:Model} {A:Around} {E Q:Value→Shared→Prop} {s:Shared} {mg:Str→Option Value} {L:Addr}
theorem C0i (P:Params) (L:Addr):qualnameIn (A2v P L) "read" "read" = B1x:=by kernel_rfl
theorem A6V {h':Heap} {o:Obj} {tk:Tok} (e:Heap.ExtBut 100 s.heap h'):Near [100] s { s with heap:=h'.push o,toks:=tk }:=
 ⟨fun b o hb h=>Heap.get?_push_of_some _ (e b o (fun z=>hb (by rw [z]; exact .head _)) h),.same rfl,rfl,rfl⟩
theorem B6t (KX:(KH P).In s.heap) (G:s.heap.Ns mainGlobals mg) (hb:s.heap.BuiltinsAt mg 100) {o:Option (Addr×Addr)} (h100:s.heap.get? 100=some (tabObj (tabA o))) (hc:∀p,o=some p→A2d s.heap p.1) {pos:Pos} (h1:pos.line=170) (h2:pos.col=4) {n:Nat}
  (q:∀a fd c1 s',C2W s s' a fd→A2J s'.heap fd (L + 1)→fd.code=.ref c1∧fd.qualname=B1x→A2d s'.heap c1→s'.heap.get? 100=some (tabObj (tabB c1 o))→(o=none→s.heap.get? c1=none)→(∀p,o=some p→c1=p.1)→Q (.ref a) s'):
  wpAny M A (makeFunction "read" B1x A0u.1 (.stmts A0u.2.1) A0u.2.2 (A2v P L) [] [] [] pos n) Q E s:=by
 match o with
 | none=>
  refine makeFunction_K (B8z P L) (A6U P L) G (A6T P L) (B6s KX) h100 trivial rfl (by decide) hb fun c' ctv doc h' tk e hs hl cr ht=>?_
  have cr:=cr.push (fnMade "read" B1x A0u.1 A0u.2.1 A0u.2.2 [(("left" : Str),L + 1)] doc ((mg "__name__").getD .none) c' ctv)
  rw [h1,h2] at ht
  exact q _ _ c' _ ⟨Heap.get?_none_of_le (Nat.le_of_lt (Nat.lt_of_le_of_lt hs hl)),Heap.get?_push_size _ rfl,A6V e⟩ ⟨rfl,rfl,rfl,rfl,rfl,rfl,rfl,rfl,cr⟩ ⟨rfl,rfl⟩ (C0h cr) (Heap.get?_push_of_some _ ht) (fun _=>Heap.get?_none_of_le hs) (fun p e=>nomatch e)
 | some (c1,c2)=>
  have hf:codeAmong pos (tab2 c1 c2).toList=some (.ref c1):=by
   show (if (_ == _ && _ == _)=true then _ else _)=_
   rw [h1,h2]; rfl
  refine e1a2 (hc _ rfl) fun co k1 k2=>?_
  refine makeFunction_hit (B8z P L) (A6U P L) G (A6T P L) (B6s KX) h100 trivial hf hb fun ctv doc h' tk e hs=>?_
  have cr:=((B0y k1 k2).keeps e).push { cls:=.type "function",data:=.func (fnX "read" B1x A0u.1 A0u.2.1 A0u.2.2 [(("left" : Str),L + 1)] .none .none doc ((mg "__name__").getD .none) none (.ref c1) ctv) }
  exact q _ _ c1 _ ⟨Heap.get?_none_of_le hs,Heap.get?_push_size _ rfl,A6V fun a o _ h=>e a o h⟩ ⟨rfl,rfl,rfl,rfl,rfl,rfl,rfl,rfl,cr⟩ ⟨rfl,rfl⟩ ⟨co,Heap.get?_push_of_some _ (e _ _ k1),k2⟩ (Heap.get?_push_of_some _ (e _ _ h100)) (fun e=>nomatch e) (fun p e=>congrArg (·.1) (Option.some.inj e))
noncomputable def b105 (P:Params):List PySem.Stmt:=A0Y (fdAt (KH P) 105)
noncomputable def vOf (s:PySem.Stmt):PySem.Expr:=Ac.v s
noncomputable def lamP:PySem.Expr→Arguments | .Lambda a _ _ _=>a | _=>default
noncomputable def lamB:PySem.Expr→PySem.Expr | .Lambda _ b _ _=>b | e=>e
noncomputable def lamS:PySem.Expr→Scope | .Lambda _ _ s _=>s | _=>default
noncomputable def at3:List PySem.Stmt→PySem.Stmt | _::_::c::_=>c | _=>.Pass ⟨0,0,0,0⟩
noncomputable def lam (P:Params):PySem.Expr:=vOf (at3 (b105 P))
theorem B3N (P:Params) (L:Addr):closureFor (lamS (lam P)) (A2v P L)=pure []:=by kernel_rfl
theorem B6u (KX:(KH P).In s.heap) (G:s.heap.Ns mainGlobals mg) (hb:s.heap.BuiltinsAt mg 100) {o:Option (Addr×Addr)} {c1:Addr} (h100:s.heap.get? 100=some (tabObj (tabB c1 o))) {pos:Pos} (h1:pos.line=174) (h2:pos.col=13) {n:Nat} {qn:Str}
  (q:∀a fd c2 s',C2W s s' a fd→s'.heap.get? 100=some (tabObj (tab2 c1 c2))→Q (.ref a) s'):
  wpAny M A (makeFunction "<lambda>" qn (lamP (lam P)) (.expr (lamB (lam P))) (lamS (lam P)) (A2v P L) [] [] [] pos n) Q E s:=by
 match o with
 | none=>
  have hf:codeAmong pos (tab1 c1).toList=none:=by
   show (if (_ == _ && _ == _)=true then _ else _)=_
   rw [h1,h2]; rfl
  refine kla_makeFunction (B3N P L) (A6U P L) G (A6T P L) (B6s KX) h100 trivial hf (by decide) hb fun c' ctv h' tk e hs hl cr ht=>?_
  rw [h1,h2] at ht
  exact q _ _ c' _ ⟨Heap.get?_none_of_le (Nat.le_of_lt (Nat.lt_of_le_of_lt hs hl)),Heap.get?_push_size _ rfl,A6V e⟩ (Heap.get?_push_of_some _ ht)
 | some (d1,c2)=>
  have hf:codeAmong pos (tab2 c1 c2).toList=some (.ref c2):=by
   show (if (_ == _ && _ == _)=true then _ else (if (_ == _ && _ == _)=true then _ else _))=_
   rw [h1,h2]; rfl
  refine kla_makeFunctionHit (B3N P L) (A6U P L) G (A6T P L) (B6s KX) h100 trivial hf hb fun ctv h' tk e hs=>?_
  exact q _ _ c2 _ ⟨Heap.get?_none_of_le hs,Heap.get?_push_size _ rfl,A6V fun a o _ h=>e a o h⟩ (Heap.get?_push_of_some _ (e _ _ h100))
end
end Mine
end
section
namespace Mine
open PySem PySem.W PyProof.Rows
theorem C2X (P:Params):B3I (KH P) 105 ["text"]=true:=by kernel_rfl
noncomputable def A9o (P:Params):Ctx:=A0i (fdAt (KH P) 105).scope
theorem C0j (P:Params):(A9o P).locs=(["text", "read", "stream"]:List Str):=by kernel_rfl
theorem C2Y (P:Params) (L:Addr):A5l (fdAt (KH P) 105) L=[L + 1]:=by kernel_rfl
theorem C0k (P:Params) (v:Value):bindArgs (fdAt (KH P) 105) ⟨[v],[]⟩=pure ((["text"]:List Str).zip [v]):=by kernel_rfl
noncomputable def p170:Pos:=ps 170 4 173 19
noncomputable def C0l:PySem.Expr:=.Call (.Name "_netrclex" (ps 176 11 176 20)) [.Name "stream" (ps 176 21 176 27)] [] (ps 176 11 176 28)
noncomputable def B3O:PySem.Stmt:=.Assign [.Name "left" (ps 168 4 168 8)] (.List [.Name "text" (ps 168 12 168 16)] (ps 168 11 168 17)) (ps 168 4 168 17)
theorem C0m (P:Params):A0Y (fdAt (KH P) 105)=[B3O,.FunctionDef "read" A0u.1 A0u.2.1 [] none [] A0u.2.2 none "read" p170,.Assign [.Name "stream" (ps 174 4 174 10)] (.Lambda (lamP (lam P)) (lamB (lam P)) (lamS (lam P)) (ps 174 13 174 25)) (ps 174 4 174 25),
 .Assign [.Attribute (.Name "stream" (ps 175 4 175 10)) "read" (ps 175 4 175 15)] (.Name "read" (ps 175 18 175 22)) (ps 175 4 175 22),.Return (some C0l) (ps 176 4 176 28)]:=by kernel_rfl
theorem C4t (P:Params):TrS 20 (A9o P) (.asg [.cel 0] (.lst [.loc 0])) B3O:=A6e (by kernel_rfl) (by kernel_rfl)
noncomputable def lS (l:List Nat) (b c:V) (n:Nat):St:=⟨[.str l,b,c],[.ref 0],[(0,.list [.str l])],n⟩
noncomputable def fnO (o:Option Addr) (fd:FuncData):Obj:=⟨.type "function",o,.func fd,#[]⟩
noncomputable def lX (Y:List (Addr×Obj)) (t:Array Value):List (Addr×Obj):=Y ++ [(100,tabObj t)]
noncomputable def A9p (P:Params) (L:Addr):Fi:=fiC (fdAt (KH P) 105) L 105
theorem C2Z (l:List Nat):run [] 20 (.s (.asg [.cel 0] (.lst [.loc 0]))) ⟨[.str l,.unb,.unb],[.unb],[],0⟩=some (.f .next,lS l .unb .unb 1):=by kernel_rfl
theorem B3P (P:Params):TgN (A9o P) (.loc 1) "read" ∧ NmE (A9o P) (.loc 1) "read" := ⟨⟨by kernel_rfl,by kernel_rfl⟩,⟨by kernel_rfl,by kernel_rfl⟩⟩
theorem A8h (P:Params):TgN (A9o P) (.loc 2) "stream" ∧ NmE (A9o P) (.loc 2) "stream" := ⟨⟨by kernel_rfl,by kernel_rfl⟩,⟨by kernel_rfl,by kernel_rfl⟩⟩
theorem B6v (P:Params) (env:Env):defaultsOf (lamP (lam P)) env=([],[]):=by kernel_rfl
theorem A8i:A0u.1.defaults=[]∧A0u.1.kw_defaults=[]:=⟨by kernel_rfl,by kernel_rfl⟩
theorem B6w (P:Params) (L:Addr):annTrees A0u.1 none (A2v P L)=[]:=by kernel_rfl
section
variable {C:Cx} {fi:Fi} {φ φ':Nat→Addr} {X X':List (Addr×Obj)} {σ σ' σ₁ σ₂ σ₃:St} {s s' s₁:Shared} {A:Around} {E Q:Value→Shared→Prop} {W:List Addr}
theorem Inv.take (O:OkC C) (I:Inv C fi φ X σ s) (nn:Near (X.map (·.1)) s s') (hX:X'.map (·.1)=X.map (·.1)) (hx:∀p∈X',s'.heap.get? p.1=some p.2) {a:Addr} {o:Obj} (hf:s.heap.get? a=none) (ha:s'.heap.get? a=some o):
  Inv C fi (putAt φ σ.nx a) ((a,o)::X') { σ with nx:=σ.nx + 1 } s':=by
 have I1:=I.rehold O.H nn hX hx
 have fr:=A0J I hf
 have I2:=I1.hold (Y:=[(a,o)]) fun p hp=>by
  rw [List.mem_singleton.mp hp]
  exact ⟨fr.1,ha,fr.2.1,fun hm=>fr.2.2 (by unfold Fi.ads; exact List.mem_append_left _ hm)⟩
 exact I2.more O.H (Nat.le_succ _) (Ext.putAt _ _ _)
structure A2L extends LexD where
 (cc c2:Addr)
 (kp:Nat)
noncomputable def A2L.B (D:A2L):List Addr:=[D.pl,D.x,D.d,D.li,D.ce]
noncomputable def A2L.F (D:A2L):List Addr:=[D.st,D.sd,D.rd]
structure A2e (P:Params) (h h':Heap) (T:List Nat) (D:A2L):Prop where
 nd:D.B.Nodup
 fr:∀a∈D.B ++ D.F,h.get? a=none
 n100:∀a∈D.B ++ D.F,a≠100
 ap:∀a∈D.cc::D.F,a∉D.B
 raw:A2W P h' h' T 1 D.toLexD
 hpl:h'.get? D.pl=some (A0k [] D.kp)
 cd:D.fdr.code=.ref D.cc
 ca:A2d h' D.cc
 tab:h'.get? 100=some (tabObj (tab2 D.cc D.c2))
noncomputable def kd (o:Obj):Nat:=match o.data with
 | .plain=>0 | .dict ..=>1 | .seq ..=>2 | .cell _=>3 | .func _=>4 | .fields _=>5 | _=>6
noncomputable def KdA (h:Heap) (a:Addr) (n:Nat):Prop:=∃o,h.get? a=some o∧kd o=n
theorem KdA.ne {h:Heap} {a b:Addr} {n m:Nat} (p:KdA h a n) (q:KdA h b m) (e:Nat.beq n m=false):a≠b:=fun z=>by
 refine e1a2 p fun o h1 k1=>?_
 refine e1a2 q fun o' h2 k2=>?_
 rw [z,h2] at h1
 rw [←k1,←k2,Option.some.inj h1,Nat.beq_refl] at e
 exact notf e
theorem nm5 {a b c d e f:Addr} (h1:a≠b) (h2:a≠c) (h3:a≠d) (h4:a≠e) (h5:a≠f):a∉[b,c,d,e,f]:=by simp [h1,h2,h3,h4,h5]
theorem nd5 {b c d e f:Addr} (h1:b≠c) (h2:b≠d) (h3:b≠e) (h4:b≠f) (h5:c≠d) (h6:c≠e) (h7:c≠f) (h8:d≠e) (h9:d≠f) (h10:e≠f):[b,c,d,e,f].Nodup:=by simp [h1,h2,h3,h4,h5,h6,h7,h8,h9,h10]
set_option tactic.hygienic true in
theorem B3Q (O:OkC C) (F:A0X C) (KX:(KH C.w.params).In C.h₀) {l:List Nat} (hl:∀c∈l,c < symB) (hl2:l.length≤4000) {ce rd st sd c1 c2:Addr} {kr:TH} {fdS fdr:FuncData} {Y:List (Addr×Obj)} {h3:Heap} {sA:Shared} (hcad:fi.cad=[ce]) (R3:A2J h3 fdr ce) (e3:fdr.code=.ref c1∧fdr.qualname=B1x)
  (hYc:∀h':Heap,(∀b o,C.h₀.get? b=some o→h'.get? b=some o)→(∀p∈Y,h'.get? p.1=some p.2)→A2d h' c1) (IA:Inv C fi φ ((sd,B1k C.w.params rd kr)::(st,fnO (some sd) fdS)::(rd,fnO none fdr)::lX Y (tab2 c1 c2)) (lS l (.ref 1) (.ref 2) 4) sA) (hR:Room A 80)
  (q:∀D s',A2e C.w.params C.h₀ s'.heap l D→(∀b o,C.h₀.get? b=some o→s'.heap.get? b=some o)→(∃more,s'.gens=C.gens ++ more∧AllBare more)→s'.drawn=C.drawn→s'.os=C.os→Q (.ref D.x) s'):
  wpAny (MM C) A (call (.ref 52) [.ref st]) Q E sA:=by
 have elt:A0b C.ρ l=⟨l.toArray⟩:=A4e hl
 have in100:∀t:Obj,((100:Addr),t)∈Y ++ [((100:Addr),t)]:=fun t=>List.mem_append_right _ (.head _)
 refine e2a3 (IA.get (i:=0) (o:=.list [.str l]) rfl) fun vs kk l1 l2 _=>?_
 cases l2 with
 | cons l2 ln=>
 cases ln
 cases l2 with
 | str _ u _=>
 obtain ⟨oc,cv,w1,w2,w3⟩:=IA.cel 0 ce (by rw [hcad]; rfl)
 refine e1a2 (w3 (.ref 0) rfl (fun e=>nomatch e)) fun rv w4 w5=>?_
 have w4:=w4.trans (congrArg some (A1a w5))
 obtain ⟨hh,g,dr,t,os⟩:=sA
 have l1:hh.get? (φ 0)=some (A0k [.str (A0b C.ρ l) u] kk):=l1
 have w1:hh.get? ce=some oc:=w1
 have up:∀b o,hh.get? b=some o→((hh.push A1O).push (lexI hh.objs.size)).get? b=some o:=fun b o e=>Heap.get?_push_of_some _ (Heap.get?_push_of_some _ e)
 have hx:((hh.push A1O).push (lexI hh.objs.size)).get? (hh.objs.size + 1)=some (lexI hh.objs.size):=by
  have:=Heap.get?_push_size (hh.push A1O) (o:=lexI hh.objs.size) rfl
  rw [Heap.size_push] at this
  exact this
 have hdd':((hh.push A1O).push (lexI hh.objs.size)).get? hh.objs.size=some A1O:=Heap.get?_push_of_some _ (Heap.get?_push_size _ rfl)
 have old:∀b,hh.get? b=none→C.h₀.get? b=none:=fun b e=>(A0J IA e).1
 refine B1w (KX.keeps IA.keep) (B6r KX O F (fun b o e=>up b o (IA.keep b o e)) hx hdd' (old _ (A0e _)) (Nat.succ_ne_self _) ?_ fun s' pl kp k nn m1 m2 m3=>⟨rfl,?_⟩)
 ·
  exact ⟨by have:=hR.depth; show A.depth + 1 + 60 < 990; lia,by have:=hR.units; show A.units + 1 + 8 * 60 < 9800; lia,hR.handled⟩
 have ups:∀b o,hh.get? b=some o→s'.heap.get? b=some o:=fun b o e=>nn.keep b o (fun m=>A0a ((A0e hh).symm.trans (List.mem_singleton.mp m▸e))) (up b o e)
 have kst:=ups _ _ (IA.xs (st,_) (.tail _ (.head _)))
 have ksd:=ups _ _ (IA.xs (sd,_) (.head _))
 have krd:=ups _ _ (IA.xs (rd,_) (.tail _ (.tail _ (.head _))))
 have kli:=ups _ _ l1
 have kce:=ups _ _ w1
 have kx:=nn.keep _ _ (fun m=>Nat.succ_ne_self _ (List.mem_singleton.mp m)) hx
 have keep:∀b o,C.h₀.get? b=some o→s'.heap.get? b=some o:=fun b o e=>ups b o (IA.keep b o e)
 have ca:=hYc _ keep fun p hp=>ups _ _ (IA.xs p (.tail _ (.tail _ (.tail _ (List.mem_append_left _ hp)))))
 have kc:KdA s'.heap c1 5:=by
  refine e1a2 ca fun co k1 k2=>?_
  refine e2a2 k2 fun _ _ e _=>?_
  exact ⟨co,k1,by unfold kd; rw [e]⟩
 have kX:KdA s'.heap (hh.objs.size + 1) 0:=⟨_,kx,rfl⟩
 have kD:KdA s'.heap hh.objs.size 1:=⟨_,m1,rfl⟩
 have kP:KdA s'.heap pl 2:=⟨_,m2,rfl⟩
 have kL:KdA s'.heap (φ 0) 2:=⟨_,kli,rfl⟩
 have kC:KdA s'.heap ce 3:=⟨_,kce,by unfold kd; rw [w2]⟩
 have kS:KdA s'.heap st 4:=⟨_,kst,rfl⟩
 have kR:KdA s'.heap rd 4:=⟨_,krd,rfl⟩
 have kY:KdA s'.heap sd 1:=⟨_,ksd,rfl⟩
 have tb:=ups _ _ (IA.xs (100,_) (.tail _ (.tail _ (.tail _ (in100 _)))))
 have kT:KdA s'.heap 100 5:=⟨_,tb,rfl⟩
 have pli:pl≠φ 0:=fun e=>A0a (m3.symm.trans (e▸up _ _ l1))
 have sdd:sd≠hh.objs.size:=fun e=>A0a ((A0e hh).symm.trans (e▸IA.xs (sd,_) (.head _)))
 have plo:hh.get? pl=none:=by
  cases z:hh.get? pl with
  | none=>rfl
  | some o=>exact A0a (m3.symm.trans (up _ _ z))
 have offX:∀p∈(sd,B1k C.w.params rd kr)::(st,fnO (some sd) fdS)::(rd,fnO none fdr)::(lX Y (tab2 c1 c2)),C.h₀.get? p.1=none:=fun p hp=>(IA.off p.1 (List.mem_append_right _ (List.mem_map_of_mem (f:=fun p:Addr×Obj=>p.1) hp))).1
 refine e1a2 IA.gens fun mo g1 g2=>?_
 refine e1a2 nn.gens fun mo' g3 g4=>?_
 refine e1a2 ca fun co k1 k2=>?_
 refine q ⟨⟨hh.objs.size + 1,pl,hh.objs.size,φ 0,ce,st,sd,rd,k,u,kr,fdS,fdr,kk⟩,c1,c2,kp⟩ s' ?_ keep ⟨mo ++ mo',by rw [g3,show g=_ from g1,Array.append_assoc],A0m g2 g4⟩ (nn.drawn.trans IA.drawn) (nn.os.trans IA.os)
 exact {
  nd:=nd5 (kP.ne kX rfl) (kP.ne kD rfl) pli (kP.ne kC rfl) (kX.ne kD rfl) (kX.ne kL rfl) (kX.ne kC rfl) (kD.ne kL rfl) (kD.ne kC rfl) (kL.ne kC rfl)
  fr:=ac (old _ plo) (ac (old _ (Heap.get?_none_of_le (Nat.le_succ _))) (ac (old _ (A0e _)) (ac (IA.live 0 (.head _)).1 (ac (IA.off _ (List.mem_append_left _ (.tail _ (hcad▸.head _)))).1
   (ac (offX (st,_) (.tail _ (.head _))) (ac (offX (sd,_) (.head _)) (ac (offX (rd,_) (.tail _ (.tail _ (.head _)))) an)))))))
  n100:=ac (kP.ne kT rfl) (ac (kX.ne kT rfl) (ac (kD.ne kT rfl) (ac (kL.ne kT rfl) (ac (kC.ne kT rfl) (ac (kS.ne kT rfl) (ac (kY.ne kT rfl) (ac (kR.ne kT rfl) an)))))))
  ap:=ac (nm5 (kc.ne kP rfl) (kc.ne kX rfl) (kc.ne kD rfl) (kc.ne kL rfl) (kc.ne kC rfl)) (ac (nm5 (kS.ne kP rfl) (kS.ne kX rfl) (kS.ne kD rfl) (kS.ne kL rfl) (kS.ne kC rfl)) (ac (nm5 (kY.ne kP rfl) (kY.ne kX rfl) sdd (kY.ne kL rfl) (kY.ne kC rfl)) (ac (nm5 (kR.ne kP rfl) (kR.ne kX rfl) (kR.ne kD rfl) (kR.ne kL rfl) (kR.ne kC rfl)) an)))
  raw:=⟨kx,m1,elt▸kli,⟨oc,kce,w2.trans (congrArg Data.cell w4)⟩,kst,ksd,krd,{ R3 with code:=by rw [e3.1,e3.2]; exact B0y k1 k2 },hl,hl2⟩
  hpl:=m2
  cd:=e3.1
  ca:=⟨co,k1,k2⟩
  tab:=tb }
set_option tactic.hygienic true in
theorem B1y (H:Hyp C [] 0) (KX:(KH C.w.params).In C.h₀) (h100:C.h₀.get? 100=none) (hb:C.h₀.BuiltinsAt C.mg 100) (hcls:C.mg "_netrclex" = some (.ref 52)) (hk:∀b o,C.h₀.get? b=some o→s.heap.get? b=some o) (hg:∃more,s.gens=C.gens ++ more∧AllBare more) (hd:s.drawn=C.drawn) (ho:s.os=C.os)
  {o:Option (Addr×Addr)} (ht:s.heap.get? 100=some (tabObj (tabA o))) (hc:∀p,o=some p→A2d C.h₀ p.1) {l:List Nat} (hl:∀c∈l,c < symB) (hl2:l.length≤4000) {tk:Tok} (hR:Room A 100)
  (q:∀D s',A2e C.w.params C.h₀ s'.heap l D→(∀b o,C.h₀.get? b=some o→s'.heap.get? b=some o)→(∃more,s'.gens=C.gens ++ more∧AllBare more)→s'.drawn=C.drawn→s'.os=C.os→Q (.ref D.x) s'):
  wpAny (MM C) A (call (.ref 105) [.str ⟨l.toArray⟩ tk]) Q E s:=by
 have O:=H.O
 have F:=H.F
 have RC:RecC C.h₀ 105 (fdAt (KH C.w.params) 105) ["text"]:=A9n KX (C2X _)
 refine e1a2 RC.obj fun ob ho1 hdd=>?_
 have elt:A0b C.ρ l=⟨l.toArray⟩:=A4e hl
 rw [←elt]
 have hroom:Room (A.deeper (A2v C.w.params s.heap.objs.size)) (80 + 0):=(hR.le (m:=81) rfl).deep
 have B:=big H rfl 20
 refine wpAny_call (codeAny_call_cells (A0v hR) (hk _ _ ho1) hdd (O.H.nolimit.keeps hk) (RC.code.keeps hk) RC.body (C0k _ _) RC.clo RC.cellsOk (fun s₁ x=>?_) RC.co RC.gen RC.kind)
 refine anyQ (T:=Q) (fun _ _ h=>h) (fun _ h=>h) fun Qf Ef hQ hN=>?_
 have I1:Inv C (A9p C.w.params s.heap.objs.size) (fun _=>0) [(100,tabObj (tabA o))] ⟨[.str l,.unb,.unb],[.unb],[],0⟩ s₁:=by
  refine enterC O.H hk RC x (.cons (.str l tk hl2) .nil) (fun i hi=>nomatch hi) (fun i hi=>nomatch hi) .nil (fun i hi=>nomatch hi) (fun p hp=>nomatch hp) (fun k v h hu=>?_) (fun k v h hu=>?_) hg hd ho fun p hp=>by
   rw [List.mem_singleton.mp hp]; exact ⟨ht,h100,fun i hi=>nomatch hi⟩
  ·
   match k,h with
   | 0,h=>exact ⟨0, "text",by rw [show (A0i (fdAt (KH C.w.params) 105).scope).locs=_ from C0j _]; rfl,rfl,h⟩
   | 1,h=>exact absurd (Option.some.inj h).symm hu
   | 2,h=>exact absurd (Option.some.inj h).symm hu
   | k + 3,h=>exact A0a h
  ·
   match k,h with
   | 0,h=>exact absurd (Option.some.inj h).symm hu
   | k + 1,h=>exact A0a h
 rw [show A0Y (fdAt (KH C.w.params) 105)=_ from C0m C.w.params]
 show wpAny (MM C) (A.deeper (A2v C.w.params s.heap.objs.size)) (execs _ (A2v C.w.params s.heap.objs.size)) Qf Ef s₁
 refine wpAny_execs_cons (B.s (fi:=A9p C.w.params s.heap.objs.size) (C2Z l) (hroom.le rfl) (C4t _) _ _ _ _ I1 fun φ2 s2 rf e2 I2 fr=>?_)
 cases fr
 refine wpAny_execs_cons (nestDef_K A8i.1 A8i.2 (B6w _ _) ?_)
 rw [C0i]
 refine B6t (KX.keeps I2.keep) (O.H.g.keeps I2.keep) (hb.keeps I2.keep) (I2.xs _ (.head _)) (fun p hp=>(hc p hp).imp fun co h=>⟨I2.keep _ _ h.1,h.2⟩) rfl rfl fun rd fdr c1 s3 N3 R3 e3 C3 t3 z3 z4=>?_
 have r100:rd≠100:=fun e=>A0a ((e▸N3.free).symm.trans (I2.xs _ (.head _)))
 have c100:c1≠100:=fun e=>by
  refine e1a2 C3 fun co k1 k2=>?_
  rw [Option.some.inj ((e▸k1:s3.heap.get? 100=some co).symm.trans t3)] at k2
  obtain ⟨_,_,e,e2⟩:=k2
  rw [←Data.fields.inj e] at e2
  cases o with
  | none=>exact nomatch (e2:some (rawInt 4)=_)
  | some=>exact nomatch (e2:some (rawInt 4)=_)
 have I3a:=I2.rehold O.H N3.near (X':=[(100,tabObj (tabB c1 o))]) rfl fun p hp=>by rw [List.mem_singleton.mp hp]; exact t3
 have off:∀{a},s2.heap.get? a=none→C.h₀.get? a=none∧(∀i∈A0c [((0:Nat),Mine.O.list [.str l])],φ2 i≠a)∧a∉(A9p C.w.params s.heap.objs.size).env.locals::(A9p C.w.params s.heap.objs.size).cad:=fun h=>
  have z:=A0J I2 h
  ⟨z.1,z.2.1,fun m=>z.2.2 (by unfold Fi.ads; exact List.mem_append_left _ m)⟩
 obtain ⟨Y,hY,hYc,I3b⟩:∃Y:List (Addr×Obj),(∀p∈Y,p.1=c1)∧(∀h':Heap,(∀b o,C.h₀.get? b=some o→h'.get? b=some o)→(∀p∈Y,h'.get? p.1=some p.2)→A2d h' c1)∧Inv C (A9p C.w.params s.heap.objs.size) φ2 (lX Y (tabB c1 o)) (lS l .unb .unb 1) s3:=by
  rcases Option.eq_none_or_eq_some o with z | ⟨p,z⟩
  ·
   refine e1a2 C3 fun co k1 k2=>?_
   have f:=off (z3 z)
   exact ⟨[(c1,co)],fun p hp=>by rw [List.mem_singleton.mp hp],fun h' _ hp=>⟨co,hp _ (.head _),k2⟩,I3a.hold fun p hp=>by rw [List.mem_singleton.mp hp]; exact ⟨f.1,k1,f.2.1,f.2.2⟩⟩
  ·
   exact ⟨[],fun p hp=>(nomatch hp),fun h' k _=>z4 p z▸(hc p z).imp fun co h=>⟨k _ _ h.1,h.2⟩,I3a⟩
 have mapM:∀t t':Obj,(Y ++ [((100:Addr),t)]).map (fun p:Addr×Obj=>p.1)=(Y ++ [((100:Addr),t')]).map (fun p:Addr×Obj=>p.1):=fun t t'=>by rw [List.map_append,List.map_append]; rfl
 have in100:∀t:Obj,((100:Addr),t)∈Y ++ [((100:Addr),t)]:=fun t=>List.mem_append_right _ (.head _)
 have fr:=off N3.free
 have I3:Inv C (A9p C.w.params s.heap.objs.size) (putAt φ2 1 rd) ((rd,fnO none fdr)::(lX Y (tabB c1 o))) (lS l .unb .unb 2) s3:=(I3b.hold (Y:=[(rd,fnO none fdr)]) fun p hp=>by rw [List.mem_singleton.mp hp]; exact ⟨fr.1,N3.at_,fr.2.1,fr.2.2⟩).more O.H (Nat.le_succ 1) (Ext.putAt φ2 1 rd)
 refine A0Q O (B3P _).1 (v:=.ref 1) (σ':=(lS l (.ref 1) .unb 2)) rfl I3 (VR.ref (φ:=putAt φ2 1 rd) 1 (Nat.lt_succ_self _)) fun s4 I4=>?_
 have h4:=I4.xs (100,_) (.tail _ (in100 _))
 refine wpAny_execs_cons (wpAny_Assign_Name (kla_eval (B6v _ _) (B6u (KX.keeps I4.keep) (O.H.g.keeps I4.keep) (hb.keeps I4.keep) h4 rfl rfl fun st fdS c2 s5 N5 t5=>?_)))
 have s100:st≠100:=fun e=>A0a ((e▸N5.free).symm.trans h4)
 have srd:st≠rd:=fun e=>A0a ((e▸N5.free).symm.trans (I4.xs (rd,_) (.head _)))
 have sY:∀p∈Y,p.1≠st:=fun p hp e=>A0a ((e▸N5.free).symm.trans (I4.xs p (.tail _ (List.mem_append_left _ hp))))
 have I5:=I4.take O (N5.near.mono fun b hb=>by rw [List.mem_singleton.mp hb]; exact .tail _ (List.mem_map_of_mem (f:=fun p:Addr×Obj=>p.1) (in100 _))) (X':=(rd,fnO none fdr)::(lX Y (tab2 c1 c2))) (congrArg (List.cons rd) (mapM _ _))
  (List.forall_mem_cons.mpr ⟨N5.near.keep _ _ (fun m=>r100 (List.mem_singleton.mp m)) (I4.xs (rd,_) (.head _)),List.forall_mem_append.mpr ⟨fun p hp=>N5.near.keep _ _ (fun m=>c100 ((hY p hp).symm.trans (List.mem_singleton.mp m))) (I4.xs p (.tail _ (List.mem_append_left _ hp))),fun p hp=>by rw [List.mem_singleton.mp hp]; exact t5⟩⟩) N5.free N5.at_
 refine A0Q O (A8h _).1 (v:=.ref 2) (σ':=(lS l (.ref 1) (.ref 2) 3)) rfl I5 (VR.ref (φ:=putAt (putAt φ2 1 rd) 2 st) 2 (Nat.lt_succ_self _)) fun s6 I6=>?_
 refine wpAny_execs_cons (plainObj_wpAny_Assign_Attribute (A1s O (B3P _).2 (r:=run [] 1) (v:=.ref 1) rfl I6 fun φ7 s7 r7 e7 I7 v7=>A1s O (A8h _).2 (r:=run [] 1) (v:=.ref 2) rfl I7 fun φ8 s8 r8 e8 I8 v8=>?_))
 have b8:φ8 2=st:=(e8 2 (Nat.lt_succ_self _)).trans (e7 2 (Nat.lt_succ_self _))
 have b7:φ7 1=rd:=e7 1 (Nat.le_of_ble_eq_true rfl)
 rw [(A1a v7).trans (congrArg Value.ref b7),(A1a v8).trans (congrArg Value.ref b8)]
 refine C2S (I8.xs (st,_) (.head _)) (C2V (s:={ s8 with toks:=s8.toks + 1 }) (I8.xs (st,_) (.head _)) fun sd kr s9 f9 n9 g9 h9=>?_)
 have I9:=(I8.toks O.H (s8.toks + 1)).take O (n9.mono fun b hb=>List.mem_singleton.mp hb▸.head _) (X':=(st,fnO (some sd) fdS)::(rd,fnO none fdr)::(lX Y (tab2 c1 c2))) rfl
  (List.forall_mem_cons.mpr ⟨g9,List.forall_mem_cons.mpr ⟨n9.keep _ _ (fun m=>srd (List.mem_singleton.mp m).symm) (I8.xs (rd,_) (.tail _ (.head _))),List.forall_mem_append.mpr ⟨fun p hp=>n9.keep _ _ (fun m=>sY p hp (List.mem_singleton.mp m)) (I8.xs p (.tail _ (.tail _ (List.mem_append_left _ hp)))),fun p hp=>by rw [List.mem_singleton.mp hp]; exact n9.keep _ _ (fun m=>s100 (List.mem_singleton.mp m).symm) (I8.xs (100,_) (.tail _ (.tail _ (in100 _))))⟩⟩⟩) f9 h9
 refine e2a1 (C2M (P:=C.w.params)) fun t1 t2 e52=>?_
 refine wpAny_execs_cons (wpAny_Return_some (Call_ (A1T I9 O (by kernel_rfl) hcls (callWith_cls (h₀:=C.h₀) (C:=52) (N:=51) ⟨⟨_,_,_,_,_,_,_,_,_,_,_,_,KX 52 _ e52⟩,.of_isNs (isNs_of_in KX (by kernel_rfl))⟩ ?_))))
 have htr:TrL (TrE 20 (A9o C.w.params)) [.loc 2] [.Name "stream" (ps 176 21 176 27)]:=A6f (by kernel_rfl) (by kernel_rfl)
 have hes:run [] 20 (.es [.loc 2]) (lS l (.ref 1) (.ref 2) 4)=some (.vs [.ref 2],(lS l (.ref 1) (.ref 2) 4)):=by kernel_rfl
 rw [A0W htr]
 refine B.es (fi:=A9p C.w.params s.heap.objs.size) hes (hroom.le rfl) htr _ _ _ _ I9 fun φA sA rvs eA IA vA=>?_
 cases vA with
 | cons vA vn=>
 cases vn
 have bA:φA 2=st:=(eA 2 (Nat.le_of_ble_eq_true rfl)).trans b8
 rw [(A1a vA).trans (congrArg Value.ref bA)]
 refine ⟨IA.keep,?_⟩
 exact B3Q O F KX hl hl2 (C2Y _ _) R3 e3 hYc IA hroom fun D s' m k g d o=>hQ _ _ (q D s' m k g d o)
end
end Mine
end
section
namespace Mine
open PySem PySem.W PyProof.Rows
noncomputable def tokV:Value→Tok
 | .str _ t=>t
 | .int _ t=>t
 | _=>0
section
variable {C:Cx} {s:Shared} {A:Around} {E Q:Value→Shared→Prop}
theorem A6n {h:Heap} {c:Addr} {o:Option (Addr×Addr)} (x:A2d h c) (t:h.get? 100=some (tabObj (tabA o))):c≠100:=fun e=>by
 refine e1a2 x fun co k1 k2=>?_
 rw [e,t] at k1
 rw [←Option.some.inj k1] at k2
 obtain ⟨_,_,e,e2⟩:=k2
 rw [←Data.fields.inj e] at e2
 cases o with
 | none=>exact nomatch (e2:none=_)
 | some=>exact nomatch (e2:some (rawInt 4)=_)
theorem B3R {h:Heap} {a:Addr} (e:(hideAll h [100]).get? a=none) (n:a≠100):h.get? a=none:=by
 cases z:h.get? a with
 | none=>rfl
 | some o=>exact A0a (e.symm.trans (hideAll_get [100] z fun m=>n (List.mem_singleton.mp m)))
theorem A8j (O:OkC C) (F:A0X C) (KX:(KH C.w.params).In C.h₀) (h100:C.h₀.get? 100=none) (hb:C.h₀.BuiltinsAt C.mg 100) (hcls:C.mg "_netrclex" = some (.ref 52)) (hk:∀b o,C.h₀.get? b=some o→s.heap.get? b=some o)
  {o:Option (Addr×Addr)} (ht:s.heap.get? 100=some (tabObj (tabA o))) (hc:∀p,o=some p→A2d s.heap p.1) {l:List Nat} (hl:∀c∈l,c < symB) (hl2:l.length≤4000) {tk:Tok} (hR:Room A 100)
  (q:∀D s',A2e C.w.params s.heap s'.heap l D→(∀b o,b≠100→s.heap.get? b=some o→s'.heap.get? b=some o)→A1U s s'→s'.drawn=s.drawn→s'.os=s.os→Q (.ref D.x) s'):
  wpAny (MM C) A (call (.ref 105) [.str ⟨l.toArray⟩ tk]) Q E s:=by
 have h0:∀b∈[(100:Addr)],C.h₀.get? b=none:=fun b hb=>by rw [List.mem_singleton.mp hb]; exact h100
 have up:=Cx.at_keep (s:=s) (W:=[100]) hk h0
 refine B1y (C:=C.at s [100]) (B0o O F hk h0) (KX.keeps up) (hideAll_none _ (.head _)) (hb.keeps up) hcls (fun b o e=>of_hideAll _ e) ⟨#[],by rw [Array.append_empty]; rfl,.empty⟩ rfl rfl ht
  (fun p e=>(hc p e).imp fun co k=>⟨hideAll_get [100] k.1 fun m=>A6n (hc p e) ht (List.mem_singleton.mp m),k.2⟩) hl hl2 hR fun D s' m kp g d os=>?_
 exact q D s' { m with fr:=fun a ha=>B3R (m.fr a ha) (m.n100 a ha) }
  (fun b o hb e=>kp b o (hideAll_get [100] e fun z=>hb (List.mem_singleton.mp z))) g d os
end
end Mine
end
section
namespace Mine
noncomputable def A8k:Fn:=Fn.mk 2 5 ([.asg [.loc 2] (.lit (.str [])),.for_ (.tup [.loc 3,.loc 4]) (.enum) [.loc 0] [.aug (.loc 2) (.add) (.idx (.tup [.bin (.add) (.bin (.add) (.lit (.str [34])) (.loc 4)) (.lit (.str [34])),.bin (.add) (.bin (.add) (.lit (.str [92])) (.loc 4)) (.idx (.lit (.str [32,9,10,13])) (.loc 3)),.bin (.add) (.loc 4) (.lit (.str [10]))]) (.bin (.mod) (.bin (.fdiv) (.loc 1) (.bin (.pow) (.lit (.int 3)) (.loc 3))) (.lit (.int 3))))],.ret (.bin (.add) (.loc 2) (.lit (.str [122,92,32,34,122,10,34,92,34,92,92,32,34])))]) 
noncomputable def A6W:Fn:=Fn.mk 2 5 ([.asg [.loc 2] (.idx (.lit (.str [97,98,99,100,101,102,103,104,105,106,107,108,109,110,111,112,113,114,115,116,117,118,119,120,121,122])) (.bin (.mod) (.idx (.loc 0) (.lit (.int 5))) (.lit (.int 26)))),.asg [.loc 3] (.sli (.lst [.loc 2,.meth (.upper) (.loc 2) [],.bi (.chr) [.bin (.add) (.lit (.int 23000)) (.bin (.mod) (.idx (.loc 0) (.lit (.int 6))) (.lit (.int 6000)))],.bi (.chr) [.bin (.add) (.lit (.int 30000)) (.bin (.mod) (.idx (.loc 0) (.lit (.int 7))) (.lit (.int 6000)))]]) none (some (.loc 1))),.asg [.loc 4] (.bin (.mod) (.bin (.fdiv) (.idx (.loc 0) (.lit (.int 5))) (.lit (.int 26))) (.loc 1)),.ret (.bin (.add) (.sli (.loc 3) (some (.loc 4)) none) (.sli (.loc 3) none (some (.loc 4))))]) 
noncomputable def C0n:Fn:=Fn.mk 1 0 ([.asg [.cel 1] (.tup [.lit (.int 10),.lit (.int 1),.lit (.int 8),.lit (.int 16),.lit (.int 3),.lit (.int 60),.lit (.int 42005),.lit (.int 7)]),.ret (.comp (.bin (.mod) (.bin (.add) (.idx (.cel 1) (.loc 1)) (.bi (.sum) [.sli (.cel 0) (some (.loc 1)) (some (.bin (.add) (.loc 1) (.lit (.int 1))))])) (.bin (.pow) (.lit (.int 10)) (.lit (.int 6)))) 2 (.loc 1) (.range) [.lit (.int 8)] [] [])]) def addedL:List Int:=[10,1,8,16,3,60,42005,7]
noncomputable def sumI:List Int→Int→Int
 | [],a=>a
 | i::r,a=>sumI r (a + i)
noncomputable def numAt (l:List Int) (k:Nat):Int:=(((nth addedL k).getD 0) + sumI ((l.drop k).take 1) 0).fmod 1000000
noncomputable def C0o (l:List Int):List Int:=[numAt l 0,numAt l 1,numAt l 2,numAt l 3,numAt l 4,numAt l 5,numAt l 6,numAt l 7]
noncomputable def C3a (l:List Int):St:=⟨[],[.ref 0,.unb],[(0,.frz (l.map .int))],1⟩
noncomputable def A2M (l:List Int):St:=match run [] 60 (.ss C0n.body) (C3a l) with | some (_,σ)=>σ | none=>default
noncomputable def oLT:O→Bool
 | .list _=>true
 | .tup _=>true
 | .frz _=>true
 | _=>false
noncomputable def C4u (l:List Int):Prop:=run [] 60 (.ss C0n.body) (C3a l)=some (.f (.ret (.ref 2)),A2M l)∧(A2M l).hp.filter (fun p=>Nat.beq p.1 2 || Nat.beq p.1 0)=[(2,.list ((C0o l).map .int)),(0,.frz (l.map .int))]∧(A2M l).nx=11∧(A2M l).hp.all (fun p=>oLT p.2)=true
theorem B3S (l:List Int):C4u l:=by
 match l with
 | []=>exact ⟨by kernel_rfl,by kernel_rfl,by kernel_rfl,by kernel_rfl⟩
 | [a]=>exact ⟨by kernel_rfl,by kernel_rfl,by kernel_rfl,by kernel_rfl⟩
 | [a,b]=>exact ⟨by kernel_rfl,by kernel_rfl,by kernel_rfl,by kernel_rfl⟩
 | [a,b,c]=>exact ⟨by kernel_rfl,by kernel_rfl,by kernel_rfl,by kernel_rfl⟩
 | [a,b,c,d]=>exact ⟨by kernel_rfl,by kernel_rfl,by kernel_rfl,by kernel_rfl⟩
 | [a,b,c,d,e]=>exact ⟨by kernel_rfl,by kernel_rfl,by kernel_rfl,by kernel_rfl⟩
 | [a,b,c,d,e,f]=>exact ⟨by kernel_rfl,by kernel_rfl,by kernel_rfl,by kernel_rfl⟩
 | [a,b,c,d,e,f,g]=>exact ⟨by kernel_rfl,by kernel_rfl,by kernel_rfl,by kernel_rfl⟩
 | a::b::c::d::e::f::g::h::r=>exact ⟨by kernel_rfl,by kernel_rfl,by kernel_rfl,by kernel_rfl⟩
end Mine
end
section
namespace Mine
noncomputable def B6x:Fn:=(nth fnL2 0).getD default
noncomputable def rowB:List S:=[.asg [.loc 5] (.bool true [.cmp (.lt) (.bi (.sum) [.loc 2]) (.loc 1),.bool false [.cmp (.eq) (.loc 3) (.lit (.int 0)),.bool true [.cmp (.lt) (.loc 3) (.bin (.sub) (.lit (.int 6)) (.loc 1)),.cmp (.eq) (.bin (.mod) (.loc 0) (.lit (.int 2))) (.lit (.int 1))]]]),
 .expr (.meth (.append) (.loc 2) [.bi (.int) [.loc 5]]),.aug (.loc 3) (.add) (.bin (.sub) (.bin (.mul) (.lit (.int 2)) (.idx (.loc 2) (.loc 4))) (.lit (.int 1))),.aug (.loc 0) (.fdiv) (.lit (.int 2))]
theorem A4g:B6x=⟨2,6,[.swp [.loc 2,.loc 3] (.tup [.lst [],.lit (.int 0)]),.for_ (.loc 4) (.range) [.bin (.mul) (.lit (.int 2)) (.loc 1)] rowB,.ret (.loc 2)]⟩:=by kernel_rfl
theorem B6y (l:List Int):∀(a:Int),sumV (l.map .int) a=some (a + l.sum):=by
 induction l with
 | nil=>exact fun a=>congrArg some (Int.add_zero a).symm
 | cons i l ih=>exact fun a=>(ih (a + i)).trans (congrArg some (Int.add_assoc a i l.sum))
noncomputable def A1q (m:Nat) (size h:Int) (x y:V) (R:List Int) (hp:List (Nat×O)):St:=⟨[.int m,.int size,.ref 11,.int h,x,y],[],(12,.tup [.ref 11,.int 0])::(11,.list (R.map .int))::hp,13⟩
noncomputable def rowO (m:Nat) (size h:Int) (R:List Int):Bool:=decide (R.sum < size) && (decide (h=0) || (decide (h < 6 - size) && decide (m % 2=1)))
theorem A1Y (σ:St) (m k:Nat) (hk:0 < k):A1x .mod σ (.int m) (.int k)=some (.int (m % k:Nat),σ):=by
 show (if (0:Int) < (k:Int) then some (V.int ((m:Int).fmod k),σ) else none)=_
 rw [if_pos (by lia),Int.fmod_eq_emod_of_nonneg _ (by lia)]
 rfl
theorem A5m (σ:St) (m k:Nat) (hk:0 < k) (hk2:k < 1000000):A1x .fdiv σ (.int m) (.int k)=some (.int (m / k:Nat),σ):=by
 show (if (0:Int) < (k:Int)∧(k:Int) < 1000000 then some (V.int ((m:Int).fdiv k),σ) else none)=_
 rw [if_pos (by lia),Int.fdiv_eq_ediv_of_nonneg _ (by lia)]
 rfl
theorem A5n (k n:Nat) (h:k < n):A3J (k:Int) n=some k:=if_pos h
theorem A5C {α:Type} (l:List α) (x:α):nth (l ++ [x]) l.length=some x:=by
 induction l with
 | nil=>rfl
 | cons y l ih=>exact ih
noncomputable def bit (b:Bool):Int:=match b with | true=>1 | false=>0
theorem B6z (FT:List Fn) (n m:Nat) (size h:Int) (y:V) (R:List Int) (hp:List (Nat×O)) (hR:R.length≤20):
  run FT (n + 20) (.ss rowB) (A1q m size h (.int R.length) y R hp)=some (.f .next,A1q (m / 2) size (h + (2 * bit (rowO m size h R) - 1)) (.int R.length) (.bool (rowO m size h R)) (R ++ [bit (rowO m size h R)]) hp):=by
 have e2:builtin .sum (A1q m size h (.int R.length) y R hp) [.ref 11]=some (.int R.sum,A1q m size h (.int R.length) y R hp):=by
  show (sumV (R.map .int) 0).map _=_
  rw [B6y,Int.zero_add]; rfl
 have v4:∀hp,A5w .eq hp (.int (m % 2:Nat)) (.int 1)=some (decide (m % 2=1)):=fun hp=>congrArg some (decide_eq_decide.mpr Int.ofNat_inj)
 have s1:run FT (n + 19) (.s (.asg [.loc 5] (.bool true [.cmp (.lt) (.bi (.sum) [.loc 2]) (.loc 1),.bool false [.cmp (.eq) (.loc 3) (.lit (.int 0)),.bool true [.cmp (.lt) (.loc 3) (.bin (.sub) (.lit (.int 6)) (.loc 1)),.cmp (.eq) (.bin (.mod) (.loc 0) (.lit (.int 2))) (.lit (.int 1))]]]))) (A1q m size h (.int R.length) y R hp)=
   some (.f .next,A1q m size h (.int R.length) (.bool (rowO m size h R)) R hp):=
  (A3M (B1O (C0W (A5F (R_bi rfl e2) rfl rfl) (B8K (B1O (R_or (A5F rfl rfl rfl) (B8K (B1O (C0W (A5F rfl (A0T rfl rfl rfl) rfl) (B8K (A5F (A0T rfl rfl (A1Y _ m 2 (by decide))) rfl (v4 _))))))))))) rfl).trans rfl
 refine R_ss s1 ?_
 generalize rowO m size h R=o
 have hap:A1G .append (A1q m size h (.int R.length) (.bool o) R hp) (.ref 11) [.int (bit o)]=some (.none,A1q m size h (.int R.length) (.bool o) (R ++ [bit o]) hp):=by
  refine (if_pos (by rw [List.length_map]; exact Nat.le_trans hR (Nat.le_of_ble_eq_true rfl))).trans ?_
  unfold A1q
  rw [List.map_append]
  rfl
 have hbit:builtin .int (A1q m size h (.int R.length) (.bool o) R hp) [.bool o]=some (.int (bit o),A1q m size h (.int R.length) (.bool o) R hp):=by cases o <;> rfl
 refine R_ss (B1L (B7T rfl rfl (R_es (R_bi rfl hbit) rfl) (A7g hap))) ?_
 have hix:index (A1q m size h (.int R.length) (.bool o) (R ++ [bit o]) hp).hp (.ref 11) (.int R.length)=some (.int (bit o)):=by
  show (A3J (R.length:Int) (List.map V.int (R ++ [bit o])).length).bind _=_
  rw [A5n _ _ (by rw [List.length_map,List.length_append]; exact Nat.lt_succ_self _),List.map_append]
  have z:=A5C (R.map V.int) (V.int (bit o))
  rw [List.length_map] at z
  exact z
 have hmul:A1x .mul (A1q m size h (.int R.length) (.bool o) (R ++ [bit o]) hp) (.int 2) (.int (bit o))=some (.int (2 * bit o),A1q m size h (.int R.length) (.bool o) (R ++ [bit o]) hp):=by cases o <;> rfl
 refine R_ss (B4G (σ:=A1q m size h (.int R.length) (.bool o) (R ++ [bit o]) hp) rfl (A0T (A0T rfl (A2O rfl rfl hix) hmul) rfl rfl) rfl rfl rfl) ?_
 exact R_ss (B4G (σ:=A1q m size (h + (2 * bit o - 1)) (.int R.length) (.bool o) (R ++ [bit o]) hp) rfl rfl rfl (A5m _ m 2 (by decide) (by decide)) rfl) rfl
end Mine
end
section
namespace Mine
theorem A5o (c:Nat) (size:Int) (R:List Int) (h:Int) (m:Nat):rowA (c + 1) size R h m=rowA c size (R ++ [bit (rowO m size h R)]) (h + (2 * bit (rowO m size h R) - 1)) (m / 2):=by
 have e:(decide (R.sum < size) && ((h == 0) || (decide (h < 6 - size) && (m % 2 == 1))))=rowO m size h R:=by
  unfold rowO
  congr 1
 have e2:rowA (c + 1) size R h m=rowA c size (R ++ [if (decide (R.sum < size) && ((h == 0) || (decide (h < 6 - size) && (m % 2 == 1))))=true then 1 else 0]) (h + 2 * (if (decide (R.sum < size) && ((h == 0) || (decide (h < 6 - size) && (m % 2 == 1))))=true then 1 else 0) - 1) (m / 2):=rfl
 rw [e2,e,Int.add_sub_assoc]
 cases rowO m size h R <;> rfl
theorem B6A (FT:List Fn) (size:Int) (hp:List (Nat×O)):∀(c:Nat) (F:Nat) (i:Int) (R:List Int) (h:Int) (m:Nat) (x y:V),i=R.length→R.length + c≤20→c + 21≤F→
  ∃x' y' h' m',run FT F (.for_ (.loc 4) rowB (A2a c i 1)) (A1q m size h x y R hp)=some (.f .next,A1q m' size h' x' y' (rowA c size R h m) hp):=by
 intro c
 induction c with
 | zero=>
  intro F i R h m x y _ _ hF
  obtain ⟨n,rfl⟩:=Nat.exists_eq_add_of_le' hF
  exact ⟨x,y,h,m,rfl⟩
 | succ c ih=>
  intro F i R h m x y hi hl hF
  obtain ⟨n,rfl⟩:=Nat.exists_eq_add_of_le' (Nat.le_trans (Nat.add_le_add_right (Nat.succ_le_succ (Nat.zero_le c)) 21) hF)
  obtain ⟨x',y',h',m',e⟩:=ih (n + 21) (i + 1) (R ++ [bit (rowO m size h R)]) (h + (2 * bit (rowO m size h R) - 1)) (m / 2) (.int i) (.bool (rowO m size h R)) (by rw [hi,List.length_append]; rfl) (by rw [List.length_append]; show R.length + 1 + c≤20; rw [Nat.add_right_comm]; exact hl) (Nat.le_of_succ_le_succ hF)
  subst hi
  exact ⟨x',y',h',m',A5o c size R h m▸B8L rfl (B6z FT (n + 1) m size h y R hp (Nat.le_trans (Nat.le_add_right _ _) hl)) e⟩
theorem B3T (l:List Int):(l.map V.int).any A4G=false:=by
 induction l with
 | nil=>rfl
 | cons a l ih=>exact ih
theorem C0p (FT:List Fn) (h0:(nth FT 11).isSome=false) (hf:nth FT 0=some B6x) (m:Nat) (sz:Nat) (hs:sz=3∨sz=4) (a b:O) (loc cel:List V):
  run FT 60 (.app 0 [.int m,.int sz]) ⟨loc,cel,[(2,a),(0,b)],11⟩=some (.v (.ref 11),⟨loc,cel,[(11,.list ((rowA (2 * sz) sz [] 0 m).map .int)),(2,a),(0,b)],13⟩):=by
 have hes:run FT 56 (.es [.bin (.mul) (.lit (.int 2)) (.loc 1)]) (A1q m sz 0 .unb .unb [] [(2,a),(0,b)])=some (.vs [.int (2 * sz)],A1q m sz 0 .unb .unb [] [(2,a),(0,b)]):=by
  rcases hs with rfl | rfl
  ·
   kernel_rfl
  ·
   kernel_rfl
 have hr:A4I [.int (2 * (sz:Int))]=some (A2a (2 * sz) 0 1):=by
  rcases hs with rfl | rfl <;> rfl
 refine e4a1 (B6A FT sz [(2,a),(0,b)] (2 * sz) 56 0 [] 0 m .unb .unb rfl (by rcases hs with rfl | rfl <;> decide) (by rcases hs with rfl | rfl <;> decide)) fun x' y' h' m' hl=>?_
 have hb:run FT 59 (.ss B6x.body) ⟨[.int m,.int sz] ++ List.replicate 4 .unb,[],[(2,a),(0,b)],11⟩=some (.f (.ret (.ref 11)),A1q m' sz h' x' y' (rowA (2 * sz) sz [] 0 m) [(2,a),(0,b)]):=by
  rw [A4g]
  exact R_ss (σ₁:=A1q m sz 0 .unb .unb [] [(2,a),(0,b)]) (by kernel_rfl) (R_ss (B8N hes hr rfl hl) (A6v (A4L rfl)))
 refine (B1P (n:=59) (f:=0) (vs:=[.int m,.int sz]) (σ:=⟨loc,cel,[(2,a),(0,b)],11⟩) h0 hf (by rw [A4g]; exact ⟨rfl,Nat.le_of_ble_eq_true rfl⟩) (by rw [A4g] at hb ⊢; exact hb)).trans ?_
 have ht:tidy (A1q m' sz h' x' y' (rowA (2 * sz) sz [] 0 m) [(2,a),(0,b)]) 11 (.ref 11)=_:=(A2i (i:=11) rfl (B3T _))
 show some (R.v (.ref 11),({ tidy (A1q m' sz h' x' y' (rowA (2 * sz) sz [] 0 m) [(2,a),(0,b)]) 11 (.ref 11) with loc:=loc,cel:=cel }:St))=_
 rw [ht]
 rfl
end Mine
end
section
namespace Mine
noncomputable def abc:List Nat:=[97,98,99,100,101,102,103,104,105,106,107,108,109,110,111,112,113,114,115,116,117,118,119,120,121,122]
theorem C0q:∀k,k < 26→nth abc k=some (97 + k):=by
 have h:((List.range 26).all fun k=>nth abc k == some (97 + k))=true:=by decide +kernel
 intro k hk
 exact beq_iff_eq.mp (List.all_eq_true.mp h k (List.mem_range.mpr hk))
theorem B3U (hp:List (Nat×O)) (k:Nat) (hk:k < 26):index hp (.str abc) (.int k)=some (.str [97 + k]):=by
 show gd (flat abc) _=_
 rw [show flat abc=true from rfl]
 show (A3J (k:Int) 26).bind _=_
 rw [A5n _ _ hk]
 show (nth abc k).map _=_
 rw [C0q k hk]; rfl
noncomputable def sgn (N:Nat→Nat):List Nat:=[97 + N 5 % 26,65 + N 5 % 26,23000 + N 6 % 6000,30000 + N 7 % 6000]
noncomputable def nmL (N:Nat→Nat) (sz:Nat):List Nat:=((sgn N).take sz).drop (N 5 / 26 % sz) ++ ((sgn N).take sz).take (N 5 / 26 % sz)
noncomputable def nuL (N:Nat→Nat):List V:=[.int (N 0),.int (N 1),.int (N 2),.int (N 3),.int (N 4),.int (N 5),.int (N 6),.int (N 7)]
noncomputable def nmHp (N:Nat→Nat) (a b:O):List (Nat×O):=[(11,a),(2,.list (nuL N)),(0,b)]
theorem B6B (FT:List Fn) (N:Nat→Nat) (sz:Nat) (hs:sz=3∨sz=4) (a b:O):run FT 57 (.s (.asg [.loc 2] (.idx (.lit (.str abc)) (.bin (.mod) (.idx (.loc 0) (.lit (.int 5))) (.lit (.int 26)))))) ⟨[.ref 2,.int sz,.unb,.unb,.unb],[],nmHp N a b,13⟩=
   some (.f .next,⟨[.ref 2,.int sz,.str [97 + N 5 % 26],.unb,.unb],[],nmHp N a b,13⟩):=by
 exact (A3M (A2O rfl (A0T (A2O rfl rfl rfl) rfl (A1Y _ (N 5) 26 (by decide))) (B3U (nmHp N a b) (N 5 % 26) (Nat.mod_lt _ (by decide)))) rfl).trans rfl
theorem C0r (σ:St) (c x:Nat):A1x .add σ (.int c) (.int x)=some (.int (c + x:Nat),σ):=by
 show some (V.int ((c:Int) + (x:Int)),σ)=_
 rw [←Int.natCast_add]
theorem C0s (σ:St) (x:Nat) (h:x < 1114112):builtin .chr σ [.int x]=some (.str [x],σ):=by
 show (match Nat.blt x 1114112 with | true=>some (V.str [x],σ) | false=>none)=_
 rw [Nat.blt_eq.mpr h]
theorem B3V (σ:St) (x:Nat) (h:x < 26):A1G .upper σ (.str [97 + x]) []=some (.str [65 + x],σ):=by
 show (if 97≤97 + x∧97 + x≤122 then some (V.str [97 + x - 32],σ) else none)=_
 rw [if_pos ⟨Nat.le_add_right _ _,Nat.add_le_add_left (Nat.le_of_lt_succ h) 97⟩,show 97 + x - 32=65 + x from by rw [Nat.add_comm 97,Nat.add_sub_assoc (by decide),Nat.add_comm]]
theorem B6C (FT:List Fn) (N:Nat→Nat) (sz:Nat) (hs:sz=3∨sz=4) (a b:O):run FT 56 (.s (.asg [.loc 3] (.sli (.lst [.loc 2,.meth (.upper) (.loc 2) [],.bi (.chr) [.bin (.add) (.lit (.int 23000)) (.bin (.mod) (.idx (.loc 0) (.lit (.int 6))) (.lit (.int 6000)))],.bi (.chr) [.bin (.add) (.lit (.int 30000)) (.bin (.mod) (.idx (.loc 0) (.lit (.int 7))) (.lit (.int 6000)))]]) none (some (.loc 1))))) ⟨[.ref 2,.int sz,.str [97 + N 5 % 26],.unb,.unb],[],nmHp N a b,13⟩=
   some (.f .next,⟨[.ref 2,.int sz,.str [97 + N 5 % 26],.ref 14,.unb],[],(14,.list (((sgn N).take sz).map fun c=>.str [c]))::nmHp N a b,15⟩):=by
 have lt:∀x c:Nat,c≤30000→c + x % 6000 < 1114112:=fun x c h=>Nat.lt_of_lt_of_le (Nat.add_lt_add_of_le_of_lt h (Nat.mod_lt x (by decide:0 < 6000))) (by decide)
 have hsl:A2C ⟨[.ref 2,.int sz,.str [97 + N 5 % 26],.unb,.unb],[],(13,.list ((sgn N).map fun c=>.str [c]))::nmHp N a b,14⟩ (.ref 13) none (some (.int sz))=some (.ref 14,⟨[.ref 2,.int sz,.str [97 + N 5 % 26],.unb,.unb],[],(14,.list (((sgn N).take sz).map fun c=>.str [c]))::(13,.list ((sgn N).map fun c=>.str [c]))::nmHp N a b,15⟩):=by
  rcases hs with rfl | rfl <;> rfl
 have hany:(((sgn N).take sz).map fun c=>V.str [c]).any A4G=false:=by
  rcases hs with rfl | rfl <;> rfl
 have one:∀F k c x:Nat,c≤30000→index (nmHp N a b) (.ref 2) (.int k)=some (.int x)→run FT (F + 10) (.e (.bi (.chr) [.bin (.add) (.lit (.int c)) (.bin (.mod) (.idx (.loc 0) (.lit (.int k))) (.lit (.int 6000)))])) ⟨[.ref 2,.int sz,.str [97 + N 5 % 26],.unb,.unb],[],nmHp N a b,13⟩=some (.v (.str [c + x % 6000]),⟨[.ref 2,.int sz,.str [97 + N 5 % 26],.unb,.unb],[],nmHp N a b,13⟩):=fun F k c x h e=>
  R_bi (R_es (A0T rfl (A0T (A2O rfl rfl e) rfl (A1Y _ x 6000 (by decide))) (C0r _ c _)) rfl) (C0s _ _ (lt x c h))
 refine (A3M (B1M (C0X (vs:=(sgn N).map fun c=>.str [c]) (R_es rfl (R_es (A6w rfl rfl rfl rfl (B3V _ (N 5 % 26) (Nat.mod_lt _ (by decide)))) (R_es (one 40 6 23000 (N 6) (by decide) rfl) (R_es (one 39 7 30000 (N 7) (by decide) rfl) rfl)))) (Nat.le_of_ble_eq_true rfl)) (fun f=>rfl) hsl) rfl).trans ?_
 exact congrArg (fun s=>some (R.f .next,s)) (A2i (i:=14) (σ:=⟨[.ref 2,.int sz,.str [97 + N 5 % 26],.ref 14,.unb],[],(14,.list (((sgn N).take sz).map fun c=>.str [c]))::(13,.list ((sgn N).map fun c=>.str [c]))::nmHp N a b,15⟩) rfl hany)
theorem B6D (FT:List Fn) (N:Nat→Nat) (sz:Nat) (hs:sz=3∨sz=4) (a b:O):run FT 55 (.s (.asg [.loc 4] (.bin (.mod) (.bin (.fdiv) (.idx (.loc 0) (.lit (.int 5))) (.lit (.int 26))) (.loc 1)))) ⟨[.ref 2,.int sz,.str [97 + N 5 % 26],.ref 14,.unb],[],(14,.list (((sgn N).take sz).map fun c=>.str [c]))::nmHp N a b,15⟩=
   some (.f .next,⟨[.ref 2,.int sz,.str [97 + N 5 % 26],.ref 14,.int (N 5 / 26 % sz:Nat)],[],(14,.list (((sgn N).take sz).map fun c=>.str [c]))::nmHp N a b,15⟩):=by
 exact (A3M (A0T (A0T (A2O rfl rfl rfl) rfl (A5m _ (N 5) 26 (by decide) (by decide))) rfl (A1Y _ _ sz (by rcases hs with rfl | rfl <;> decide))) rfl).trans rfl
@[elab_as_elim] theorem b3 {p:Nat→Prop} (T:Nat) (h:T < 3) (h0:p 0) (h1:p 1) (h2:p 2):p T:=by
 cases T with
 | zero=>exact h0
 | succ T=>cases T with
  | zero=>exact h1
  | succ T=>cases T with
   | zero=>exact h2
   | succ T=>exact absurd (Nat.lt_of_succ_lt_succ (Nat.lt_of_succ_lt_succ (Nat.lt_of_succ_lt_succ h))) (Nat.not_lt_zero T)
@[elab_as_elim] theorem b4 {p:Nat→Prop} (T:Nat) (h:T < 4) (h0:p 0) (h1:p 1) (h2:p 2) (h3:p 3):p T:=by
 cases T with
 | zero=>exact h0
 | succ T=>exact b3 (p:=fun T=>p (T + 1)) T (Nat.lt_of_succ_lt_succ h) h1 h2 h3
theorem B6E (FT:List Fn) (N:Nat→Nat) (sz:Nat) (hs:sz=3∨sz=4) (a b:O):∃hp',run FT 54 (.s (.ret (.bin (.add) (.sli (.loc 3) (some (.loc 4)) none) (.sli (.loc 3) none (some (.loc 4)))))) ⟨[.ref 2,.int sz,.str [97 + N 5 % 26],.ref 14,.int (N 5 / 26 % sz:Nat)],[],(14,.list (((sgn N).take sz).map fun c=>.str [c]))::nmHp N a b,15⟩=
   some (.f (.ret (.ref 17)),⟨[.ref 2,.int sz,.str [97 + N 5 % 26],.ref 14,.int (N 5 / 26 % sz:Nat)],[],(17,.list ((nmL N sz).map fun c=>.str [c]))::hp' ++ nmHp N a b,18⟩)∧∀p∈hp',13≤p.1∧p.1 < 17:=by
 have ht:N 5 / 26 % sz < sz:=Nat.mod_lt _ (by rcases hs with rfl | rfl <;> decide)
 unfold nmL
 generalize N 5 / 26 % sz=T at *
 refine ⟨[(16,.list ((((sgn N).take sz).take T).map fun c=>.str [c])),(15,.list ((((sgn N).take sz).drop T).map fun c=>.str [c])),(14,.list (((sgn N).take sz).map fun c=>.str [c]))],?_,List.forall_mem_cons.mpr ⟨⟨Nat.le_of_ble_eq_true rfl,Nat.le_of_ble_eq_true rfl⟩,List.forall_mem_cons.mpr ⟨⟨Nat.le_of_ble_eq_true rfl,Nat.le_of_ble_eq_true rfl⟩,List.forall_mem_cons.mpr ⟨⟨Nat.le_of_ble_eq_true rfl,Nat.le_of_ble_eq_true rfl⟩,fun _ h=>nomatch h⟩⟩⟩⟩
 rcases hs with rfl | rfl
 ·
  exact b3 T ht (by kernel_rfl) (by kernel_rfl) (by kernel_rfl)
 ·
  exact b4 T ht (by kernel_rfl) (by kernel_rfl) (by kernel_rfl) (by kernel_rfl)
theorem B3W (FT:List Fn) (N:Nat→Nat) (sz:Nat) (hs:sz=3∨sz=4) (a b:O):
  ∃hp' loc',run FT 58 (.ss A6W.body) ⟨[.ref 2,.int sz,.unb,.unb,.unb],[],nmHp N a b,13⟩=some (.f (.ret (.ref 17)),⟨loc',[],(17,.list ((nmL N sz).map fun c=>.str [c]))::hp' ++ nmHp N a b,18⟩)∧∀p∈hp',13≤p.1∧p.1 < 17:=by
 refine e1a2 (B6E FT N sz hs a b) fun hp' s3 h3=>?_
 refine ⟨hp',[.ref 2,.int sz,.str [97 + N 5 % 26],.ref 14,.int (N 5 / 26 % sz:Nat)],?_,h3⟩
 show run FT (57 + 1) (.ss (_::_)) _=_
 have z0:=B6B FT N sz hs a b
 unfold abc at z0
 rw [B0u,z0]
 show run FT (56 + 1) (.ss (_::_)) _=_
 rw [B0u,B6C FT N sz hs a b]
 show run FT (55 + 1) (.ss (_::_)) _=_
 rw [B0u,B6D FT N sz hs a b]
 show run FT (54 + 1) (.ss (_::_)) _=_
 rw [B0u,s3]
end Mine
end
section
namespace Mine
noncomputable def wsK (k:Nat):Nat:=match k with | 0=>32 | 1=>9 | 2=>10 | _=>13
noncomputable def form (j k c:Nat):List Nat:=match j with
 | 0=>[34,c,34]
 | 1=>[92,c,wsK k]
 | _=>[c,10]
noncomputable def A3E (n:Nat):Nat→List Nat→List Nat
 | _,[]=>[]
 | i,c::l=>form (n / 3 ^ i % 3) i c ++ A3E n (i + 1) l
noncomputable def C0t:List S:=[.aug (.loc 2) (.add) (.idx (.tup [.bin (.add) (.bin (.add) (.lit (.str [34])) (.loc 4)) (.lit (.str [34])),.bin (.add) (.bin (.add) (.lit (.str [92])) (.loc 4)) (.idx (.lit (.str [32,9,10,13])) (.loc 3)),.bin (.add) (.loc 4) (.lit (.str [10]))]) (.bin (.mod) (.bin (.fdiv) (.loc 1) (.bin (.pow) (.lit (.int 3)) (.loc 3))) (.lit (.int 3))))]
theorem A8l {hp:List (Nat×O)} {j:Nat} {xs:List V} {i:Int} (g:hget hp j=some (.tup xs)):index hp (.ref j) (.int i)=(A3J i xs.length).bind (nth xs):=by
 show (match hget hp j with | some (.list xs)=>(A3J i xs.length).bind (nth xs) | some (.tup xs)=>(A3J i xs.length).bind (nth xs) | _=>none)=_
 rw [g]
theorem A9q (j k c:Nat):(form j k c).length≤3:=by
 cases j with
 | zero=>exact Nat.le_refl 3
 | succ j=>cases j with
  | zero=>exact Nat.le_refl 3
  | succ j=>exact Nat.le_succ 2
noncomputable def B3X (r:V) (n:Nat) (T:List Nat) (x y:V) (hp:List (Nat×O)) (nx:Nat):St:=⟨[r,.int n,.str T,x,y],[],hp,nx⟩
theorem B3Y (FT:List Fn) (m n k c:Nat) (hk:k < 4) (T:List Nat) (hT:T.length≤3000) (hp:List (Nat×O)) (nx:Nat) (r:V):
  ∃o,run FT (m + 20) (.ss C0t) (B3X r n T (.int k) (.str [c]) hp nx)=some (.f .next,B3X r n (T ++ form (n / 3 ^ k % 3) k c) (.int k) (.str [c]) ((nx,o)::hp) (nx + 1))∧oLT o=true:=by
 have e1:∀hp,index hp (.str [32,9,10,13]) (.int k)=some (.str [wsK k]):=fun hp=>b4 k hk rfl rfl rfl rfl
 have e2:∀σ,A1x .pow σ (.int 3) (.int k)=some (.int (3 ^ k:Nat),σ):=fun σ=>b4 k hk rfl rfl rfl rfl
 have p2:3 ^ k < 1000000:=b4 k hk (by decide) (by decide) (by decide) (by decide)
 have add:∀(σ:St) (a b:List Nat),a.length + b.length≤4000→A1x .add σ (.str a) (.str b)=some (.str (a ++ b),σ):=fun σ a b h=>if_pos h
 have e5:index ((nx,.tup [.str [34,c,34],.str [92,c,wsK k],.str [c,10]])::hp) (.ref nx) (.int (n / 3 ^ k % 3:Nat))=some (.str (form (n / 3 ^ k % 3) k c)):=by
  have hg:hget ((nx,O.tup [.str [34,c,34],.str [92,c,wsK k],.str [c,10]])::hp) nx=some (O.tup [.str [34,c,34],.str [92,c,wsK k],.str [c,10]]):=A4K _ _ _
  refine (A8l hg).trans ?_
  generalize hj:n / 3 ^ k % 3=j
  exact b3 j (hj▸Nat.mod_lt _ (by decide)) rfl rfl rfl
 have le:∀{a b:List Nat},Nat.ble (a.length + b.length) 4000=true→a.length + b.length≤4000:=fun h=>Nat.le_of_ble_eq_true h
 exact ⟨_,A6u (B4G (t:=.loc 2) (v:=.str T) rfl (A2O (C0Y (R_es (A0T (A0T rfl rfl (add _ [34] [c] (le rfl))) rfl (add _ [34,c] [34] (le rfl))) (R_es (A0T (A0T rfl rfl (add _ [92] [c] (le rfl))) (A2O rfl rfl (e1 _)) (add _ [92,c] [wsK k] (le rfl))) (R_es (A0T rfl rfl (add _ [c] [10] (le rfl))) rfl))) (Nat.le_of_ble_eq_true rfl))
  (A0T (A0T rfl (A0T rfl rfl (e2 _)) (A5m _ n _ (Nat.pow_pos (by decide)) p2)) rfl (A1Y _ _ 3 (by decide))) e5) rfl (add _ T _ (Nat.le_trans (Nat.add_le_add hT (A9q _ k c)) (by decide))) rfl),rfl⟩
theorem B3Z (FT:List Fn) (n:Nat) (r:V) {l:List Nat}:∀(F i:Nat) (T:List Nat) (hp:List (Nat×O)) (nx:Nat) (x y:V),i + l.length≤4→T.length + 3 * l.length≤3000→l.length + 21≤F→
  ∃x' y' hp',run FT F (.forE (.tup [.loc 3,.loc 4]) C0t (l.map fun c=>.str [c]) i) (B3X r n T x y hp nx)=some (.f .next,B3X r n (T ++ A3E n i l) x' y' (hp' ++ hp) (nx + l.length))∧∀p∈hp',oLT p.2=true∧nx≤p.1:=by
 induction l with
 | nil=>
  intro F i T hp nx x y _ _ hF
  obtain ⟨m,rfl⟩:=Nat.exists_eq_add_of_le' hF
  exact ⟨x,y,[],by show _=some (R.f .next,B3X r n (T ++ []) x y hp nx); rw [List.append_nil]; rfl,fun _ h=>nomatch h⟩
 | cons c l ih=>
  intro F i T hp nx x y hi hT hF
  obtain ⟨m,rfl⟩:=Nat.exists_eq_add_of_le' (Nat.le_trans (Nat.add_le_add_right (Nat.succ_le_succ (Nat.zero_le l.length)) 21) hF)
  have hT:T.length + 3 + 3 * l.length≤3000:=by rw [Nat.add_assoc,Nat.add_comm 3]; exact hT
  refine e1a2 (B3Y FT (m + 1) n i c (Nat.lt_of_lt_of_le (Nat.lt_add_of_pos_right (Nat.succ_pos _)) hi) T (Nat.le_trans (Nat.le_add_right _ 3) (Nat.le_trans (Nat.le_add_right _ _) hT)) hp nx r) fun o ht ho=>?_
  obtain ⟨x',y',hp',e,hh⟩:=ih (m + 21) (i + 1) (T ++ form (n / 3 ^ i % 3) i c) ((nx,o)::hp) (nx + 1) (.int i) (.str [c]) (by rw [Nat.add_right_comm]; exact hi) (Nat.le_trans (Nat.add_le_add_right (by rw [List.length_append]; exact Nat.add_le_add_left (A9q _ _ _) _) _) hT) (Nat.le_of_succ_le_succ hF)
  refine ⟨x',y',hp' ++ [(nx,o)],C0Z rfl ht (e.trans ?_),List.forall_mem_append.mpr ⟨fun p hp=>⟨(hh p hp).1,Nat.le_of_succ_le (hh p hp).2⟩,fun p hp=>by rw [List.mem_singleton.mp hp]; exact ⟨ho,Nat.le_refl _⟩⟩⟩
  rw [List.append_assoc,List.append_assoc,Nat.add_right_comm]
  rfl
end Mine
end
section
namespace Mine
theorem A2Z:A8k=⟨2,5,[.asg [.loc 2] (.lit (.str [])),.for_ (.tup [.loc 3,.loc 4]) (.enum) [.loc 0] C0t,.ret (.bin (.add) (.loc 2) (.lit (.str A5x)))]⟩:=by kernel_rfl
theorem A8m (n:Nat) (l:List Nat):∀(i:Nat),(A3E n i l).length≤3 * l.length:=by
 induction l with
 | nil=>exact fun _=>Nat.le_refl _
 | cons c l ih=>
  intro i
  show (form (n / 3 ^ i % 3) i c ++ A3E n (i + 1) l).length≤3 * (l.length + 1)
  rw [List.length_append,Nat.mul_succ,Nat.add_comm]
  exact Nat.add_le_add (ih (i + 1)) (A9q _ _ _)
theorem B6F (FT:List Fn) (h0:(nth FT 11).isSome=false) (hf:nth FT 1=some A8k) (n:Nat) (l:List Nat) (hl:l.length≤4) (a b c:O) (loc cel:List V):
  ∃hp',run FT 60 (.app 1 [.ref 17,.int n]) ⟨loc,cel,[(17,.list (l.map fun c=>.str [c])),(11,a),(2,b),(0,c)],18⟩=some (.v (.str (A3E n 0 l ++ A5x)),⟨loc,cel,(17,.list (l.map fun c=>.str [c]))::hp' ++ [(11,a),(2,b),(0,c)],18 + l.length⟩):=by
 have h3:3 * l.length≤12:=Nat.mul_le_mul_left 3 hl
 refine e3a2 (B3Z FT n (.ref 17) (l:=l) 56 0 [] [(11,a),(2,b),(0,c)] 18 .unb .unb (Nat.le_trans (Nat.le_of_eq (Nat.zero_add _)) hl) (Nat.le_trans (Nat.le_of_eq (Nat.zero_add _)) (Nat.le_trans h3 (by decide))) (Nat.le_trans (Nat.add_le_add_right hl 21) (by decide))) fun x' y' hp' hlp hh=>?_
 have hb:run FT 59 (.ss A8k.body) ⟨[.ref 17,.int n,.unb,.unb,.unb],[],[(17,.list (l.map fun c=>.str [c])),(11,a),(2,b),(0,c)],18⟩=
   some (.f (.ret (.str (A3E n 0 l ++ A5x))),⟨[.ref 17,.int n,.str (A3E n 0 l),x',y'],[],(17,.list (l.map fun c=>.str [c]))::(hp' ++ [(11,a),(2,b),(0,c)]),18 + l.length⟩):=by
  rw [A2Z]
  exact R_ss (σ₁:=⟨[.ref 17,.int n,.str [],.unb,.unb],[],[(17,.list (l.map fun c=>.str [c])),(11,a),(2,b),(0,c)],18⟩) (by kernel_rfl) (R_ss (C1a rfl rfl hlp) (A6v (A4L (A0T (v:=.str (A3E n 0 l)) (w:=.str A5x) rfl rfl (if_pos (Nat.le_trans (Nat.add_le_add_right (Nat.le_trans (A8m n l 0) h3) 13) (by decide)))))))
 exact ⟨hp',(B1P (n:=59) (f:=1) (vs:=[.ref 17,.int n]) (σ:=⟨loc,cel,[(17,.list (l.map fun c=>.str [c])),(11,a),(2,b),(0,c)],18⟩) h0 hf (by rw [A2Z]; exact ⟨rfl,Nat.le_of_ble_eq_true rfl⟩) (by rw [A2Z] at hb ⊢; exact hb)).trans rfl⟩
noncomputable def unsT (j:Nat):List Nat:=match j with
 | 0=>[92,40] | 1=>[92,41] | 2=>[34,40,34] | 3=>[34,41,41,34] | 4=>[34,92,34,41,34] | _=>[97]
noncomputable def A4h (L:List (List Nat)) (p:Nat) (u:List Nat):List (List Nat):=match L,p with
 | [],_=>[]
 | x::r,0=>(u ++ x)::r
 | x::r,p + 1=>x::A4h r p u
noncomputable def pc1 (L:List (List Nat)) (n:Nat):List (List Nat):=A4h L (n / 6 % L.length) (unsT (n % 6))
noncomputable def B4a:Fn:=(nth fnL2 2).getD default
noncomputable def B8A:List S:=[.asg [.loc 4] (.idx (.tup [.lit (.str [92,40]),.lit (.str [92,41]),.lit (.str [34,40,34]),.lit (.str [34,41,41,34]),.lit (.str [34,92,34,41,34]),.lit (.str [97])]) (.bin (.mod) (.loc 3) (.lit (.int 6)))),
 .asg [.loc 5] (.bin (.mod) (.bin (.fdiv) (.loc 3) (.lit (.int 6))) (.bi (.len) [.loc 0])),.put (.loc 2) (.loc 5) (.bin (.add) (.loc 4) (.idx (.loc 2) (.loc 5)))]
theorem A8n:B4a=⟨2,6,[.asg [.loc 2] (.comp (.idx (.lit (.str [41,40])) (.loc 1)) 2 (.loc 1) (.list) [.loc 0] [] []),.for_ (.loc 3) (.list) [.sli (.loc 1) (some (.lit (.int 2))) (some (.lit (.int 4)))] B8A,.ret (.loc 2)]⟩:=by kernel_rfl
noncomputable def pcHp (rowV:List V) (L:List (List Nat)) (nums:O):List (Nat×O):=[(1,.list rowV),(2,.list (L.map .str)),(0,nums)]
theorem B6G {L:List (List Nat)}:∀(p:Nat),p < L.length→∃x,nth (L.map V.str) p=some (.str x)∧x∈L∧∀u,lset (L.map V.str) p (.str (u ++ x))=(A4h L p u).map .str:=by
 induction L with
 | nil=>exact fun p h=>absurd h (Nat.not_lt_zero _)
 | cons x L ih=>
  intro p h
  cases p with
  | zero=>exact ⟨x,rfl,.head _,fun u=>rfl⟩
  | succ p=>
   refine e1a3 (ih p (Nat.lt_of_succ_lt_succ h)) fun y h1 h2 h3=>?_
   exact ⟨y,h1,.tail _ h2,fun u=>congrArg (V.str x::·) (h3 u)⟩
@[elab_as_elim] theorem b6 {p:Nat→Prop} (T:Nat) (h:T < 6) (h0:p 0) (h1:p 1) (h2:p 2) (h3:p 3) (h4:p 4) (h5:p 5):p T:=by
 cases T with
 | zero=>exact h0
 | succ T=>cases T with
  | zero=>exact h1
  | succ T=>exact b4 (p:=fun T=>p (T + 2)) T (Nat.lt_of_succ_lt_succ (Nat.lt_of_succ_lt_succ h)) h2 h3 h4 h5
noncomputable def pcS (n:Int) (x y:V) (hp:List (Nat×O)) (nx:Nat):St:=⟨[.ref 1,.ref 0,.ref 2,.int n,x,y],[],hp,nx⟩
theorem A6o (FT:List Fn) (m n nx:Nat) (hnx:nx=4∨nx=5) (rowV:List V) (L:List (List Nat)) (hL:rowV.length=L.length) (h0:0 < L.length) (hlen:∀x∈L,x.length≤100) (hL2:L.length < 1000000) (nums:O) (x y:V):
  ∃x' y',run FT (m + 20) (.ss B8A) (pcS n x y (pcHp rowV L nums) nx)=some (.f .next,pcS n x' y' (pcHp rowV (pc1 L n) nums) (nx + 1)):=by
 have hj:n % 6 < 6:=Nat.mod_lt _ (by decide)
 have hp:n / 6 % L.length < L.length:=Nat.mod_lt _ h0
 have hc:∀o,A0Z ((nx,o)::pcHp rowV L nums) nx (nx + 1)=pcHp rowV L nums:=fun o=>by rcases hnx with rfl | rfl <;> rfl
 have hc2:A0Z (pcHp rowV L nums) (nx + 1) (nx + 1)=pcHp rowV L nums:=by rcases hnx with rfl | rfl <;> rfl
 have hg:hget ((nx,O.tup [.str [92,40],.str [92,41],.str [34,40,34],.str [34,41,41,34],.str [34,92,34,41,34],.str [97]])::pcHp rowV L nums) nx=some (O.tup [.str [92,40],.str [92,41],.str [34,40,34],.str [34,41,41,34],.str [34,92,34,41,34],.str [97]]):=A4K _ _ _
 have e2:index ((nx,.tup [.str [92,40],.str [92,41],.str [34,40,34],.str [34,41,41,34],.str [34,92,34,41,34],.str [97]])::pcHp rowV L nums) (.ref nx) (.int (n % 6:Nat))=some (.str (unsT (n % 6))):=by
  refine (A8l hg).trans ?_
  generalize n % 6=j at hj ⊢
  exact b6 j hj rfl rfl rfl rfl rfl rfl
 have hu:(unsT (n % 6)).length≤5:=by
  generalize n % 6=j at hj ⊢
  exact b6 j hj (by decide) (by decide) (by decide) (by decide) (by decide) (by decide)
 have e3:∀x,builtin .len (pcS n x y (pcHp rowV L nums) (nx + 1)) [.ref 1]=some (.int L.length,pcS n x y (pcHp rowV L nums) (nx + 1)):=fun x=>hL▸rfl
 refine e1a3 (B6G (L:=L) (n / 6 % L.length) hp) fun z h1 h2 h3=>?_
 have e1:index (pcHp rowV L nums) (.ref 2) (.int (n / 6 % L.length:Nat))=some (.str z):=by
  show (A3J ((n / 6 % L.length:Nat):Int) (L.map V.str).length).bind (nth (L.map V.str))=_
  rw [A5n _ _ (by rw [List.length_map]; exact hp)]
  exact h1
 have hadd:∀σ,A1x .add σ (.str (unsT (n % 6))) (.str z)=some (.str (unsT (n % 6) ++ z),σ):=fun σ=>if_pos (Nat.le_trans (Nat.add_le_add hu (hlen z h2)) (by decide))
 refine ⟨.str (unsT (n % 6)),.int (n / 6 % L.length:Nat),?_⟩
 refine R_ss (σ₁:=pcS n (.str (unsT (n % 6))) y (pcHp rowV L nums) (nx + 1)) ((A3M (σ₂:=pcS n (.str (unsT (n % 6))) y ((nx,.tup [.str [92,40],.str [92,41],.str [34,40,34],.str [34,41,41,34],.str [34,92,34,41,34],.str [97]])::pcHp rowV L nums) (nx + 1)) (A2O (C0Y (vs:=[.str [92,40],.str [92,41],.str [34,40,34],.str [34,41,41,34],.str [34,92,34,41,34],.str [97]]) (σ₁:=pcS n x y (pcHp rowV L nums) nx) (by kernel_rfl) (Nat.le_of_ble_eq_true rfl)) (A0T rfl rfl (A1Y _ n 6 (by decide))) e2) rfl).trans
  (congrArg (fun hp=>some (R.f .next,pcS n (.str (unsT (n % 6))) y hp (nx + 1))) (hc _))) ?_
 refine R_ss (σ₁:=pcS n (.str (unsT (n % 6))) (.int (n / 6 % L.length:Nat)) (pcHp rowV L nums) (nx + 1)) ((A3M (σ₂:=pcS n (.str (unsT (n % 6))) (.int (n / 6 % L.length:Nat)) (pcHp rowV L nums) (nx + 1)) (A0T (A0T rfl rfl (A5m _ n 6 (by decide) (by decide))) (R_bi rfl (e3 _)) (A1Y _ _ _ h0)) rfl).trans
  (congrArg (fun hp=>some (R.f .next,pcS n (.str (unsT (n % 6))) (.int (n / 6 % L.length:Nat)) hp (nx + 1))) hc2)) ?_
 refine A6u ((C1e (j:=2) (k:=(n / 6 % L.length:Nat)) (σ₃:=pcS n (.str (unsT (n % 6))) (.int (n / 6 % L.length:Nat)) (pcHp rowV L nums) (nx + 1)) (A0T rfl (A2O rfl rfl e1) (hadd _)) rfl rfl (xs:=L.map .str) rfl ⟨Int.natCast_nonneg _,by rw [Int.toNat_natCast,List.length_map]; exact hp⟩).trans ?_)
 show some (R.f .next,pcS n (.str (unsT (n % 6))) (.int (n / 6 % L.length:Nat)) (hset (pcHp rowV L nums) 2 (.list (lset (L.map V.str) ((n / 6 % L.length:Nat):Int).toNat (.str (unsT (n % 6) ++ z))))) (nx + 1))=_
 rw [Int.toNat_natCast,h3]
 rfl
end Mine
end
section
namespace Mine
noncomputable def bitT (b:Int):List Nat:=if b=1 then [40] else [41]
theorem B6H (FT:List Fn) (hp:List (Nat×O)) (nx:Nat) {l:List Int}:∀(F:Nat) (acc:List V) (x y:V),(∀b∈l,b=0∨b=1)→acc.length + l.length≤3000→l.length + 11≤F→
  ∃y',run FT F (.turns (.idx (.lit (.str [41,40])) (.loc 1)) (.loc 1) [] [] 2 (l.map .int)) ⟨[x,y],[],(2,.list acc)::hp,nx⟩=some (.f .next,⟨[x,y'],[],(2,.list (acc ++ l.map fun b=>.str (bitT b)))::hp,nx⟩):=by
 induction l with
 | nil=>
  intro F acc x y _ _ hF
  obtain ⟨n,rfl⟩:=Nat.exists_eq_add_of_le' hF
  exact ⟨y,by rw [List.map_nil,List.map_nil,List.append_nil]; rfl⟩
 | cons b l ih=>
  intro F acc x y h hl hF
  obtain ⟨n,rfl⟩:=Nat.exists_eq_add_of_le' (Nat.le_trans (Nat.add_le_add_right (Nat.succ_le_succ (Nat.zero_le l.length)) 11) hF)
  obtain ⟨y',e⟩:=ih (n + 11) (acc ++ [.str (bitT b)]) x (.int b) (fun c hc=>h c (.tail _ hc)) (by rw [List.length_append]; show acc.length + 1 + l.length≤3000; rw [Nat.add_right_comm]; exact hl) (Nat.le_of_succ_le_succ hF)
  have e1:index ((2,O.list acc)::hp) (.str [41,40]) (.int b)=some (.str (bitT b)):=by
   rcases h b (.head _) with rfl | rfl <;> rfl
  rw [List.append_assoc] at e
  exact ⟨y',C1b (σ₁:=⟨[x,.int b],[],(2,.list acc)::hp,nx⟩) rfl rfl (A2O rfl rfl e1) rfl (Nat.le_trans (Nat.le_add_right _ _) (Nat.le_trans hl (by decide))) e⟩
theorem B6I (l:List Int):(l.map fun b=>V.str (bitT b))=(l.map bitT).map .str:=by rw [List.map_map]; rfl
theorem A5p (u:List Nat) {L:List (List Nat)}:∀(p:Nat),(A4h L p u).length=L.length:=by
 induction L with
 | nil=>exact fun _=>rfl
 | cons x L ih=>
  intro p
  cases p with
  | zero=>rfl
  | succ p=>exact congrArg (· + 1) (ih p)
theorem A9r (u:List Nat) (k:Nat) (hu:u.length≤5) {L:List (List Nat)}:∀(p:Nat),(∀x∈L,x.length≤k)→∀x∈A4h L p u,x.length≤k + 5:=by
 induction L with
 | nil=>exact fun _ _ _ h=>nomatch h
 | cons y L ih=>
  intro p h
  have hr:=fun z hz=>h z (.tail y hz)
  cases p with
  | zero=>exact List.forall_mem_cons.mpr ⟨by rw [List.length_append,Nat.add_comm]; exact Nat.add_le_add (h y (.head _)) hu,fun z hz=>Nat.le_trans (hr z hz) (Nat.le_add_right _ _)⟩
  | succ p=>exact List.forall_mem_cons.mpr ⟨Nat.le_trans (h y (.head _)) (Nat.le_add_right _ _),ih p hr⟩
theorem C0u (n:Nat):(unsT (n % 6)).length≤5:=b6 (p:=fun j=>(unsT j).length≤5) (n % 6) (Nat.mod_lt _ (by decide)) (by decide) (by decide) (by decide) (by decide) (by decide) (by decide)
noncomputable def A0S (row:List Int) (N:Nat→Nat):List (List Nat):=pc1 (pc1 (row.map bitT) (N 2)) (N 3)
theorem B1z (FT:List Fn) (row:List Int) (hr:∀b∈row,b=0∨b=1) (h0:0 < row.length) (hl:row.length≤20) (N:Nat→Nat):
  ∃o loc',run FT 59 (.ss B4a.body) ⟨[.ref 1,.ref 0,.unb,.unb,.unb,.unb],[],[(1,.list (row.map .int)),(0,.list (nuL N))],2⟩=some (.f (.ret (.ref 2)),⟨loc',[],(3,o)::pcHp (row.map .int) (A0S row N) (.list (nuL N)),6⟩)∧oLT o=true:=by
 have small:∀x∈row.map bitT,x.length≤1:=fun x hx=>by
  refine e1a2 (List.mem_map.mp hx) fun b _ e2z=>?_
  subst e2z
  unfold bitT
  by_cases h:b=1
  ·
   rw [if_pos h]; exact Nat.le_refl _
  ·
   rw [if_neg h]; exact Nat.le_refl _
 obtain ⟨y',ht⟩:=B6H FT [(0,.list (nuL N))] 3 (l:=row) 56 [] .unb .unb hr (Nat.le_trans (Nat.le_of_eq (Nat.zero_add _)) (Nat.le_trans hl (by decide))) (Nat.le_trans (Nat.add_le_add_right hl 11) (by decide))
 rw [B6I,List.nil_append] at ht
 have h4:((row.map bitT).map V.str).any A4G=false:=by
  rw [List.any_eq_false]
  intro x hx
  refine e1a2 (List.mem_map.mp hx) fun y _ e2z=>?_
  subst e2z
  exact nofun
 have s0:run FT 58 (.s (.asg [.loc 2] (.comp (.idx (.lit (.str [41,40])) (.loc 1)) 2 (.loc 1) (.list) [.loc 0] [] []))) ⟨[.ref 1,.ref 0,.unb,.unb,.unb,.unb],[],[(1,.list (row.map .int)),(0,.list (nuL N))],2⟩=
   some (.f .next,⟨[.ref 1,.ref 0,.ref 2,.unb,.unb,.unb],[],pcHp (row.map .int) (row.map bitT) (.list (nuL N)),3⟩):=
  (A3M (σ₂:=⟨[.ref 1,.ref 0,.ref 2,.unb,.unb,.unb],[],pcHp (row.map .int) (row.map bitT) (.list (nuL N)),3⟩) (C1c rfl rfl ht) rfl).trans (congrArg (fun s=>some (R.f .next,s)) (A2i (i:=2) rfl h4))
 have l0:(row.map bitT).length=row.length:=List.length_map ..
 have l1:(pc1 (row.map bitT) (N 2)).length=row.length:=(A5p _ _).trans l0
 have li:(row.map V.int).length=row.length:=List.length_map ..
 obtain ⟨x1,y1,t1⟩:=A6o FT 35 (N 2) 4 (.inl rfl) (row.map .int) (row.map bitT) (li.trans l0.symm) (l0▸h0) (fun x hx=>Nat.le_trans (small x hx) (by decide)) (by rw [l0]; exact Nat.lt_of_le_of_lt hl (by decide)) (.list (nuL N)) .unb .unb
 obtain ⟨x2,y2,t2⟩:=A6o FT 34 (N 3) 5 (.inr rfl) (row.map .int) (pc1 (row.map bitT) (N 2)) (li.trans l1.symm) (l1▸h0) (fun x hx=>Nat.le_trans (A9r _ 1 (C0u (N 2)) _ small x hx) (by decide)) (by rw [l1]; exact Nat.lt_of_le_of_lt hl (by decide)) (.list (nuL N)) x1 y1
 refine ⟨.list [.int (N 2),.int (N 3)],[.ref 1,.ref 0,.ref 2,.int (N 3),x2,y2],?_,rfl⟩
 rw [A8n]
 exact R_ss s0 (R_ss (C1d (σ₁:=⟨[.ref 1,.ref 0,.ref 2,.unb,.unb,.unb],[],(3,.list [.int (N 2),.int (N 3)])::pcHp (row.map .int) (row.map bitT) (.list (nuL N)),4⟩) (j:=3) (xs:=[.int (N 2),.int (N 3)]) (by kernel_rfl) rfl (B8L (σ₁:=pcS (N 2) .unb .unb (pcHp (row.map .int) (row.map bitT) (.list (nuL N))) 4) rfl t1 (B8L (σ₁:=pcS (N 3) x1 y1 (pcHp (row.map .int) (pc1 (row.map bitT) (N 2)) (.list (nuL N))) 5) rfl t2 rfl))) (A6v (A4L rfl)))
end Mine
end
section
namespace Mine
open PySem PySem.Unicode PySem.UnicodeData
noncomputable def C0v (lo hi:Nat) (l:List (Nat×Nat×Nat)):Bool:=l.all fun p=>Nat.blt p.2.1 lo || Nat.blt hi p.1
theorem A5q {lo hi c:Nat} (h1:lo≤c) (h2:c≤hi):∀{l:List (Nat×Nat×Nat)},C0v lo hi l=true→shifted l c=none
 | [],_=>rfl
 | (a,b,t)::r,h=>by
  unfold C0v at h
  rw [List.all_cons,Bool.and_eq_true,Bool.or_eq_true] at h
  unfold shifted
  by_cases h3:c < a
  ·
   rw [if_pos h3]
  ·
   rw [if_neg h3]
   have h4:¬c≤b:=by
    rcases h.1 with h | h
    ·
     have:b < lo:=Nat.blt_eq.mp h
     lia
    ·
     have:hi < a:=Nat.blt_eq.mp h
     lia
   rw [if_neg h4]
   exact A5q h1 h2 h.2
theorem B4b:C0v 23000 36000 oneLower=true:=by decide +kernel
theorem A9s:(severalLower.all fun p=>Nat.blt p.1 23000)=true:=by decide +kernel
theorem A6p {c:Nat} (h1:23000≤c):∀{l:List (Nat×List Nat)},(l.all fun p=>Nat.blt p.1 23000)=true→l.lookup c=none
 | [],_=>rfl
 | (a,b)::r,h=>by
  rw [List.all_cons,Bool.and_eq_true] at h
  rw [List.lookup_cons]
  have:a < 23000:=Nat.blt_eq.mp h.1
  have hne:(c == a)=false:=beq_eq_false_iff_ne.mpr (by lia)
  rw [hne]
  exact A6p h1 h.2
theorem A5r {c:Nat} (h1:23000≤c) (h2:c≤36000):lowerOf c=[c]:=by
 unfold lowerOf image
 rw [A6p h1 A9s,A5q h1 h2 B4b]
 rfl
theorem A3F {c:Nat} (h:c≠931):Txt.lower ⟨#[c]⟩=⟨(lowerOf c).toArray⟩:=by
 have e:lowerAt #[c] 0=lowerOf c:=by
  show (if (c == 931 && endsWord #[c] 0)=true then [962] else lowerOf c)=_
  rw [beq_eq_false_iff_ne.mpr h]
  simp
 show Str.mk (PySem.placed ⟨#[c]⟩ fun i _=>lowerAt #[c] i)=_
 unfold PySem.placed
 simp [e]
theorem B6J:((List.range 26).all fun k=>lowerOf (97 + k) == [97 + k] && lowerOf (65 + k) == [97 + k])=true:=by decide +kernel
noncomputable def unsK (j:Nat):Tk:=match j with
 | 0=>.eo | 1=>.ec | 2=>.q1 | 3=>.q2 | 4=>.q3 | _=>.a
theorem B6K (j:Nat):(unsK j).txt=unsT j:=by
 match j with
 | 0=>rfl
 | 1=>rfl
 | 2=>rfl
 | 3=>rfl
 | 4=>rfl
 | j + 5=>rfl
theorem B4c (j:Nat):B0t (unsK j)=true:=by
 match j with
 | 0=>rfl
 | 1=>rfl
 | 2=>rfl
 | 3=>rfl
 | 4=>rfl
 | j + 5=>rfl
noncomputable def usAt (len:Nat) (N:Nat→Nat) (p:Nat):List Tk:=(if N 3 / 6 % len=p then [unsK (N 3 % 6)] else []) ++ (if N 2 / 6 % len=p then [unsK (N 2 % 6)] else [])
noncomputable def rho (sz:Nat) (N:Nat→Nat) (i:Nat):List Nat:=
 if i < 4 then [(sgn N).getD i 0] else if i < 8 then form (N 6 / 6000 / 3 ^ ((i - 4 + sz - N 5 / 26 % sz) % sz) % 3) ((i - 4 + sz - N 5 / 26 % sz) % sz) ((sgn N).getD (i - 4) 0)
 else A0r (A1h (usAt (2 * sz) N ((i - 8) / 2)) (Nat.beq (i % 2) 1))
theorem B6L (j k c:Nat):0 < (form j k c).length∧(form j k c).length≤3:=by unfold form; split <;> simp
theorem B0z (len:Nat) (N:Nat→Nat) (p:Nat) (b:Bool):0 < (A0r (A1h (usAt len N p) b)).length∧(A0r (A1h (usAt len N p) b)).length≤15:=by
 have h:∀j,(unsK j).txt.length≤5:=fun j=>by
  match j with
  | 0=>decide
  | 1=>decide
  | 2=>decide
  | 3=>decide
  | 4=>decide
  | j + 5=>show 1≤5; lia
 have h1:=h (N 2 % 6)
 have h2:=h (N 3 % 6)
 unfold A0r A1h usAt
 have hb:((if b=true then Tk.op else Tk.cl)).txt.length=1:=by cases b <;> rfl
 constructor
 ·
  simp only [List.flatMap_append,List.flatMap_cons,List.flatMap_nil,List.length_append,hb]; simp
 ·
  split <;> split <;> simp only [List.flatMap_append,List.flatMap_cons,List.flatMap_nil,List.length_append,List.length_nil,hb] <;> lia
theorem B4d (sz:Nat) (N:Nat→Nat) (i:Nat):0 < (rho sz N i).length∧(rho sz N i).length≤15:=by
 unfold rho
 split
 ·
  simp
 ·
  split
  ·
   have:=B6L (N 6 / 6000 / 3 ^ ((i - 4 + sz - N 5 / 26 % sz) % sz) % 3) ((i - 4 + sz - N 5 / 26 % sz) % sz) ((sgn N).getD (i - 4) 0)
   omega
  ·
   exact B0z _ _ _ _
theorem A3G (N:Nat→Nat) (i:Nat):(sgn N).getD i 0 < 36000:=by
 match i with
 | 0=>show 97 + N 5 % 26 < 36000; lia
 | 1=>show 65 + N 5 % 26 < 36000; lia
 | 2=>show 23000 + N 6 % 6000 < 36000; lia
 | 3=>show 30000 + N 7 % 6000 < 36000; lia
 | i + 4=>show 0 < 36000; lia
theorem A6q (j k c:Nat) (h:c < 36000):∀x∈form j k c,x < 36000:=by
 have hw:wsK k < 36000:=by unfold wsK; split <;> omega
 unfold form
 split <;> intro x hx <;> simp at hx <;> rcases hx with rfl | rfl | rfl <;> omega
theorem A9t (l:List Tk):∀x∈A0r l,x < 100:=fun x hx=>by
 refine e1a2 (List.mem_flatMap.mp hx) fun k _ hc=>?_
 cases k <;> simp [Tk.txt] at hc <;> lia
theorem A8o (sz:Nat) (N:Nat→Nat) (i:Nat):∀c∈rho sz N i,c < symB:=by
 have hb:symB=2097152:=rfl
 unfold rho
 split
 ·
  intro c hc
  rw [List.mem_singleton.mp hc]
  have:=A3G N i; lia
 ·
  split
  ·
   intro c hc
   have:=A6q _ _ _ (A3G N (i - 4)) c hc; lia
  ·
   intro c hc
   have:=A9t _ c hc; lia
theorem A3a (sz:Nat) (N:Nat→Nat) (i:Nat) (h:i < 4):rho sz N i=[(sgn N).getD i 0]:=if_pos h
theorem B4e (N:Nat→Nat) (i:Nat) (h:i < 4):Txt.lower ⟨#[(sgn N).getD i 0]⟩=⟨#[(sgn N).getD (if i=1 then 0 else i) 0]⟩:=by
 have az:=fun k (hk:k < 26)=>List.all_eq_true.mp B6J k (List.mem_range.mpr hk)
 have h5:N 5 % 26 < 26:=Nat.mod_lt _ (by decide)
 have az:=az _ h5
 rw [Bool.and_eq_true] at az
 have a1:=beq_iff_eq.mp az.1
 have a2:=beq_iff_eq.mp az.2
 match i,h with
 | 0,_=>
  show Txt.lower ⟨#[97 + N 5 % 26]⟩=⟨#[97 + N 5 % 26]⟩
  rw [A3F (by lia),a1]
 | 1,_=>
  show Txt.lower ⟨#[65 + N 5 % 26]⟩=⟨#[97 + N 5 % 26]⟩
  rw [A3F (by lia),a2]
 | 2,_=>
  show Txt.lower ⟨#[23000 + N 6 % 6000]⟩=⟨#[23000 + N 6 % 6000]⟩
  rw [A3F (by lia),A5r (by lia) (by lia)]
 | 3,_=>
  show Txt.lower ⟨#[30000 + N 7 % 6000]⟩=⟨#[30000 + N 7 % 6000]⟩
  rw [A3F (by lia),A5r (by lia) (by lia)]
noncomputable def sLo:Nat→Nat
 | 0=>97 | 1=>65 | 2=>23000 | _=>30000
noncomputable def sUp:Nat→Nat
 | 0=>123 | 1=>91 | 2=>29000 | _=>36000
theorem lt4 {i:Nat} (h:i < 4):i=0∨i=1∨i=2∨i=3:=by lia
theorem B4f (N:Nat→Nat) {i:Nat} (h:i < 4):sLo i≤(sgn N).getD i 0∧(sgn N).getD i 0 < sUp i:=by
 have k:∀a x b,0 < b→a≤a + x % b∧a + x % b < a + b:=fun a x b h=>⟨Nat.le_add_right _ _,Nat.add_lt_add_left (Nat.mod_lt _ h) a⟩
 rcases lt4 h with rfl | rfl | rfl | rfl
 ·
  exact k 97 (N 5) 26 (Nat.zero_lt_succ _)
 ·
  exact k 65 (N 5) 26 (Nat.zero_lt_succ _)
 ·
  exact k 23000 (N 6) 6000 (Nat.zero_lt_succ _)
 ·
  exact k 30000 (N 7) 6000 (Nat.zero_lt_succ _)
noncomputable def C3b (i j:Nat):Bool:=Nat.beq i j || (Nat.ble (sUp i) (sLo j) || Nat.ble (sUp j) (sLo i))
noncomputable def C3c:List Nat:=[9,10,13,32,34,92,46,40,41]
theorem mem4 {p:Nat→Bool} (h:(List.range 4).all p=true) {i:Nat} (hi:i < 4):p i=true:=List.all_eq_true.mp h i (List.mem_range.mpr hi)
theorem C0w (sz:Nat) (N:Nat→Nat):A0n (rho sz N) where
 one:=fun i hi=>⟨_,A3a sz N i hi⟩
 inj:=fun i j hi hj e=>by
  rw [A3a sz N i hi,A3a sz N j hj] at e
  have e:=(List.cons.inj e).1
  have a:=B4f N hi
  have b:=B4f N hj
  rw [e] at a
  rcases Bool.or_eq_true_iff.mp (mem4 (mem4 (p:=fun i=>(List.range 4).all (C3b i)) rfl hi) hj) with h | h
  ·
   exact Nat.eq_of_beq_eq_true h
  ·
   rcases Bool.or_eq_true_iff.mp h with h | h
   ·
    exact absurd (Nat.lt_of_lt_of_le a.2 (Nat.le_trans (Nat.le_of_ble_eq_true h) b.1)) (Nat.lt_irrefl _)
   ·
    exact absurd (Nat.lt_of_lt_of_le b.2 (Nat.le_trans (Nat.le_of_ble_eq_true h) a.1)) (Nat.lt_irrefl _)
 pun:=fun i x hi e=>by
  rw [A3a sz N i hi] at e
  have e:=(List.cons.inj e).1
  have a:=B4f N hi
  rw [e] at a
  have h:=mem4 (p:=fun i=>C3c.all fun y=>Nat.blt y (sLo i) || Nat.ble (sUp i) y) rfl hi
  refine List.any_eq_false.mpr fun y hy e2=>?_
  have e2:=Nat.eq_of_beq_eq_true e2
  rw [e2] at a
  rcases Bool.or_eq_true_iff.mp (List.all_eq_true.mp h y hy) with h | h
  ·
   exact absurd (Nat.lt_of_lt_of_le (Nat.blt_eq.mp h) a.1) (Nat.lt_irrefl _)
  ·
   exact absurd (Nat.lt_of_lt_of_le a.2 (Nat.le_of_ble_eq_true h)) (Nat.lt_irrefl _)
 low:=fun i x hi e=>by
  rw [A3a sz N i hi] at e
  have e:=(List.cons.inj e).1
  subst e
  refine ⟨symB + (if i=1 then 0 else i),?_,?_,?_,fun z hz=>?_⟩
  ·
   rcases lt4 hi with rfl | rfl | rfl | rfl <;> rfl
  ·
   rcases lt4 hi with rfl | rfl | rfl | rfl <;> exact Nat.le_of_ble_eq_true rfl
  ·
   exact Nat.le_add_right _ _
  ·
   rw [Nat.add_sub_cancel_left,A3a sz N _ (by rcases lt4 hi with rfl | rfl | rfl | rfl <;> exact Nat.le_of_ble_eq_true rfl)] at hz
   rw [B4e N i hi,(List.cons.inj hz).1]
theorem B4g (sz:Nat) (N:Nat→Nat):A9m (rho sz N) where
 ex:=by
  refine ⟨fun p=>usAt (2 * sz) N ((p - symB - 8) / 2),fun p x hx=>?_,fun p hp=>?_⟩
  ·
   have hx:x∈usAt (2 * sz) N ((p - symB - 8) / 2):=hx
   unfold usAt at hx
   rcases List.mem_append.mp hx with hx | hx
   ·
    split at hx
    ·
     rw [List.mem_singleton.mp hx]; exact B4c _
    ·
     cases hx
   ·
    split at hx
    ·
     rw [List.mem_singleton.mp hx]; exact B4c _
    ·
     cases hx
  ·
   have e:rho sz N (p - symB)=A0r (A1h (usAt (2 * sz) N ((p - symB - 8) / 2)) (opens p)):=by
    unfold rho opens
    rw [if_neg (by lia),if_neg (by lia)]
    have:(p - symB) % 2=p % 2:=by have:symB=2097152:=rfl; lia
    rw [this]
   exact ⟨e,(B0z _ _ _ _).2⟩
end Mine
end
section
namespace Mine
open PySem PySem.W PyProof.Rows
structure A1d (w:World) (s:Shared) (mg mb:Str→Option Value):Prop where
 K:(KK w.params).In s.heap
 tab:s.heap.get? 100=some (tabObj #[])
 g:s.heap.Ns mainGlobals mg
 b:s.heap.Ns builtinsNs mb
 nolimit:s.heap.NoLimit
 boot:∀x:Str,x ≠ "__name__" → mb x=bootBuiltins x
 mod4:∃sl,s.heap.get? 4=some ⟨.type "module",some builtinsNs,.plain,sl⟩
section
variable {w:World} {s:Shared} {mg mb:Str→Option Value}
theorem A1d.mgAt (S:A1d w s mg mb) (x:Str):mg x=nsAt (KK w.params) 3 x:=C0c S.K S.g (by kernel_rfl) x
noncomputable def fv1:Nat→Addr
 | 0=>117 | 1=>131 | 2=>136 | 3=>143 | 4=>63 | 5=>91 | 6=>98 | 7=>84 | 8=>77 | 9=>124 | 10=>49 | _=>105
noncomputable def LX1 (s:Shared) (ρ:Nat→List Nat) (φ:Nat→Addr) (n:Nat) (h:Heap) (i:Nat):O→Prop
 | .frz xs=>∃(vs:List Value) (ob:Obj),h.get? (φ i)=some ob∧s.heap.get? (φ i)=some ob∧(∃k,ob.cls=.type "list" ∧ ob.data=.seq vs.toArray k)∧VRs ρ φ n xs vs∧xs.length≤5000
 | _=>False
noncomputable def C1 (w:World) (s:Shared) (mg mb:Str→Option Value) (ρ:Nat→List Nat) (l:Addr):Cx where
 prog:=PySem.Challenge.rw_uc0018_01.row.prog
 w:=w
 h₀:=hideAll s.heap [l]
 ρ:=ρ
 gens:=s.gens
 drawn:=s.drawn
 os:=s.os
 mg:=mg
 mb:=mb
 LX:=LX1 s ρ
 fv:=fv1
 fread:=35
theorem each {p:Nat→Bool} {n:Nat} (h:(List.range n).all p=true) {i:Nat} (hi:i < n):p i=true:=List.all_eq_true.mp h i (List.mem_range.mpr hi)
noncomputable def C3d (o:Option Value) (a:Addr):Bool:=match o with
 | some (.ref c)=>Nat.beq c a
 | _=>false
theorem B6M {o:Option Value} {a:Addr} (h:C3d o a=true):o=some (.ref a):=by
 cases o with
 | none=>exact noft h
 | some v=>cases v with
  | ref c=>exact congrArg (fun x=>some (Value.ref x)) (Nat.eq_of_beq_eq_true h)
  | _=>exact noft h
noncomputable def low9 (f:Nat):Bool:=Nat.ble f 8 || Nat.beq f 99
noncomputable def B4h (P:Params) (f:Nat):Bool:=match A2j f with
 | none=>true
 | some x=>low9 f && C3d (nsAt (KK P) 3 x) (fv1 f)
theorem C4v (S:A1d w s mg mb) (fv:Nat→Addr) (hfv:∀f,low9 f=true→fv f=fv1 f):∀(f:Nat) (x:Str),A2j f=some x→mg x=some (.ref (fv f)):=fun f x h=>by
 rw [S.mgAt x]
 rcases Nat.lt_or_ge f 100 with hf | hf
 ·
  have k:=each (p:=B4h w.params) (n:=100) (by kernel_rfl) hf
  unfold B4h at k
  rw [h] at k
  rw [hfv f (both k).1]
  exact B6M (both k).2
 ·
  obtain ⟨k,rfl⟩:=Nat.exists_eq_add_of_le' hf
  exact A0a h
theorem free1 (S:A1d w s mg mb):∀x:Str,A3e.contains x=true→mg x=none:=fun x h=>by
 rw [S.mgAt x]
 have k:(A3e.all fun x=>(nsAt (KK w.params) 3 x).isNone)=true:=by kernel_rfl
 exact Option.isNone_iff_eq_none.mp (List.all_eq_true.mp k x (List.contains_iff_mem.mp h))
noncomputable def C0x (P:Params) (x:Str) (i:Int):Bool:=match nsAt (KK P) 3 x with
 | some (.int j _)=>decide (j=i)
 | _=>false
theorem B6N {P:Params} {x:Str} {i:Int} (h:C0x P x i=true):∃t,nsAt (KK P) 3 x=some (.int i t):=by
 unfold C0x at h
 cases e:nsAt (KK P) 3 x with
 | none=>rw [e] at h; exact noft h
 | some v=>
  rw [e] at h
  cases v with
  | int j t=>exact ⟨t,by rw [of_decide_eq_true h]⟩
  | _=>exact noft h
theorem A4E {β:Type} {r:β} {q:Prop} {c:Prop} [i:Decidable c] {k l:Option β} (h:(if c then k else l)=some r) (H:c→k=some r→q) (H':l=some r→q):q:=by
 induction i with
 | isTrue hc=>exact H hc h
 | isFalse _=>exact H' h
theorem con1 (S:A1d w s mg mb) (ρ:Nat→List Nat):∀x v,A1P x=some v→∃rv,mg x=some rv∧VR ρ (fun _=>0) 0 v rv:=fun x v h=>by
 rw [S.mgAt x]
 unfold A1P at h
 have I:∀{y:Str} {i:Int},C0x w.params y i=true→(x == y)=true→some (V.int i)=some v→∃rv,nsAt (KK w.params) 3 x=some rv∧VR ρ (fun _=>0) 0 v rv:=fun k e h=>by
  obtain ⟨t,e1⟩:=B6N k
  rw [←Option.some.inj h,beq_iff_eq.mp e]
  exact ⟨_,e1,.int _ _⟩
 refine A4E h (fun e h=>?_) fun h=>A4E h (fun e h=>I (by kernel_rfl) e h) fun h=>A4E h (fun e h=>I (by kernel_rfl) e h) fun h=>A4E h (fun e h=>I (by kernel_rfl) e h) fun h=>A0a h
 rw [←Option.some.inj h,beq_iff_eq.mp e]
 exact ⟨.str "..." (tokV ((nsAt (KK w.params) 3 "ELLIPSIS_MARKER").getD .none)),by kernel_rfl,(VR.str [46,46,46] _ (Nat.le_of_ble_eq_true rfl):VR ρ _ _ _ _)⟩
end
end Mine
end
section
namespace Mine
open PySem PySem.W PyProof.Rows
noncomputable def C0y (K:Frag):Bool:=K.all fun p=>p.2.cls != .type "list"
theorem B4i (P:Params):C0y (KK P)=true:=by kernel_rfl
theorem A9u {α:Type} {l:List (Nat×α)} {a:Nat} {o:α} (h:l.lookup a=some o):(a,o)∈l:=by
 induction l with
 | nil=>cases h
 | cons p r ih=>
  obtain ⟨b,x⟩:=p
  rw [List.lookup_cons] at h
  cases q:a == b with
  | true=>rw [q] at h; cases h; rw [beq_iff_eq.mp q]; exact .head _
  | false=>rw [q] at h; exact .tail _ (ih h)
section
variable {w:World} {s:Shared} {mg mb:Str→Option Value} {sz:Nat} {N:Nat→Nat}
theorem B4j {C:Cx} (S:A1d C.w s C.mg C.mb) (hg:C.h₀.Ns mainGlobals C.mg) (hb:C.h₀.Ns builtinsNs C.mb) (hn:C.h₀.NoLimit) (hρ:C.ρ=rho sz N)
  (hext:∀φ φ' n n' h h' i o,C.LX φ n h i o→Ext φ φ' n→n≤n'→(∀j∈i::own o,j < n)→(∀j∈i::own o,∀ob,h.get? (φ j)=some ob→h'.get? (φ j)=some ob)→C.LX φ' n' h' i o)
  (hfrz:∀φ n h i xs,C.LX φ n h i (.frz xs)→∃vs:List Value,h.IsList (φ i) vs.toArray∧VRs C.ρ φ n xs vs∧xs.length≤5000):OkC C where
 H:={
  g:=hg
  b:=hb
  nolimit:=hn
  boot:=S.boot
  free:=free1 S
  con:=con1 S C.ρ
  ρlen:=fun i=>by rw [hρ]; have:=(B4d sz N i).2; lia
  ext:=hext
  frz:=hfrz }
 S:=by rw [hρ]; exact C0w sz N
 pos:=fun i=>by rw [hρ]; exact (B4d sz N i).1
 small:=fun i=>by rw [hρ]; exact A8o sz N i
theorem A2N {K:Frag} {h:Heap} (X:K.In h) {a:Addr} (hf:(fdOf K a).isSome=true):∃o fd,h.get? a=some o∧o.data=.func fd:=by
 obtain ⟨fd,hf⟩:=Option.isSome_iff_exists.mp hf
 refine e1a2 (A3y hf) fun o h1 h2=>?_
 exact ⟨o,fd,X a o h1,h2⟩
theorem A6X {C:Cx} (S:A1d C.w s C.mg C.mb) (X:(KK C.w.params).In C.h₀) (hfv:∀f,low9 f=true→C.fv f=fv1 f) (h9:(fdOf (KK C.w.params) (C.fv 9)).isSome=true) (h10:(fdOf (KK C.w.params) (C.fv 10)).isSome=true) (hr:C.fread=35):A0X C where
 glob:=C4v S C.fv hfv
 fn:=fun f hf=>by
  have key:f=9∨f=10∨(f < 9∨f=99):=by lia
  rcases key with rfl | rfl | hf | rfl
  ·
   exact A2N X h9
  ·
   exact A2N X h10
  ·
   rw [hfv f (Bool.or_eq_true_iff.mpr (.inl (Nat.ble_eq_true_of_le (Nat.le_of_lt_succ hf))))]
   exact A2N X (each (p:=fun f=>(fdOf (KK C.w.params) (fv1 f)).isSome) (n:=9) (by kernel_rfl) hf)
  ·
   rw [hfv 99 rfl]
   exact A2N X (by kernel_rfl)
 fnr:=by rw [hr]; exact A2N X (by kernel_rfl)
noncomputable def A3H (o:Obj):Prop:=o.cls=.type "list" ∧ ∃vs k,o.data=.seq vs k
theorem A9v {h:Heap} {a l:Addr} {m:Str→Option Value} {ol:Obj} (hn:h.Ns a m) (hl:h.get? l=some ol) (hc:A3H ol):(hideAll h [l]).Ns a m:=by
 refine e3a3 hn fun o es ep ho hd r=>?_
 refine ⟨o,es,ep,hideAll_get [l] ho (fun hm=>?_),hd,r⟩
 rw [List.mem_singleton.mp hm,hl] at ho
 cases ho
 obtain ⟨_,vs,k,hc⟩:=hc
 rw [hc] at hd
 cases hd
theorem A6r {h:Heap} {l:Addr} {ol:Obj} {P:Params} (X:(KK P).In h) (hl:h.get? l=some ol) (hc:A3H ol):(KK P).In (hideAll h [l]):=fun a o e=>by
 have h1:=X a o e
 refine hideAll_get [l] h1 fun hm=>?_
 rw [List.mem_singleton.mp hm,hl] at h1
 have h2:=List.all_eq_true.mp (B4i P) _ (A9u e)
 cases h1
 exact absurd hc.1 (bne_iff_ne.mp h2)
theorem C0z {ρ:Nat→List Nat}:∀φ φ' n n' h h' i o,LX1 s ρ φ n h i o→Ext φ φ' n→n≤n'→(∀j∈i::own o,j < n)→(∀j∈i::own o,∀ob,h.get? (φ j)=some ob→h'.get? (φ j)=some ob)→LX1 s ρ φ' n' h' i o:=by
 intro φ φ' n n' h h' i o x e hn hi hk
 cases o with
 | frz xs=>
  refine e2a5 x fun vs ob h1 h2 h5 h3 h4=>?_
  have ei:=e i (hi i (.head _))
  exact ⟨vs,ob,by rw [ei]; exact hk i (.head _) _ h1,by rw [ei]; exact h2,h5,h3.ext e hn,h4⟩
 | _=>exact x.elim
variable {l:Addr} {ol:Obj}
theorem ok1 (S:A1d w s mg mb) (hl:s.heap.get? l=some ol) (hc:A3H ol):OkC (C1 w s mg mb (rho sz N) l):=
 B4j (C:=C1 w s mg mb (rho sz N) l) (sz:=sz) (N:=N) (s:=s) S (A9v S.g hl hc) (A9v S.b hl hc) (let ⟨mc,h1,h2⟩:=S.nolimit; ⟨mc,A9v h1 hl hc,h2⟩) rfl C0z fun φ n h i xs x=>by
  obtain ⟨vs,ob,h1,_,⟨k,h5,h6⟩,h3,h4⟩:=x
  exact ⟨vs,⟨ob,h1,h5,k,h6⟩,h3,h4⟩
theorem fun1 (S:A1d w s mg mb) (hl:s.heap.get? l=some ol) (hc:A3H ol):A0X (C1 w s mg mb (rho sz N) l):=
 A6X (C:=C1 w s mg mb (rho sz N) l) (s:=s) S (A6r S.K hl hc) (fun f _=>rfl) (by kernel_rfl) (by kernel_rfl) rfl
theorem C3e:NoLx (C1 w s mg mb (rho sz N) l):=fun φ n h i=>⟨fun _ _ _ _ x=>x,fun _ _ _ _ x=>x,fun _ _ _ x=>x⟩
noncomputable def FT1:List Fn:=[B6x,A8k,noFn,noFn,noFn,noFn,noFn,noFn,noFn,A6W]
theorem fn1 {C:Cx} {P:Params} (X:(KH P).In C.h₀) (h:C.fv 1=131):FnIs C 1 A8k:=
 A1j X h (ps:=["names", "number"]) (k:=60) (by kernel_rfl) (by kernel_rfl) (by kernel_rfl) (by kernel_rfl) (by kernel_rfl) fun rvs hr=>l2 rvs hr fun x0 x1=>by kernel_rfl
theorem fnN {C:Cx} {P:Params} (X:(KH P).In C.h₀) (h:C.fv 9=124):FnIs C 9 A6W:=
 A1j X h (ps:=["numbers", "size"]) (k:=60) (by kernel_rfl) (by kernel_rfl) (by kernel_rfl) (by kernel_rfl) (by kernel_rfl) fun rvs hr=>l2 rvs hr fun x0 x1=>by kernel_rfl
theorem hyp1 (S:A1d w s mg mb) (hl:s.heap.get? l=some ol) (hc:A3H ol):Hyp (C1 w s mg mb (rho sz N) l) FT1 0 where
 O:=ok1 S hl hc
 L:=A9h (ok1 S hl hc) C3e
 F:=fun1 S hl hc
 N:=fun h=>nomatch h
 fn:=
  have X:(KH w.params).In (C1 w s mg mb (rho sz N) l).h₀:=A6r S.K hl hc
  have no:∀{f:Nat} {fn:Fn},Nat.blt fn.params 50=false→fn.params < 50→FnIs (C1 w s mg mb (rho sz N) l) f fn:=fun h1 h2=>noft (h1.symm.trans (Nat.ble_eq_true_of_le h2))
  A1A (p:=fun f fn=>fn.params < 50→FnIs (C1 w s mg mb (rho sz N) l) f fn) (fun _=>fn0 X rfl) (A1A (fun _=>fn1 X rfl) (A1A (no rfl) (A1A (no rfl) (A1A (no rfl) (A1A (no rfl) (A1A (no rfl) (A1A (no rfl) (A1A (no rfl) (A1A (fun _=>fnN X rfl) C2p)))))))))
theorem C4w (S:A1d w s mg mb) (hl:s.heap.get? l=some ol) (hc:A3H ol):Hyp (C1 w s mg mb (rho sz N) l) [] 0 where
 O:=ok1 S hl hc
 L:=A9h (ok1 S hl hc) C3e
 F:=fun1 S hl hc
 N:=fun h=>nomatch h
 fn:=fun f fn h=>nomatch h
end
end Mine
end
section
namespace Mine
open PySem PySem.W PyProof.Rows
noncomputable def A1E (P:Params):FuncData:=fdAt (KK P) 148
noncomputable def lawB (P:Params):List PySem.Stmt:=A0Y (A1E P)
noncomputable def stN (l:List PySem.Stmt) (k:Nat):PySem.Stmt:=match l.drop k with | s::_=>s | []=>.Pass ⟨0,0,0,0⟩
section
variable {C:Cx} {fi:Fi} {φ φ':Nat→Addr} {X:List (Addr×Obj)} {σ σ' σ₁ σ₂:St} {s s':Shared} {A:Around} {n:Nat} {v:V}
theorem A9w (O:OkC C) {x:Str} {p pos:Pos} {value:PySem.Expr} {tg:Tg} (ht:TgN fi.cx tg x) (hs:A0K tg v σ₁=some σ₂) (hsw:swapsWith value (some (.Name x p)) pos.line fi.env=pure false) {E:Value→Shared→Prop} {Q:Flow→Shared→Prop}
  (h:∀(E Q:Value→Shared→Prop),(∀φ' s' rv,Ext φ φ' σ.nx→Inv C fi φ' X σ₁ s'→VR C.ρ φ' σ₁.nx v rv→Q rv s')→wpAny (MM C) A (eval value fi.env) Q E s)
  (q:∀φ' s',Ext φ φ' σ.nx→Inv C fi φ' X σ₂ s'→Q .next s'):wpAny (MM C) A (exec (.Assign [.Name x p] value pos) fi.env) Q E s:=
 wpAny_Assign_Name (h _ _ fun φ1 s1 rv e1 I1 v1=>A0Q O ht hs I1 v1 fun s2 I2=>q φ1 s2 e1 I2) hsw
end
noncomputable def B6O:PySem.Stmt:=.Assign [.Name "numbers" ⟨212,4,212,11⟩] (.Call (.Name "_law_numbers" ⟨212,14,212,26⟩) [.Name "script" ⟨212,27,212,33⟩] [] ⟨212,14,212,34⟩) ⟨212,4,212,34⟩
noncomputable def C3f:PySem.Stmt:=.Assign [.Name "names" ⟨215,4,215,9⟩] (.Call (.Name "_law_names" ⟨215,12,215,22⟩) [.Name "numbers" ⟨215,23,215,30⟩,.Name "size" ⟨215,32,215,36⟩] [] ⟨215,12,215,37⟩) ⟨215,4,215,37⟩
theorem C4x (P:Params):lawB P=B6O::stN (lawB P) 1::stN (lawB P) 2::C3f::stN (lawB P) 4::(lawB P).drop 5:=by kernel_rfl
noncomputable abbrev A0z (P:Params) (L:Addr):Fi:=fiC (A1E P) L 148
noncomputable def t1S:S:=.asg [.loc 2] (.bin .add (.lit (.int 3)) (.cmp .gt (.bi .len [.loc 0]) (.lit (.int 2))))
noncomputable def t2S:S:=.asg [.cel 0] (.call 0 [.idx (.loc 1) (.lit (.int 0)),.loc 2])
noncomputable def t4S:S:=.asg [.loc 3] (.call 1 [.cel 1,.bin .fdiv (.idx (.loc 1) (.lit (.int 6))) (.lit (.int 6000))])
theorem tr1 (P:Params):TrS 60 (A0i (A1E P).scope) t1S (stN (lawB P) 1):=A6e (by kernel_rfl) (by kernel_rfl)
theorem tr2 (P:Params):TrS 60 (A0i (A1E P).scope) t2S (stN (lawB P) 2):=A6e (by kernel_rfl) (by kernel_rfl)
theorem tr4 (P:Params):TrS 60 (A0i (A1E P).scope) t4S (stN (lawB P) 4):=A6e (by kernel_rfl) (by kernel_rfl)
theorem B4k (P:Params):TgN (A0i (A1E P).scope) (.loc 1) "numbers" := ⟨by kernel_rfl,by kernel_rfl⟩
theorem C0A (P:Params):TgN (A0i (A1E P).scope) (.cel 1) "names" := ⟨by kernel_rfl,by kernel_rfl⟩
noncomputable def NN (zs:List Int) (k:Nat):Nat:=(numAt zs k).toNat
noncomputable def szOf (zs:List Int):Nat:=if 2 < zs.length then 4 else 3
theorem B4l (zs:List Int) (k:Nat):numAt zs k=(NN zs k:Int):=by
 unfold NN
 rw [Int.toNat_of_nonneg]
 unfold numAt
 rw [Int.fmod_eq_emod_of_nonneg _ (by decide)]
 exact Int.emod_nonneg _ (by decide)
theorem C0B (zs:List Int):(C0o zs).map V.int=nuL (NN zs):=by
 unfold C0o nuL
 simp only [List.map_cons,List.map_nil,B4l]
noncomputable def stL0 (zs:List Int):St:=⟨.ref 0::List.replicate 26 .unb,List.replicate 10 .unb,[(0,.frz (zs.map .int))],1⟩
noncomputable def stL1 (zs:List Int):St:=⟨.ref 0::.ref 2::List.replicate 25 .unb,List.replicate 10 .unb,[(2,.list (nuL (NN zs))),(0,.frz (zs.map .int))],11⟩
noncomputable def stL2 (zs:List Int):St:=⟨.ref 0::.ref 2::.int (szOf zs)::List.replicate 24 .unb,List.replicate 10 .unb,[(2,.list (nuL (NN zs))),(0,.frz (zs.map .int))],11⟩
noncomputable def A0G (zs:List Int):List Int:=rowA (2 * szOf zs) (szOf zs) [] 0 (NN zs 0)
noncomputable def stL3 (zs:List Int):St:=⟨.ref 0::.ref 2::.int (szOf zs)::List.replicate 24 .unb,.ref 11::List.replicate 9 .unb,[(11,.list ((A0G zs).map .int)),(2,.list (nuL (NN zs))),(0,.frz (zs.map .int))],13⟩
noncomputable def nmOf (zs:List Int):List Nat:=nmL (NN zs) (szOf zs)
noncomputable def stL4 (zs:List Int):St:=⟨.ref 0::.ref 2::.int (szOf zs)::List.replicate 24 .unb,.ref 11::.ref 17::List.replicate 8 .unb,[(17,.list ((nmOf zs).map fun c=>.str [c])),(11,.list ((A0G zs).map .int)),(2,.list (nuL (NN zs))),(0,.frz (zs.map .int))],18⟩
noncomputable def txOf (zs:List Int):List Nat:=A3E (NN zs 6 / 6000) 0 (nmOf zs) ++ A5x
noncomputable def stL5 (zs:List Int):St:=⟨.ref 0::.ref 2::.int (szOf zs)::.str (txOf zs)::List.replicate 23 .unb,.ref 11::.ref 17::List.replicate 8 .unb,[(17,.list ((nmOf zs).map fun c=>.str [c])),(11,.list ((A0G zs).map .int)),(2,.list (nuL (NN zs))),(0,.frz (zs.map .int))],18 + szOf zs⟩
theorem sz34 (zs:List Int):szOf zs=3∨szOf zs=4:=by unfold szOf; split <;> simp
theorem B4m (zs:List Int):(nmOf zs).length=szOf zs:=by
 unfold nmOf nmL
 have h:NN zs 5 / 26 % szOf zs < szOf zs:=Nat.mod_lt _ (by rcases sz34 zs with h | h <;> lia)
 have h4:(sgn (NN zs)).length=4:=rfl
 rcases sz34 zs with e | e <;> simp only [List.length_append,List.length_drop,List.length_take,h4,e] at h ⊢ <;> lia
theorem C4y (zs:List Int):run FT1 62 (.s t1S) (stL1 zs)=some (.f .next,stL2 zs):=by
 have e1:run FT1 59 (.e (.bi .len [.loc 0])) (stL1 zs)=some (.v (.int zs.length),stL1 zs):=
  R_bi (vs:=[.ref 0]) rfl (congrArg (fun n:Nat=>some (V.int n,stL1 zs)) (List.length_map _))
 have e2:A5w .gt (stL1 zs).hp (.int zs.length) (.int 2)=some (decide (2 < zs.length)):=congrArg some (decide_eq_decide.mpr Int.ofNat_lt)
 have e4:A1x .add (stL1 zs) (.int 3) (.bool (decide (2 < zs.length)))=some (.int (szOf zs),stL1 zs):=by
  unfold szOf
  by_cases h:2 < zs.length
  ·
   rw [decide_eq_true h,if_pos h]; rfl
  ·
   rw [decide_eq_false h,if_neg h]; rfl
 exact A3M (σ₂:=stL2 zs) (A0T (v:=.int 3) (σ₁:=stL1 zs) rfl (A5F e1 rfl e2) e4) rfl
theorem C4z (zs:List Int):run FT1 62 (.s t2S) (stL2 zs)=some (.f .next,stL3 zs):=by
 have ha:=C0p FT1 rfl rfl (NN zs 0) (szOf zs) (sz34 zs) (.list (nuL (NN zs))) (.frz (zs.map .int)) (stL2 zs).loc (stL2 zs).cel
 have he:run FT1 61 (.e (.call 0 [.idx (.loc 1) (.lit (.int 0)),.loc 2])) (stL2 zs)=some (.v (.ref 11),⟨(stL2 zs).loc,(stL2 zs).cel,(stL3 zs).hp,13⟩):=B1N (vs:=[.int (NN zs 0),.int (szOf zs)]) (σ₁:=stL2 zs) rfl ha
 exact (A3M (σ₂:=⟨(stL2 zs).loc,.ref 11::List.replicate 9 .unb,(stL3 zs).hp,13⟩) he rfl).trans (congrArg (fun s=>some (R.f .next,s)) (A2i (i:=11) rfl (B3T _)))
theorem B4n {n i:Nat}:∀{l:List (Nat×O)} {r:List (Nat×O)},(∀p∈l,n≤p.1∧p.1 < i)→A0Z (l ++ r) n i=A0Z r n i
 | [],r,_=>rfl
 | (j,x)::l,r,h=>by
  obtain ⟨h1,h2⟩:=h (j,x) (.head _)
  have h1:n≤j:=h1
  have h2:j < i:=h2
  have e1:Nat.blt j n=false:=by
   cases q:Nat.blt j n with
   | false=>rfl
   | true=>have:=Nat.blt_eq.mp q; lia
  have e2:Nat.beq j i=false:=by
   cases q:Nat.beq j i with
   | false=>rfl
   | true=>have:=Nat.eq_of_beq_eq_true q; lia
  show (match Nat.blt j n with | true=>(j,x)::(l ++ r) | false=>match Nat.beq j i with | true=>(j,x)::A0Z (l ++ r) n i | false=>A0Z (l ++ r) n i)=_
  rw [e1,e2]
  exact B4n fun p hp=>h p (.tail _ hp)
theorem C4A (zs:List Int):run FT1 59 (.app 9 [.ref 2,.int (szOf zs)]) (stL3 zs)=some (.v (.ref 17),stL4 zs |> fun σ=>{ σ with cel:=(stL3 zs).cel }):=by
 refine e2a2 (B3W FT1 (NN zs) (szOf zs) (sz34 zs) (.list ((A0G zs).map .int)) (.frz (zs.map .int))) fun hp' loc' hb hh=>?_
 have hb':=B9W (FT:=FT1) (n:=58) (f:=9) (vs:=[.ref 2,.int (szOf zs)]) (σ:=stL3 zs) (fn:=A6W) rfl rfl ⟨rfl,by simp⟩ hb
 rw [show (59:Nat)=58 + 1 from rfl,hb']
 have hany:((nmL (NN zs) (szOf zs)).map fun c=>V.str [c]).any A4G=false:=by
  rw [List.any_eq_false]
  intro x hx
  refine e1a2 (List.mem_map.mp hx) fun y _ e2z=>?_
  subst e2z
  exact nofun
 have hc:A0Z ((17,O.list ((nmL (NN zs) (szOf zs)).map fun c=>V.str [c]))::hp' ++ nmHp (NN zs) (.list ((A0G zs).map .int)) (.frz (zs.map .int))) 13 17=(17,O.list ((nmL (NN zs) (szOf zs)).map fun c=>V.str [c]))::nmHp (NN zs) (.list ((A0G zs).map .int)) (.frz (zs.map .int)):=by
  show (17,_)::A0Z (hp' ++ nmHp _ _ _) 13 17=_
  rw [B4n hh]
  rfl
 exact congrArg (fun t:St=>some (R.v (.ref 17),{ t with loc:=(stL3 zs).loc,cel:=(stL3 zs).cel })) ((A2i (σ:=⟨loc',[],(17,O.list ((nmL (NN zs) (szOf zs)).map fun c=>V.str [c]))::hp' ++ nmHp (NN zs) (.list ((A0G zs).map .int)) (.frz (zs.map .int)),18⟩) (m:=13) (i:=17) rfl hany).trans (congrArg (fun h=>St.mk loc' [] h 18) hc))
theorem C4B (zs:List Int):∃hp',run FT1 62 (.s t4S) (stL4 zs)=some (.f .next,{ stL5 zs with hp:=(17,.list ((nmOf zs).map fun c=>.str [c]))::hp' ++ [(11,.list ((A0G zs).map .int)),(2,.list (nuL (NN zs))),(0,.frz (zs.map .int))] }):=by
 have hes:run FT1 60 (.es [.cel 1,.bin .fdiv (.idx (.loc 1) (.lit (.int 6))) (.lit (.int 6000))]) (stL4 zs)=some (.vs [.ref 17,.int (NN zs 6 / 6000:Nat)],stL4 zs):=
  R_es (σ₁:=stL4 zs) rfl (R_es (A0T (A2O (σ₁:=stL4 zs) (σ₂:=stL4 zs) (v:=.ref 2) (w:=.int 6) (u:=.int (NN zs 6)) rfl rfl rfl) rfl (A5m (stL4 zs) _ 6000 (by decide) (by decide))) rfl)
 obtain ⟨hp',ha⟩:=B6F FT1 rfl rfl (NN zs 6 / 6000) (nmOf zs) (by rw [B4m]; rcases sz34 zs with h | h <;> lia) (.list ((A0G zs).map .int)) (.list (nuL (NN zs))) (.frz (zs.map .int)) (stL4 zs).loc (stL4 zs).cel
 refine ⟨hp',?_⟩
 have he:run FT1 61 (.e (.call 1 [.cel 1,.bin .fdiv (.idx (.loc 1) (.lit (.int 6))) (.lit (.int 6000))])) (stL4 zs)=some (.v (.str (txOf zs)),⟨(stL4 zs).loc,(stL4 zs).cel,(17,.list ((nmOf zs).map fun c=>.str [c]))::hp' ++ [(11,.list ((A0G zs).map .int)),(2,.list (nuL (NN zs))),(0,.frz (zs.map .int))],18 + (nmOf zs).length⟩):=B1N hes ha
 rw [B4m] at he
 exact A3M (σ₂:={ stL5 zs with hp:=(17,.list ((nmOf zs).map fun c=>.str [c]))::hp' ++ [(11,.list ((A0G zs).map .int)),(2,.list (nuL (NN zs))),(0,.frz (zs.map .int))] }) he rfl
end Mine
end
section
namespace Mine
open PySem PySem.W PyProof.Rows
section
variable {w:World} {s₀ s:Shared} {mg mb:Str→Option Value} {l:Addr} {ol:Obj} {A:Around} {φ:Nat→Addr} {L:Addr}
noncomputable abbrev Cn (w:World) (s₀:Shared) (mg mb:Str→Option Value) (zs:List Int) (l:Addr):Cx:=C1 w s₀ mg mb (rho (szOf zs) (NN zs)) l
theorem C3g (P:Params):(A0i (fdAt (KK P) 110).scope).cels=(["script", "added"]:List Str):=by kernel_rfl
theorem C3h (zs:List Int) (S:A1d w s₀ mg mb) (hl:s₀.heap.get? l=some ol) (hc:A3H ol) (hR:Room A 100) {E:Value→Shared→Prop} {Q:Flow→Shared→Prop} (I0:Inv (Cn w s₀ mg mb zs l) (A0z w.params L) φ [] (stL0 zs) s)
  (q:∀φ' s',Ext φ φ' 1→Inv (Cn w s₀ mg mb zs l) (A0z w.params L) φ' [] (stL5 zs) s'→wpAny (MM (Cn w s₀ mg mb zs l)) A (execs ((lawB w.params).drop 5) (A0z w.params L).env) Q E s'):
  wpAny (MM (Cn w s₀ mg mb zs l)) A (execs (lawB w.params) (A0z w.params L).env) Q E s:=by
 have O:=ok1 (sz:=szOf zs) (N:=NN zs) S hl hc
 have B0:=big (C4w (sz:=szOf zs) (N:=NN zs) S hl hc) rfl 60
 have B1:=big (hyp1 (sz:=szOf zs) (N:=NN zs) S hl hc) rfl 62
 have B2:=big (hyp1 (sz:=szOf zs) (N:=NN zs) S hl hc) rfl 59
 have X1:(KH w.params).In (Cn w s₀ mg mb zs l).h₀:=A6r S.K hl hc
 rw [C4x]
 refine wpAny_execs_cons ?_
 refine A9w (φ:=φ) (X:=[]) (σ:=stL0 zs) (σ₁:=⟨(stL0 zs).loc,(stL0 zs).cel,(A2M zs).hp,(A2M zs).nx⟩) (σ₂:=⟨(stL1 zs).loc,(stL1 zs).cel,(A2M zs).hp,(A2M zs).nx⟩) (v:=.ref 2) O (B4k w.params) rfl rfl (fun E Q q'=>?_) fun φ1 s1 x1 I1=>?_
 ·
  refine Call_ ?_
  have hes:run [] 60 (.es [.loc 0]) (stL0 zs)=some (.vs [.ref 0],stL0 zs):=by kernel_rfl
  have htr:TrL (TrE 60 (A0z w.params L).cx) [.loc 0] [.Name "script" ⟨212,27,212,33⟩]:=A6f (by kernel_rfl) (by kernel_rfl)
  rw [A0W htr]
  refine A1T I0 O (rv:=.ref 110) (by kernel_rfl) (by show mg _=_; rw [S.mgAt]; kernel_rfl) ?_
  refine A7y (A2N X1 (by kernel_rfl)) (B0.es (X:=[]) hes (hR.le rfl) htr) I0 fun φ1 s1 rvs e1 I1 v1=>?_
  have RC:RecC (Cn w s₀ mg mb zs l).h₀ 110 (fdAt (KK w.params) 110) ["script"]:=A9n X1 (by kernel_rfl)
  cases v1 with
  | cons v1 v2=>
  cases v2
  refine e0a4 (B3S zs) fun r1 r2 r3 r4=>?_
  refine B3J O B0 RC (vs:=[.ref 0]) (loc:=[]) (cel:=[.ref 0,.unb]) (kt:=60) (t:=C0n.body) (v:=.ref 2) (σ₂:=A2M zs) (by kernel_rfl) I1 (.cons v1 .nil) (fun k v h=>by cases k <;> cases h) (fun k v h hu=>?_) (A2l (by kernel_rfl) (by kernel_rfl)) r1 (hR.le rfl) fun φ2 s2 rv e2 I2 v2=>?_
  ·
   match k,h with
   | 0,h=>cases h; exact ⟨0, "script",by rw [C3g]; rfl,rfl,rfl⟩
   | 1,h=>cases h; exact absurd rfl hu
   | k + 2,h=>cases k <;> cases h
  ·
   exact q' φ2 s2 rv (e1.trans e2 (Nat.le_refl _)) I2 v2
 refine e0a4 (B3S zs) fun _ r2 r3 _=>?_
 have J1:Inv (Cn w s₀ mg mb zs l) (A0z w.params L) φ1 [] (stL1 zs) s1:=by
  have:=I1.drop (hp:=(A2M zs).hp.filter fun p=>Nat.beq p.1 2 || Nat.beq p.1 0) List.filter_sublist
  rw [r2,C0B] at this
  rw [r3] at this
  exact this
 refine wpAny_execs_cons (B1.s (X:=[]) (C4y zs) (hR.le rfl) (tr1 w.params) φ1 s1 _ _ J1 fun φ2 s2 rf x2 J2 fr=>?_)
 cases fr
 refine wpAny_execs_cons (B1.s (X:=[]) (C4z zs) (hR.le rfl) (tr2 w.params) φ2 s2 _ _ J2 fun φ3 s3 rf x3 J3 fr=>?_)
 cases fr
 refine wpAny_execs_cons ?_
 refine A9w (φ:=φ3) (X:=[]) (σ:=stL3 zs) (σ₁:={ stL4 zs with cel:=(stL3 zs).cel }) (σ₂:=stL4 zs) (v:=.ref 17) O (C0A w.params) rfl rfl (fun E Q q'=>?_) fun φ4 s4 x4 J4=>?_
 ·
  refine Call_ ?_
  have hes:run FT1 59 (.es [.loc 1,.loc 2]) (stL3 zs)=some (.vs [.ref 2,.int (szOf zs)],stL3 zs):=by kernel_rfl
  have htr:TrL (TrE 60 (A0z w.params L).cx) [.loc 1,.loc 2] [.Name "numbers" ⟨215,23,215,30⟩,.Name "size" ⟨215,32,215,36⟩]:=A6f (by kernel_rfl) (by kernel_rfl)
  rw [A0W htr]
  refine A1T J3 O (rv:=.ref 124) (by kernel_rfl) (by show mg _=_; rw [S.mgAt]; kernel_rfl) ?_
  refine A7y (A2N X1 (by kernel_rfl)) (B2.es (X:=[]) hes (hR.le rfl) htr) J3 fun φ4 s4 rvs e4 J4 v4=>?_
  exact B2.app (X:=[]) (C4A zs) (hR.le rfl) φ4 s4 _ _ rvs J4 v4 fun φ5 s5 rv e5 J5 v5=>q' φ5 s5 rv (e4.trans e5 (Nat.le_refl _)) J5 v5
 obtain ⟨hp',r4⟩:=C4B zs
 refine wpAny_execs_cons (B1.s (X:=[]) r4 (hR.le rfl) (tr4 w.params) φ4 s4 _ _ J4 fun φ5 s5 rf x5 J5 fr=>?_)
 cases fr
 refine q φ5 s5 ?_ ?_
 ·
  have n1:(1:Nat)≤(stL1 zs).nx:=by show 1≤11; lia
  have n2:(1:Nat)≤(stL2 zs).nx:=by show 1≤11; lia
  have n3:(1:Nat)≤(stL3 zs).nx:=by show 1≤13; lia
  have n4:(1:Nat)≤(stL4 zs).nx:=by show 1≤18; lia
  exact (((((x1.trans (x2.le n1)) (Nat.le_refl _)).trans (x3.le n2)) (Nat.le_refl _)).trans (x4.le n3) (Nat.le_refl _)).trans (x5.le n4) (Nat.le_refl _)
 ·
  refine J5.drop (hp:=(stL5 zs).hp) ?_
  exact List.Sublist.cons_cons _ (List.sublist_append_right _ _)
end
end Mine
end
section
namespace Mine
open PySem PySem.W PyProof.Rows
noncomputable def tgt5:List PySem.Expr:=[.Name "door" ⟨217,4,217,8⟩,.Name "line" ⟨217,10,217,14⟩]
noncomputable def val5:PySem.Expr:=.Tuple [.Call (.Name "_law_lexer" ⟨217,18,217,28⟩) [.Name "text" ⟨217,29,217,33⟩] [] ⟨217,18,217,34⟩,.Call (.Name "_law_lexer" ⟨217,36,217,46⟩) [.Constant (.str "\tz") 0 ⟨217,47,217,52⟩] [] ⟨217,36,217,53⟩] 0 ⟨217,17,217,54⟩
noncomputable def C3i:PySem.Stmt:=.Assign [.Tuple tgt5 0 ⟨217,4,217,14⟩] val5 ⟨217,4,217,54⟩
theorem C4C (P:Params):(lawB P).drop 5=C3i::(lawB P).drop 6:=by kernel_rfl
theorem B0A (zs:List Int):∀c∈txOf zs,c < 36000:=by
 have hs:∀c∈nmOf zs,c < 36000:=fun c hc=>by
  have hm:c∈sgn (NN zs):=by
   unfold nmOf nmL at hc
   rcases List.mem_append.mp hc with h | h
   ·
    exact List.mem_of_mem_take (List.mem_of_mem_drop h)
   ·
    exact List.mem_of_mem_take (List.mem_of_mem_take h)
  obtain ⟨i,hi⟩:=List.mem_iff_getElem?.mp hm
  have:=A3G (NN zs) i
  rw [List.getD_eq_getElem?_getD,hi] at this
  exact this
 have key:∀(n:Nat) (l:List Nat) (i:Nat),(∀c∈l,c < 36000)→∀c∈A3E n i l,c < 36000:=by
  intro n l
  induction l with
  | nil=>intro i _ c hc; cases hc
  | cons x l ih=>
   intro i h c hc
   rcases List.mem_append.mp hc with hc | hc
   ·
    exact A6q _ _ _ (h x (.head _)) c hc
   ·
    exact ih (i + 1) (fun y hy=>h y (.tail _ hy)) c hc
 intro c hc
 unfold txOf at hc
 rcases List.mem_append.mp hc with hc | hc
 ·
  exact key _ _ _ hs c hc
 ·
  simp [A5x] at hc; omega
theorem B8B (zs:List Int) (ρ:Nat→List Nat):A0b ρ (txOf zs)=⟨(txOf zs).toArray⟩:=by
 unfold A0b
 rw [A2H ρ fun c hc=>by have:=B0A zs c hc; have:symB=2097152:=rfl; lia]
section
variable {w:World} {s₀ s:Shared} {mg mb:Str→Option Value} {l:Addr} {ol:Obj} {A:Around} {φ:Nat→Addr} {L:Addr}
theorem A9x (P:Params):(KK P).lookup 100=none:=by kernel_rfl
theorem C3j {P:Params} {h h':Heap} (X:(KK P).In h) (hk:∀b o,b≠100→h.get? b=some o→h'.get? b=some o):(KK P).In h':=fun a o e=>hk a o (fun e2=>by rw [e2,A9x] at e; cases e) (X a o e)
structure Two (P:Params) (zs:List Int) (s s1 s2 t:Shared) (tu:Addr) (D1 D2:A2L):Prop where
 M1:A2e P s.heap s1.heap (txOf zs) D1
 M2:A2e P s1.heap s2.heap [9,122] D2
 k1:∀b o,b≠100→s.heap.get? b=some o→s1.heap.get? b=some o
 k2:∀b o,b≠100→s1.heap.get? b=some o→s2.heap.get? b=some o
 k3:∀b o,s2.heap.get? b=some o→t.heap.get? b=some o
 gens:A1U s t
 drawn:t.drawn=s.drawn
 os:t.os=s.os
 tup:t.heap.IsTuple tu #[.ref D1.x,.ref D2.x]
noncomputable def C00 (w:World) (s₀:Shared) (mg mb:Str→Option Value) (zs:List Int) (l:Addr):Cx:={ Cn w s₀ mg mb zs l with h₀:=hideAll s₀.heap [l,100],LX:=fun _ _ _ _ _=>False }
theorem C3k {h:Heap} {a:Addr} {m:Str→Option Value} (hn:h.Ns a m) (t:h.get? 100=some (tabObj #[])):a≠100:=fun e=>by
 refine e3a3 hn fun o es ep h1 h2 _=>?_
 rw [Option.some.inj ((e▸h1:h.get? 100=some o).symm.trans t)] at h2
 exact nomatch h2
theorem A6Y {h:Heap} {a l:Addr} {m:Str→Option Value} {ol:Obj} (hn:h.Ns a m) (hl:h.get? l=some ol) (hc:A3H ol) (t:h.get? 100=some (tabObj #[])):(hideAll h [l,100]).Ns a m:=by
 refine e3a3 hn fun o es ep ho hd r=>?_
 refine ⟨o,es,ep,hideAll_get [l,100] ho (fun hm=>?_),hd,r⟩
 rcases List.mem_cons.mp hm with e | hm
 ·
  rw [e,hl] at ho
  obtain ⟨_,vs,k,hc⟩:=hc
  rw [←Option.some.inj ho,hc] at hd
  exact nomatch hd
 ·
  exact C3k ⟨o,es,ep,ho,hd,r⟩ t (List.mem_singleton.mp hm)
theorem B4o {h:Heap} {l:Addr} {ol:Obj} {P:Params} (X:(KK P).In h) (hl:h.get? l=some ol) (hc:A3H ol):(KK P).In (hideAll h [l,100]):=fun a o e=>by
 have h1:=A6r X hl hc a o e
 refine hideAll_get [l,100] (of_hideAll _ h1) fun hm=>?_
 rcases List.mem_cons.mp hm with z | hm
 ·
  exact A0a ((hideAll_none (h:=h) [l] (z▸.head _)).symm.trans h1)
 ·
  exact A0a ((A9x P).symm.trans (List.mem_singleton.mp hm▸e))
theorem ok00 (zs:List Int) (S:A1d w s₀ mg mb) (hl:s₀.heap.get? l=some ol) (hc:A3H ol):OkC (C00 w s₀ mg mb zs l):=
 B4j (C:=C00 w s₀ mg mb zs l) (sz:=szOf zs) (N:=NN zs) (s:=s₀) S (A6Y S.g hl hc S.tab) (A6Y S.b hl hc S.tab) (let ⟨mc,h1,h2⟩:=S.nolimit; ⟨mc,A6Y h1 hl hc S.tab,h2⟩) rfl (fun _ _ _ _ _ _ _ _ x=>x.elim) fun φ n h i xs x=>x.elim
theorem C4D (zs:List Int) (S:A1d w s₀ mg mb) (hl:s₀.heap.get? l=some ol) (hc:A3H ol):A0X (C00 w s₀ mg mb zs l):=
 A6X (C:=C00 w s₀ mg mb zs l) (s:=s₀) S (B4o S.K hl hc) (fun f _=>rfl) (by kernel_rfl) (by kernel_rfl) rfl
theorem C4E (zs:List Int) (S:A1d w s₀ mg mb) (hl:s₀.heap.get? l=some ol) (hc:A3H ol) (hR:Room A 100) {E:Value→Shared→Prop} {Q:Flow→Shared→Prop} (I:Inv (Cn w s₀ mg mb zs l) (A0z w.params L) φ [] (stL5 zs) s)
  (q:∀φ1 s1 s2 s3 t tu D1 D2 E,Ext φ φ1 1→Inv (Cn w s₀ mg mb zs l) (A0z w.params L) φ1 [] (stL5 zs) s1→Two w.params zs s1 s2 s3 t tu D1 D2→wpAny (MM (Cn w s₀ mg mb zs l)) A (PySem.assign (.Tuple tgt5 0 ⟨217,4,217,14⟩) (A0z w.params L).env (.ref tu)) (fun _ s'=>Q .next s') E t):
  wpAny (MM (Cn w s₀ mg mb zs l)) A (exec C3i (A0z w.params L).env) Q E s:=by
 have O:=ok1 (sz:=szOf zs) (N:=NN zs) S hl hc
 have X1:(KH w.params).In (Cn w s₀ mg mb zs l).h₀:=A6r S.K hl hc
 have B1:=big (hyp1 (sz:=szOf zs) (N:=NN zs) S hl hc) rfl 20
 have htr:TrE 60 (A0z w.params L).cx (.tup [.call 99 [.loc 3],.call 99 [.lit (.str [9,122])]]) val5:=A9I (by kernel_rfl) (by kernel_rfl)
 have htt:All2 (TrT 20 (A0z w.params L).cx) [.cel 2,.cel 3] tgt5:=B3i (by kernel_rfl) (by kernel_rfl)
 have hsw:A3O (A0z w.params L).cx tgt5 val5=some none:=by kernel_rfl
 have ne100:(100:Addr)≠l:=fun e=>by
  have:=S.tab
  rw [e,hl] at this
  cases this
  obtain ⟨_,_,_,h⟩:=hc
  cases h
 obtain ⟨sl,m4⟩:=S.mod4
 have ne4:(4:Addr)≠l:=fun e=>by
  rw [e,hl] at m4
  cases m4
  obtain ⟨_,_,_,h⟩:=hc
  cases h
 refine Assign_Tuple ?_ (A4a htr) (A3Z I.env htt htr hsw)
 refine wpAny_Tuple (wpAny_items_cons ?_)
 refine Call_ ?_
 have hes:run FT1 20 (.es [.loc 3]) (stL5 zs)=some (.vs [.str (txOf zs)],stL5 zs):=by kernel_rfl
 have htr1:TrL (TrE 60 (A0z w.params L).cx) [.loc 3] [.Name "text" ⟨217,29,217,33⟩]:=A6f (by kernel_rfl) (by kernel_rfl)
 rw [A0W htr1]
 refine A1T I O (rv:=.ref 105) (by kernel_rfl) (by show mg _=_; rw [S.mgAt]; kernel_rfl) ?_
 refine A7y (A2N X1 (by kernel_rfl)) (B1.es (X:=[]) hes (hR.le rfl) htr1) I fun φ1 s1 rvs e1 I1 v1=>?_
 cases v1 with
 | cons v1 v2=>
 cases v2
 cases v1 with
 | str _ tk hlen=>
 rw [B8B]
 have keep1:∀b o,b≠l→s₀.heap.get? b=some o→s1.heap.get? b=some o:=fun b o hb e=>I1.keep b o (hideAll_get [l] e (by simpa using hb))
 have tab1:s1.heap.get? 100=some (tabObj #[]):=keep1 100 _ ne100 S.tab
 have O0:=ok00 zs S hl hc
 have F0:=C4D zs S hl hc
 have K0:(KH w.params).In (C00 w s₀ mg mb zs l).h₀:=B4o S.K hl hc
 have z100:(C00 w s₀ mg mb zs l).h₀.get? 100=none:=hideAll_none _ (.tail _ (.head _))
 have B0:(C00 w s₀ mg mb zs l).h₀.BuiltinsAt mg 100:=⟨4,_,by rw [S.mgAt]; kernel_rfl,by decide,by decide,by decide,hideAll_get [l,100] m4 (fun m=>by
  rcases List.mem_cons.mp m with e | m
  ·
   exact ne4 e
  ·
   exact absurd (List.mem_singleton.mp m) (by decide)),rfl,rfl,rfl⟩
 have hcl:mg "_netrclex" = some (.ref 52):=by rw [S.mgAt]; kernel_rfl
 have k1:∀b o,(C00 w s₀ mg mb zs l).h₀.get? b=some o→s1.heap.get? b=some o:=fun b o e=>keep1 b o (fun z=>A0a ((hideAll_none (h:=s₀.heap) [l,100] (z▸.head _)).symm.trans e)) (of_hideAll _ e)
 have n0:∀b o,(C00 w s₀ mg mb zs l).h₀.get? b=some o→b≠100:=fun b o e z=>A0a (z100.symm.trans (z▸e))
 have txs:∀c∈txOf zs,c < symB:=fun c hc=>by have:=B0A zs c hc; have:symB=2097152:=rfl; lia
 refine A8j (C:=C00 w s₀ mg mb zs l) O0 F0 K0 z100 B0 hcl k1 (o:=none) tab1 (fun p e=>nomatch e) txs hlen hR fun D s2 M1 M1k g1 d1 o1=>?_
 have X2:(KK w.params).In s2.heap:=C3j (X1.keeps I1.keep) M1k
 refine wpAny_items_cons ?_
 refine Call_ ?_
 have htr2:TrL (TrE 60 (A0z w.params L).cx) [.lit (.str [9,122])] [.Constant (.str "\tz") 0 ⟨217,47,217,52⟩]:=A6f (by kernel_rfl) (by kernel_rfl)
 rw [A0W htr2]
 have hmgx:mg "_law_lexer" = some (.ref 105):=by rw [S.mgAt]; kernel_rfl
 have k2:∀b o,(C00 w s₀ mg mb zs l).h₀.get? b=some o→s2.heap.get? b=some o:=fun b o e=>M1k b o (n0 b o e) (k1 b o e)
 have hns:s2.heap.Ns mainGlobals mg:=O0.H.g.keeps k2
 refine Calls.Name_function_global I1.env.kind (I1.env.glob "_law_lexer" (by kernel_rfl)) (Calls.loadGlobal_global (mg:=mg) (by rw [I1.env.globals]; exact hns) hmgx ?_) (by decide)
 refine e2a2 (A2N (a:=105) X2 (by kernel_rfl)) fun o5 fd5 ho5 hd5=>?_
 refine Calls.callWith_function (A0y (Calls.spliced_cons (wpAny_Constant_str (Calls.spliced_nil ⟨⟨ho5,hd5⟩,?_⟩))))
 refine A8j (C:=C00 w s₀ mg mb zs l) (s:={ s2 with toks:=s2.toks + 1 }) O0 F0 K0 z100 B0 hcl k2 (o:=some (D.cc,D.c2)) M1.tab (fun p e=>(Option.some.inj e)▸M1.ca) (l:=[9,122]) (fun c hc=>A2P (p:=fun c=>Nat.blt c symB) rfl c hc |> Nat.blt_eq.mp) (Nat.le_of_ble_eq_true rfl) hR fun D2 s3 M2 M2k g2 d2 o2=>?_
 refine wpAny_items_nil ⟨A7N,?_⟩
 exact q φ1 s1 s2 s3 _ _ D D2 _ (e1.le (by show 1≤18 + szOf zs; lia)) I1 ⟨M1,M2,M1k,M2k,fun b o e=>Heap.get?_push_of_some _ e,g1.trans g2,d2.trans d1,o2.trans o1,⟨_,Heap.get?_push_size _ rfl,rfl,_,rfl⟩⟩
end
end Mine
end
section
namespace Mine
open PySem PySem.W PyProof.Rows
noncomputable def A1w (zs:List Int):Nat:=NN zs 5 / 26 % szOf zs
noncomputable def nmS (zs:List Int):List Nat:=A3P (szOf zs) (A1w zs)
noncomputable def A2w (N:Nat→Nat) (n:Nat):Nat:=(sgn N).getD (n - symB) 0
theorem A9y (zs:List Int):A1w zs < szOf zs:=Nat.mod_lt _ (by rcases sz34 zs with h | h <;> lia)
theorem A6Z (zs:List Int):nmOf zs=(nmS zs).map (A2w (NN zs)):=by
 have ht:=A9y zs
 unfold nmOf nmL nmS
 rw [show NN zs 5 / 26 % szOf zs=A1w zs from rfl]
 generalize A1w zs=T at *
 rcases sz34 zs with e | e
 ·
  rw [e] at ht ⊢
  match T,ht with
  | 0,_=>kernel_rfl
  | 1,_=>kernel_rfl
  | 2,_=>kernel_rfl
 ·
  rw [e] at ht ⊢
  match T,ht with
  | 0,_=>kernel_rfl
  | 1,_=>kernel_rfl
  | 2,_=>kernel_rfl
  | 3,_=>kernel_rfl
theorem A2x (zs:List Int):∀n∈nmS zs,symB≤n∧n < symB + 4:=by
 intro n hn
 have h:n∈[symB,symB + 1,symB + 2,symB + 3]:=by
  unfold nmS A3P at hn
  rcases List.mem_append.mp hn with h | h
  ·
   exact List.mem_of_mem_take (List.mem_of_mem_drop h)
  ·
   exact List.mem_of_mem_take (List.mem_of_mem_take h)
 simp only [List.mem_cons,List.not_mem_nil,or_false] at h
 lia
theorem A7a {sz:Nat} {N:Nat→Nat} {n:Nat} (h1:symB≤n) (h2:n < symB + 4):sv (rho sz N) [n]=[A2w N n]:=by
 show (if n < symB then [n] else rho sz N (n - symB)) ++ []=_
 rw [if_neg (by lia),A3a sz N _ (by lia)]
 rfl
noncomputable def B8C (n:Nat):Nat→List Nat→List Nat→List Nat
 | _,[],tl=>tl
 | i,c::l,tl=>form (n / 3 ^ i % 3) i c ++ B8C n (i + 1) l tl
theorem A8p (n:Nat) (tl:List Nat):∀(l:List Nat) (i:Nat),A3E n i l ++ tl=B8C n i l tl
 | [],i=>rfl
 | c::l,i=>by
  show (form (n / 3 ^ i % 3) i c ++ A3E n (i + 1) l) ++ tl=_
  rw [List.append_assoc,A8p n tl l (i + 1)]
  rfl
theorem B4p (zs:List Int):sv (rho (szOf zs) (NN zs)) (A3h (nmS zs))=txOf zs:=by
 have ht:=A9y zs
 have hT:NN zs 5 / 26 % szOf zs=A1w zs:=rfl
 have key:∀i,rho (szOf zs) (NN zs) i=(if i < 4 then [(sgn (NN zs)).getD i 0] else if i < 8 then form (NN zs 6 / 6000 / 3 ^ ((i - 4 + szOf zs - A1w zs) % szOf zs) % 3) ((i - 4 + szOf zs - A1w zs) % szOf zs) ((sgn (NN zs)).getD (i - 4) 0)
   else A0r (A1h (usAt (2 * szOf zs) (NN zs) ((i - 8) / 2)) (Nat.beq (i % 2) 1))):=fun i=>rfl
 have hsv:sv (rho (szOf zs) (NN zs)) (A3h (nmS zs))=(A3h (nmS zs)).flatMap fun c=>if c < symB then [c] else (if c - symB < 4 then [(sgn (NN zs)).getD (c - symB) 0] else if c - symB < 8 then form (NN zs 6 / 6000 / 3 ^ ((c - symB - 4 + szOf zs - A1w zs) % szOf zs) % 3) ((c - symB - 4 + szOf zs - A1w zs) % szOf zs) ((sgn (NN zs)).getD (c - symB - 4) 0)
   else A0r (A1h (usAt (2 * szOf zs) (NN zs) ((c - symB - 8) / 2)) (Nat.beq ((c - symB) % 2) 1))):=rfl
 rw [hsv]
 unfold txOf
 rw [A6Z,A8p]
 unfold nmS
 generalize NN zs 6 / 6000=M at *
 generalize A1w zs=T at *
 clear hsv key hT
 generalize NN zs=N at *
 rcases sz34 zs with e | e
 ·
  rw [e] at ht ⊢
  match T,ht with
  | 0,_=>kernel_rfl
  | 1,_=>kernel_rfl
  | 2,_=>kernel_rfl
 ·
  rw [e] at ht ⊢
  match T,ht with
  | 0,_=>kernel_rfl
  | 1,_=>kernel_rfl
  | 2,_=>kernel_rfl
  | 3,_=>kernel_rfl
theorem C0C (sz:Nat) (N:Nat→Nat) (n:Nat) (h1:symB≤n) (h2:n < symB + 4) (k j:Nat) (hk:k < 4) (hj:j < 3):∃f∈A3z,sv (rho sz N) f.text=form j k (A2w N n)∧sv (rho sz N) f.tok=[A2w N n]∧f.more=true:=by
 obtain ⟨i,rfl⟩:∃i,n=symB + i:=⟨n - symB,by lia⟩
 have hi:i < 4:=by lia
 have hc:(if symB + i < symB then [symB + i] else rho sz N (symB + i - symB))=[A2w N (symB + i)]:=by
  have:=A7a (sz:=sz) (N:=N) h1 h2
  unfold sv at this
  simpa using this
 have sub:∀f∈A1v i,f∈A3z:=fun f hf=>by
  unfold A3z
  match i,hi with
  | 0,_=>simp only [List.mem_append]; exact .inl (.inl (.inl (.inl hf)))
  | 1,_=>simp only [List.mem_append]; exact .inl (.inl (.inl (.inr hf)))
  | 2,_=>simp only [List.mem_append]; exact .inl (.inl (.inr hf))
  | 3,_=>simp only [List.mem_append]; exact .inl (.inr hf)
 have tok:sv (rho sz N) [symB + i]=[A2w N (symB + i)]:=A7a h1 h2
 have t0:sv (rho sz N) [34,symB + i,34]=[34,A2w N (symB + i),34]:=by
  show [34] ++ ((if symB + i < symB then [symB + i] else rho sz N (symB + i - symB)) ++ ([34] ++ []))=_
  rw [hc]; rfl
 have t1:∀x,x < symB→sv (rho sz N) [92,symB + i,x]=[92,A2w N (symB + i),x]:=fun x hx=>by
  show [92] ++ ((if symB + i < symB then [symB + i] else rho sz N (symB + i - symB)) ++ ((if x < symB then [x] else rho sz N (x - symB)) ++ []))=_
  rw [hc,if_pos hx]; rfl
 have t2:sv (rho sz N) [symB + i,10]=[A2w N (symB + i),10]:=by
  show (if symB + i < symB then [symB + i] else rho sz N (symB + i - symB)) ++ ([10] ++ [])=_
  rw [hc]; rfl
 have hb:symB=2097152:=rfl
 match j,hj with
 | 0,_=>exact ⟨⟨[34,symB + i,34],[symB + i],true⟩,sub _ (.head _),t0,tok,rfl⟩
 | 2,_=>exact ⟨⟨[symB + i,10],[symB + i],true⟩,sub _ (by simp [A1v]),t2,tok,rfl⟩
 | 1,_=>
  match k,hk with
  | 0,_=>exact ⟨⟨[92,symB + i,32],[symB + i],true⟩,sub _ (.tail _ (.head _)),t1 32 (by lia),tok,rfl⟩
  | 1,_=>exact ⟨⟨[92,symB + i,9],[symB + i],true⟩,sub _ (.tail _ (.tail _ (.head _))),t1 9 (by lia),tok,rfl⟩
  | 2,_=>exact ⟨⟨[92,symB + i,10],[symB + i],true⟩,sub _ (.tail _ (.tail _ (.tail _ (.head _)))),t1 10 (by lia),tok,rfl⟩
  | 3,_=>exact ⟨⟨[92,symB + i,13],[symB + i],true⟩,sub _ (.tail _ (.tail _ (.tail _ (.tail _ (.head _))))),t1 13 (by lia),tok,rfl⟩
theorem B6P (ρ:Nat→List Nat):A2h ρ A5x [[122,32,34,122],[34,92,32]]:=by
 have m1:(⟨[122,92,32,34,122,10],[122,32,34,122],true⟩:Form)∈A3z:=by simp [A3z]
 have m2:(⟨[34,92,34,92,92,32,34],[34,92,32],false⟩:Form)∈A3z:=by simp [A3z]
 have h2:=A2h.step (ρ:=ρ) _ [] [] m2 (fun h=>nomatch h) (fun _=>rfl) .nil
 have h1:=A2h.step (ρ:=ρ) _ _ _ m1 (fun _=>⟨by show ([34,92,34,92,92,32,34]:List Nat)≠[]; simp,by show ([34,92,34,92,92,32,34]:List Nat).length≤32; simp⟩) (fun h=>nomatch h) h2
 exact h1
theorem B0B (sz:Nat) (N:Nat→Nat) (m:Nat):∀(l:List Nat) (i:Nat),i + l.length≤4→(∀n∈l,symB≤n∧n < symB + 4)→
  A2h (rho sz N) (A3E m i (l.map (A2w N)) ++ A5x) ((l.map fun n=>[A2w N n]) ++ [[122,32,34,122],[34,92,32]])
 | [],i,_,_=>B6P _
 | n::l,i,hi,h=>by
  simp only [List.length_cons] at hi
  refine e1a4 (C0C sz N n (h n (.head _)).1 (h n (.head _)).2 i (m / 3 ^ i % 3) (by lia) (Nat.mod_lt _ (by decide))) fun f hf h1 h2 h3=>?_
  have ih:=B0B sz N m l (i + 1) (by lia) fun x hx=>h x (.tail _ hx)
  have hlen:=A8m m (l.map (A2w N)) (i + 1)
  rw [List.length_map] at hlen
  have ht:A5x.length=13:=rfl
  have st:=A2h.step (ρ:=rho sz N) f _ _ hf (fun _=>⟨by intro e; have:=congrArg List.length e; rw [List.length_append,ht] at this; simp at this,by rw [List.length_append,ht]; lia⟩) (fun h=>by rw [h3] at h; cases h) ih
  rw [h1,h2] at st
  simpa [A3E,List.append_assoc] using st
end Mine
end
section
namespace Mine
open PySem PySem.W PyProof.Rows
noncomputable def fv2:Nat→Addr
 | 9=>42
 | 10=>49
 | f=>fv1 f
noncomputable def C2 (w:World) (u:Shared) (mg mb:Str→Option Value) (ρ:Nat→List Nat) (W:List Addr):Cx where
 prog:=PySem.Challenge.rw_uc0018_01.row.prog
 w:=w
 h₀:=hideAll u.heap W
 ρ:=ρ
 gens:=u.gens
 drawn:=u.drawn
 os:=u.os
 mg:=mg
 mb:=mb
 LX:=LXof w.params (hideAll u.heap W) ρ
 fv:=fv2
 fread:=35
theorem C0D {h h':Heap} {c:Addr} {v:Value} {q:Str} (R:h.CodeRec v q) (e:v=.ref c) (k:∀o,h.get? c=some o→h'.get? c=some o):h'.CodeRec v q:=by
 refine e4a3 R fun c' oc vs tq e1 e2 e3=>?_
 have e0:=Value.ref.inj (e1.symm.trans e)
 subst e0
 exact ⟨c',oc,vs,tq,e1,k _ e2,e3⟩
theorem A2e.rawTo {P:Params} {h h' H U:Heap} {T:List Nat} {D:A2L} (M:A2e P h h' T D) (k:∀a∈D.cc::D.F,∀o,h'.get? a=some o→H.get? a=some o) (ku:∀a∈D.B,∀o,h'.get? a=some o→U.get? a=some o):A2W P H U T 1 D.toLexD:=
 { M.raw.keep fun b hb=>ku b (.tail _ hb) with hst:=k _ (.tail _ (.head _)) _ M.raw.hst,hsd:=k _ (.tail _ (.tail _ (.head _))) _ M.raw.hsd,hrd:=k _ (.tail _ (.tail _ (.tail _ (.head _)))) _ M.raw.hrd,rf:={ M.raw.rf with code:=C0D M.raw.rf.code M.cd (k _ (.head _)) } }
theorem A5s {h h':Heap} {b:Addr} (k:∀o,h.get? b=some o→h'.get? b=some o) (e:h'.get? b=none):h.get? b=none:=by
 cases q:h.get? b with
 | none=>rfl
 | some o=>exact A0a (e.symm.trans (k o q))
noncomputable def stB (zs:List Int):St:={ stA (szOf zs) (A1w zs) (A0G zs) with cel:=[.ref 1,.ref 2] ++ List.replicate 8 .unb }
theorem B4q {ρ:Nat→List Nat} {φ φ':Nat→Addr} {n n':Nat} {α:Type} {f g:α→V} {l:List α} {vs:List Value} (x:VRs ρ φ n (l.map f) vs) (h:∀a∈l,∀v,VR ρ φ n (f a) v→VR ρ φ' n' (g a) v):VRs ρ φ' n' (l.map g) vs:=by
 induction l generalizing vs with
 | nil=>exact B4M x .nil
 | cons a l ih=>exact C1z x fun _ _ h1 h2=>.cons (h a (.head _) _ h1) (ih h2 fun b hb=>h b (.tail _ hb))
theorem A1F {ρ:Nat→List Nat} {φ φ':Nat→Addr} {n n':Nat} {l:List V} {vs:List Value} (h:∀v∈l,∃i,v=.int i) (x:VRs ρ φ n l vs):VRs ρ φ' n' l vs:=by
 induction x with
 | nil=>exact .nil
 | cons a _ ih=>
  obtain ⟨i,rfl⟩:=h _ (.head _)
  obtain ⟨t,rfl⟩:=B1Z a
  exact .cons (.int _ _) (ih fun w hw=>h w (.tail _ hw))
theorem A4F (l:List Int):∀v∈l.map V.int,∃i,v=.int i:=fun v hv=>let ⟨i,_,e⟩:=List.mem_map.mp hv; ⟨i,e.symm⟩
theorem A1Z (N:Nat→Nat):∀v∈nuL N,∃i,v=.int i:=A4F [N 0,N 1,N 2,N 3,N 4,N 5,N 6,N 7]
inductive Mv (R:V→V→Prop):List V→List V→Prop
 | nil:Mv R [] []
 | unb {v l l'}:Mv R l l'→Mv R (v::l) (.unb::l')
 | val {v v' l l'}:v≠.unb→R v v'→Mv R l l'→Mv R (v::l) (v'::l')
theorem Mv.rep (R:V→V→Prop):∀n,Mv R (List.replicate n .unb) (List.replicate n .unb)
 | 0=>.nil
 | n + 1=>.unb (Mv.rep R n)
theorem Mv.at_ {R:V→V→Prop} {l l':List V} (m:Mv R l l'):∀{k:Nat} {v':V},nth l' k=some v'→v'≠.unb→∃v,nth l k=some v∧v≠.unb∧R v v':=by
 induction m with
 | nil=>intro k v' h; exact A0a h
 | unb _ ih=>
  intro k v' h hne
  cases k with
  | zero=>exact absurd (Option.some.inj h).symm hne
  | succ k=>exact ih h hne
 | val h1 h2 _ ih=>
  intro k v' h hne
  cases k with
  | zero=>exact ⟨_,rfl,h1,Option.some.inj h▸h2⟩
  | succ k=>exact ih h hne
noncomputable def Lo (h:Heap) (a:Addr):Prop:=∃o,h.get? a=some o∧Nat.ble (kd o) 3=true
theorem Lo.n100 {h:Heap} {a:Addr} {t:Array Value} (x:Lo h a) (e:h.get? 100=some (tabObj t)):a≠100:=fun z=>by
 refine e1a2 x fun o h1 h2=>?_
 rw [Option.some.inj ((z▸h1:h.get? 100=some o).symm.trans e)] at h2
 exact noft h2
theorem Lo.up {h h':Heap} {a:Addr} {t:Array Value} (x:Lo h a) (e:h.get? 100=some (tabObj t)) (k:∀b o,b≠100→h.get? b=some o→h'.get? b=some o):Lo h' a:=x.imp fun o z=>⟨k a o (x.n100 e) z.1,z.2⟩
theorem A2d.off {h:Heap} {a:Addr} (x:Lo h a) (c:A2d h a):False:=by
 refine e1a2 x fun o h1 h2=>?_
 refine e1a2 c fun co k1 k2=>?_
 rw [Option.some.inj (k1.symm.trans h1)] at k2
 refine e2a2 k2 fun _ _ e _=>?_
 unfold kd at h2
 rw [e] at h2
 exact noft h2
theorem A2e.lo {P:Params} {h h':Heap} {T:List Nat} {D:A2L} (M:A2e P h h' T D):∀b∈D.B,Lo h' b:=let ⟨_,c1,c2⟩:=M.raw.hce; ac ⟨_,M.hpl,rfl⟩ (ac ⟨_,M.raw.hx,rfl⟩ (ac ⟨_,M.raw.hd,rfl⟩ (ac ⟨_,M.raw.hli,rfl⟩ (ac ⟨_,c1,by unfold kd; rw [c2]; rfl⟩ an))))
theorem nd3 {a b c:Addr} (h1:a≠b) (h2:a≠c) (h3:b≠c):[a,b,c].Nodup:=by simp [h1,h2,h3]
structure G2 where
 (w:World) (s₀ s s1 s2 u:Shared) (mg mb:Str→Option Value) (zs:List Int) (l:Addr) (ol:Obj) (φ:Nat→Addr) (L:Addr) (D1 D2:A2L)
 S:A1d w s₀ mg mb
 hl:s₀.heap.get? l=some ol
 hc:A3H ol
 I:Inv (Cn w s₀ mg mb zs l) (A0z w.params L) φ [] (stL5 zs) s
 M1:A2e w.params s.heap s1.heap (txOf zs) D1
 M2:A2e w.params s1.heap s2.heap [9,122] D2
 k1:∀b o,b≠100→s.heap.get? b=some o→s1.heap.get? b=some o
 k2:∀b o,b≠100→s1.heap.get? b=some o→s2.heap.get? b=some o
 k3:∀b o,s2.heap.get? b=some o→u.heap.get? b=some o
noncomputable abbrev G2.C (G:G2):Cx:=Cn G.w G.s₀ G.mg G.mb G.zs G.l
noncomputable def G2.FL (G:G2):List Addr:=(A0z G.w.params G.L).env.locals::(A0z G.w.params G.L).cad
noncomputable def G2.T (G:G2):List Addr:=[G.φ 2,G.φ 11,G.φ 17] ++ (G.D1.B ++ G.D2.B)
noncomputable def G2.W (G:G2):List Addr:=G.FL ++ G.T
noncomputable def G2.f (G:G2):Nat→Addr:=ad13 G.T
noncomputable def G2.ρ (G:G2):Nat→List Nat:=rho (szOf G.zs) (NN G.zs)
section
variable (G:G2) {b:Addr} {o:Obj}
theorem G2.l100:(100:Addr)≠G.l:=fun e=>by
 obtain ⟨_,_,_,h⟩:=G.hc
 rw [←Option.some.inj ((e▸G.S.tab:G.s₀.heap.get? G.l=_).symm.trans G.hl)] at h
 exact nomatch h
theorem G2.h100:G.C.h₀.get? 100=some (tabObj #[]):=hideAll_get [G.l] G.S.tab fun m=>G.l100 (List.mem_singleton.mp m)
theorem G2.s100:G.s.heap.get? 100=some (tabObj #[]):=G.I.keep _ _ G.h100
theorem G2.obj0:∃ob,G.s.heap.get? (G.φ 0)=some ob∧G.s₀.heap.get? (G.φ 0)=some ob:=
 let x:LX1 G.s₀ G.ρ G.φ (stL5 G.zs).nx G.s.heap 0 (.frz (G.zs.map .int)):=G.I.hp (0,.frz (G.zs.map .int)) (.tail _ (.tail _ (.tail _ (.head _))))
 let ⟨_,ob,z1,z2,_⟩:=x
 ⟨ob,z1,z2⟩
theorem G2.m0:0∈A0c (stL5 G.zs).hp:=.tail _ (.tail _ (.tail _ (.head _)))
theorem G2.m2:2∈A0c (stL5 G.zs).hp:=.tail _ (.tail _ (.head _))
theorem G2.m11:11∈A0c (stL5 G.zs).hp:=.tail _ (.head _)
theorem G2.m17:17∈A0c (stL5 G.zs).hp:=.head _
theorem G2.phi0:G.φ 0=G.l:=Classical.byContradiction fun e=>by
 refine e1a2 G.obj0 fun ob _ z=>?_
 exact A0a ((G.I.live 0 G.m0).1.symm.trans (hideAll_get [G.l] z fun m=>e (List.mem_singleton.mp m)))
theorem G2.k0 (e:G.s₀.heap.get? b=some o):G.s.heap.get? b=some o:=by
 by_cases h:b=G.l
 ·
  refine e1a2 G.obj0 fun ob z1 z2=>?_
  rw [h,←G.phi0] at e ⊢
  exact z1.trans (z2.symm.trans e)
 ·
  exact G.I.keep b o (hideAll_get [G.l] e fun m=>h (List.mem_singleton.mp m))
theorem G2.up (n:b≠100) (e:G.s.heap.get? b=some o):G.u.heap.get? b=some o:=G.k3 _ _ (G.k2 _ _ n (G.k1 _ _ n e))
theorem G2.keep (n:b≠100) (e:G.s₀.heap.get? b=some o):G.u.heap.get? b=some o:=G.up n (G.k0 e)
theorem G2.fr0 (e:G.s.heap.get? b=none):G.s₀.heap.get? b=none:=A5s (fun _=>G.k0) e
theorem G2.fr1 (e:G.s1.heap.get? b=none):G.s.heap.get? b=none:=A5s (fun o=>G.k1 _ o fun z=>A0a ((z▸e).symm.trans G.M1.tab)) e
theorem G2.frC (e:G.C.h₀.get? b=none) (n:b≠G.l):G.s₀.heap.get? b=none:=A5s (fun o q=>hideAll_get [G.l] q fun m=>n (List.mem_singleton.mp m)) e
theorem G2.n100 (e:G.C.h₀.get? b=none):b≠100:=fun z=>A0a ((z▸e).symm.trans G.h100)
theorem G2.ls:∃vs k,G.s.heap.get? (G.φ 2)=some (A0k vs k)∧VRs G.ρ G.φ (stL5 G.zs).nx (nuL (NN G.zs)) vs∧(nuL (NN G.zs)).length≤5000:=G.I.hp (2,.list (nuL (NN G.zs))) (.tail _ (.tail _ (.head _)))
theorem G2.lr:∃vs k,G.s.heap.get? (G.φ 11)=some (A0k vs k)∧VRs G.ρ G.φ (stL5 G.zs).nx ((A0G G.zs).map .int) vs∧((A0G G.zs).map V.int).length≤5000:=G.I.hp (11,.list ((A0G G.zs).map .int)) (.tail _ (.head _))
theorem G2.ln:∃vs k,G.s.heap.get? (G.φ 17)=some (A0k vs k)∧VRs G.ρ G.φ (stL5 G.zs).nx ((nmOf G.zs).map fun c=>.str [c]) vs∧((nmOf G.zs).map fun c=>V.str [c]).length≤5000:=G.I.hp (17,.list ((nmOf G.zs).map fun c=>.str [c])) (.head _)
theorem A4i {h:Heap} {p:List Value→Nat→Prop} (x:∃vs k,h.get? b=some (A0k vs k)∧p vs k):Lo h b:=let ⟨vs,k,e,_⟩:=x; ⟨_,e,rfl⟩
theorem G2.offA {i:Nat} (m:i∈A0c (stL5 G.zs).hp) (n:i≠0):G.s₀.heap.get? (G.φ i)=none:=G.frC (G.I.live i m).1 fun e=>n (G.I.inj i m 0 G.m0 (e.trans G.phi0.symm))
theorem G2.offF (m:b∈G.FL):G.C.h₀.get? b=none∧∀i∈A0c (stL5 G.zs).hp,G.φ i≠b:=G.I.off b (List.mem_append_left _ m)
theorem G2.loF (m:b∈G.FL):Lo G.s.heap b:=by
 rcases List.mem_cons.mp m with rfl | m
 ·
  obtain ⟨m,⟨ob,es,ep,e1,e2,_⟩,_⟩:=G.I.loc
  exact ⟨ob,e1,by unfold kd; rw [e2]; rfl⟩
 ·
  obtain ⟨k,hk⟩:=List.mem_iff_getElem?.mp m
  refine e2a3 (G.I.cel k b hk) fun o cv e1 e2 _=>?_
  exact ⟨o,e1,by unfold kd; rw [e2]; rfl⟩
theorem G2.lo1:∀b∈G.D1.B,Lo G.s1.heap b:=G.M1.lo
theorem G2.lo2:∀b∈G.D2.B,Lo G.s2.heap b:=G.M2.lo
theorem G2.fB1 (m:b∈G.D1.B):G.s.heap.get? b=none:=G.M1.fr b (List.mem_append_left _ m)
theorem G2.fB2 (m:b∈G.D2.B):G.s1.heap.get? b=none:=G.M2.fr b (List.mem_append_left _ m)
theorem G2.wcase {p:Prop} (m:b∈G.W) (h0:Lo G.s.heap b→G.s₀.heap.get? b=none→p) (h1:b∈G.D1.B→p) (h2:b∈G.D2.B→p):p:=
 (List.mem_append.mp m).elim (fun m=>h0 (G.loF m) (G.frC (G.offF m).1 fun e=>(G.offF m).2 0 G.m0 (G.phi0.trans e.symm))) fun m=>(List.mem_append.mp m).elim
  (ac (p:=fun b=>(Lo G.s.heap b→G.s₀.heap.get? b=none→p)→p) (fun q=>q (A4i G.ls) (G.offA G.m2 nofun)) (ac (fun q=>q (A4i G.lr) (G.offA G.m11 nofun)) (ac (fun q=>q (A4i G.ln) (G.offA G.m17 nofun)) an)) b · h0) fun m=>(List.mem_append.mp m).elim h1 h2
theorem G2.noneW (m:b∈G.W):G.s₀.heap.get? b=none:=G.wcase m (fun _ h=>h) (fun m=>G.fr0 (G.fB1 m)) fun m=>G.fr0 (G.fr1 (G.fB2 m))
theorem G2.lo01 (x:Lo G.s.heap b):Lo G.s1.heap b:=x.up G.s100 G.k1
theorem G2.lo12 (x:Lo G.s1.heap b):Lo G.s2.heap b:=x.up G.M1.tab G.k2
theorem G2.loW (m:b∈G.W):Lo G.s2.heap b:=G.wcase m (fun x _=>G.lo12 (G.lo01 x)) (fun m=>G.lo12 (G.lo1 b m)) (G.lo2 b)
theorem Lo.live {h:Heap} {p:Prop} (x:Lo h b) (e:h.get? b=none):p:=let ⟨_,z,_⟩:=x; A0a (e.symm.trans z)
theorem G2.nw1 (e:G.s.heap.get? b=none) (v:G.s1.heap.get? b=some o) (n:b∉G.D1.B):b∉G.W:=fun m=>G.wcase m (fun x _=>x.live e) n fun m=>A0a ((G.fB2 m).symm.trans v)
theorem G2.nw2 (e:G.s1.heap.get? b=none) (n:b∉G.D2.B):b∉G.W:=fun m=>G.wcase m (fun x _=>(G.lo01 x).live e) (fun m=>(G.lo1 b m).live e) n
theorem G2.cut (e:G.u.heap.get? b=some o) (n:b∉G.W):(hideAll G.u.heap G.W).get? b=some o:=hideAll_get G.W e n
theorem G2.keepW (n:b≠100) (e:G.s₀.heap.get? b=some o):(hideAll G.u.heap G.W).get? b=some o:=G.cut (G.keep n e) fun m=>A0a ((G.noneW m).symm.trans e)
theorem G2.ns {m:Str→Option Value} (n:b≠100) (h:G.s₀.heap.Ns b m):(hideAll G.u.heap G.W).Ns b m:=let ⟨o,es,ep,e,r⟩:=h; ⟨o,es,ep,G.keepW n e,r⟩
theorem G2.at2:(hideAll G.u.heap G.W).Ns mainGlobals G.mg∧(hideAll G.u.heap G.W).Ns builtinsNs G.mb∧(hideAll G.u.heap G.W).NoLimit∧(KK G.w.params).In (hideAll G.u.heap G.W):=
 ⟨G.ns (by decide) G.S.g,G.ns (by decide) G.S.b,let ⟨mc,h1,h2⟩:=G.S.nolimit; ⟨mc,G.ns (by decide) h1,h2⟩,fun a o e=>G.keepW (fun z=>A0a ((A9x _).symm.trans (z▸e))) (G.S.K a o e)⟩
theorem A8q {P:Params} {h h':Heap} {t:List Nat} {D:A2L} (M:A2e P h h' t D):D.cc≠100:=A6n (o:=some (D.cc,D.c2)) M.ca M.tab
theorem G2.nd:G.T.Nodup:=by
 have A:∀{i j:Nat},i∈A0c (stL5 G.zs).hp→j∈A0c (stL5 G.zs).hp→i≠j→G.φ i≠G.φ j:=fun hi hj n e=>n (G.I.inj _ hi _ hj e)
 have X:∀a∈[G.φ 2,G.φ 11,G.φ 17],Lo G.s.heap a:=ac (A4i G.ls) (ac (A4i G.lr) (ac (A4i G.ln) an))
 exact List.nodup_append.mpr ⟨nd3 (A G.m2 G.m11 nofun) (A G.m2 G.m17 nofun) (A G.m11 G.m17 nofun),List.nodup_append.mpr ⟨G.M1.nd,G.M2.nd,fun a ha b hb e=>(G.lo1 a ha).live (e▸G.fB2 hb)⟩,
  fun a ha b hb e=>(X a ha).live (e▸(List.mem_append.mp hb).elim G.fB1 fun m=>G.fr1 (G.fB2 m))⟩
theorem G2.inT {i:Nat} (h:i < 13):G.f i∈G.T:=A6N h
theorem G2.inW {i:Nat} (h:i < 13):G.f i∈G.W:=List.mem_append_right _ (G.inT h)
theorem G2.offT (m:b∈G.FL):b∉G.T:=fun h=>(List.mem_append.mp h).elim (fun h=>ac (p:=fun a=>a≠b) ((G.offF m).2 2 G.m2) (ac ((G.offF m).2 11 G.m11) (ac ((G.offF m).2 17 G.m17) an)) b h rfl) fun h=>
 (G.loF m).live ((List.mem_append.mp h).elim G.fB1 fun m=>G.fr1 (G.fB2 m))
theorem G2.upL (m:b∈G.FL) (e:G.s.heap.get? b=some o):G.u.heap.get? b=some o:=G.up (G.n100 (G.offF m).1) e
theorem G2.upA {i:Nat} (m:i∈A0c (stL5 G.zs).hp) (e:G.s.heap.get? (G.φ i)=some o):G.u.heap.get? (G.φ i)=some o:=G.up (G.n100 (G.I.live i m).1) e
theorem G2.up1 (m:b∈G.D1.B) (e:G.s1.heap.get? b=some o):G.u.heap.get? b=some o:=G.k3 _ _ (G.k2 _ _ (G.M1.n100 b (List.mem_append_left _ m)) e)
theorem G2.st1:A2W G.w.params (hideAll G.u.heap G.W) G.u.heap (txOf G.zs) 1 G.D1.toLexD:=G.M1.rawTo (ac (fun o e=>G.cut (G.k3 _ _ (G.k2 _ _ (A8q G.M1) e)) fun m=>(let ⟨co,c1,c2⟩:=G.M1.ca; A2d.off (G.loW m) ⟨co,G.k2 _ _ (A8q G.M1) c1,c2⟩:False)) fun a m o e=>
 G.cut (G.k3 _ _ (G.k2 _ _ (G.M1.n100 a (List.mem_append_right _ m)) e)) (G.nw1 (G.M1.fr a (List.mem_append_right _ m)) e (G.M1.ap a (.tail _ m)))) fun a m o e=>G.up1 m e
theorem G2.st2:A2W G.w.params (hideAll G.u.heap G.W) G.u.heap [9,122] 1 G.D2.toLexD:=G.M2.rawTo (ac (fun o e=>G.cut (G.k3 _ _ e) fun m=>A2d.off (G.loW m) G.M2.ca) fun a m o e=>
 G.cut (G.k3 _ _ e) (G.nw2 (G.M2.fr a (List.mem_append_right _ m)) (G.M2.ap a (.tail _ m)))) fun a m o e=>G.k3 _ _ e
noncomputable abbrev G2.O (i:Nat) (o:Mine.O):Prop:=OR (LXof G.w.params (hideAll G.u.heap G.W) G.ρ) G.ρ G.f 13 G.u.heap i o
theorem G2.oRow:G.O 1 (.list ((A0G G.zs).map .int)):=let ⟨vs,k,h1,h2,h3⟩:=G.lr; ⟨vs,k,G.upA G.m11 h1,A1F (A4F _) h2,h3⟩
theorem B4r (zs:List Int) (n:Nat):A2w (NN zs) n < symB:=Nat.lt_trans (A3G (NN zs) (n - symB)) (by decide +kernel)
theorem C0E (zs:List Int) {n:Nat} (h:n∈nmS zs):A0b (rho (szOf zs) (NN zs)) [A2w (NN zs) n]=A0b (rho (szOf zs) (NN zs)) [n]:=by
 unfold A0b
 rw [A7a (A2x zs n h).1 (A2x zs n h).2,A2H _ (l:=[A2w (NN zs) n]) fun c hc=>by rw [List.mem_singleton.mp hc]; exact B4r zs n]
theorem A9z (zs:List Int):(nmS zs).length=szOf zs:=by
 rw [←B4m,A6Z,List.length_map]
theorem C0F (zs:List Int):szOf zs≤4:=(sz34 zs).elim (fun e=>Nat.le_trans (Nat.le_of_eq e) (by decide)) Nat.le_of_eq
theorem G2.oNames:G.O 2 (.list ((nmS G.zs).map fun n=>.str [n])):=by
 refine e2a3 G.ln fun vs k h1 h2 _=>?_
 refine ⟨vs,k,G.upA G.m17 h1,?_,by rw [List.length_map,A9z]; exact Nat.le_trans (C0F _) (by decide)⟩
 rw [A6Z,List.map_map] at h2
 refine B4q h2 fun n hn v hv=>?_
 obtain ⟨t,rfl⟩:=A5I (s:=[A2w (NN G.zs) n]) hv
 rw [G2.ρ,C0E G.zs hn]
 exact .str _ _ (Nat.le_of_ble_eq_true rfl)
theorem C0G (zs:List Int):(A3Q (nmS zs)).map (sv (rho (szOf zs) (NN zs)))=((nmS zs).map fun n=>[A2w (NN zs) n]) ++ [[122,32,34,122],[34,92,32]]:=by
 unfold A3Q
 rw [List.map_append,List.map_map]
 exact congrArg (· ++ _) (List.map_congr_left fun n hn=>A7a (A2x zs n hn).1 (A2x zs n hn).2)
theorem C3l (zs:List Int):A2h (rho (szOf zs) (NN zs)) (txOf zs) ((A3Q (nmS zs)).map (sv (rho (szOf zs) (NN zs)))):=by
 have h:=B0B (szOf zs) (NN zs) (NN zs 6 / 6000) (nmS zs) 0 (by rw [A9z,Nat.zero_add]; exact C0F zs) (A2x zs)
 rw [←A6Z,←C0G] at h
 exact h
theorem B6Q (zs:List Int):∀t∈A3Q (nmS zs),t.length≤4000:=fun v hv=>(List.mem_append.mp hv).elim (fun h=>by
 refine e1a2 (List.mem_map.mp h) fun n _ e2z=>?_
 subst e2z
 exact Nat.le_of_ble_eq_true rfl) (ac (p:=fun t:List Nat=>t.length≤4000) (Nat.le_of_ble_eq_true rfl) (ac (Nat.le_of_ble_eq_true rfl) an) v)
theorem G2.oTok:G.O 4 (.tok (A3Q (nmS G.zs)) (A3h (nmS G.zs)) 3 [5,6,7]):=
 ⟨txOf G.zs,1,⟨G.D1.toLexD,G.st1,rfl,rfl,Nat.le_of_ble_eq_true rfl⟩,C3l G.zs,congrArg (fun t=>1 + (A0w 10 t:Int)) (B4p G.zs).symm,B6Q G.zs⟩
theorem B6R (ρ:Nat→List Nat):A2h ρ [9,122] [[122]]:=A2h.step (ρ:=ρ) ⟨[9,122],[122],false⟩ [] [] (by simp [A3z]) (fun h=>nomatch h) (fun _=>rfl) .nil
theorem G2.oTok2:G.O 9 (.tok [[122]] [9,122] 8 [10,11,12]):=
 ⟨[9,122],1,⟨G.D2.toLexD,G.st2,rfl,rfl,Nat.le_of_ble_eq_true rfl⟩,B6R _,rfl,ac (Nat.le_of_ble_eq_true rfl) an⟩
theorem C0H (zs:List Int):A0c (stB zs).hp=[9,10,11,12,8,4,5,6,7,3,2,1]:=rfl
theorem G2.lt {i:Nat} (h:i∈A0c (stB G.zs).hp):i < 13:=(by decide:∀i∈[9,10,11,12,8,4,5,6,7,3,2,1],i < 13) i h
theorem C0I (zs:List Int):A0b (rho (szOf zs) (NN zs)) (txOf zs)=A0b (rho (szOf zs) (NN zs)) (A3h (nmS zs)):=(B8B zs _).trans (by unfold A0b; rw [B4p])
theorem B1A (zs:List Int):(A3h (nmS zs)).length≤4000:=by
 unfold A3h
 rw [List.length_append,List.length_map,A9z]
 exact Nat.le_trans (Nat.add_le_add_right (C0F zs) _) (by decide)
noncomputable abbrev G2.R (v v':V):Prop:=∀rv,VR G.ρ G.φ (stL5 G.zs).nx v rv→VR G.ρ G.f 13 v' rv
theorem G2.rr {i j:Nat} (h:G.φ i=G.f j) (hj:j < 13):G.R (.ref i) (.ref j):=fun rv x=>by
 rw [A1a x,h]; exact .ref _ hj
theorem G2.mvL:Mv G.R (stL5 G.zs).loc (stB G.zs).loc:=.unb (.val nofun (G.rr (j:=0) rfl (by decide)) (.val nofun (fun rv x=>by obtain ⟨t,rfl⟩:=B1Z x; exact .int _ _) (.val nofun (fun rv x=>by
 obtain ⟨t,rfl⟩:=A5I x
 rw [G2.ρ,C0I]
 exact .str _ _ (B1A _)) (Mv.rep _ 23))))
theorem G2.mvC:Mv G.R (stL5 G.zs).cel (stB G.zs).cel:=.val nofun (G.rr (j:=1) rfl (by decide)) (.val nofun (G.rr (j:=2) rfl (by decide)) (Mv.rep _ 8))
theorem C3m:∃(vsN:List Value) (kN:Nat),VRs G.ρ G.φ 0 (nuL (NN G.zs)) vsN∧Inv (C2 G.w G.u G.mg G.mb G.ρ G.W) (A0z G.w.params G.L) G.f [(G.f 0,A0k vsN kN)] (stB G.zs) G.u:=by
 refine e2a3 G.ls fun vs k h1 h2 _=>?_
 exact ⟨vs,k,A1F (A1Z _) h2,{
  keep:=fun b o e=>of_hideAll G.W e
  inj:=fun i hi j hj e=>A6M G.nd (G.lt hi) (G.lt hj) e
  live:=fun i hi=>⟨hideAll_none G.W (G.inW (G.lt hi)),let ⟨o,e,_⟩:=G.loW (G.inW (G.lt hi)); ⟨o,G.k3 _ _ e⟩⟩
  env:=G.I.env
  ids:=by rw [C0H]; decide
  low:=fun i hi=>G.lt hi
  nd:=G.I.nd
  off:=fun a ha=>(List.mem_append.mp ha).elim (fun m=>⟨hideAll_none G.W (List.mem_append_left _ m),fun i hi e=>G.offT m (e▸G.inT (G.lt hi))⟩) (ac (p:=fun a=>(hideAll G.u.heap G.W).get? a=none∧∀i∈A0c (stB G.zs).hp,G.f i≠a) ⟨hideAll_none G.W (G.inW (by decide)),fun i hi e=>
   (by decide:∀i∈[9,10,11,12,8,4,5,6,7,3,2,1],i≠0) i hi (A6M G.nd (G.lt hi) (by show 0 < 13; decide) e)⟩ an a)
  apart:=fun a ha hm=>G.offT ha (ac (p:=(·∈G.T)) (a:=G.f 0) (l:=[]) (G.inT (by decide)) an a hm)
  loc:=by
   obtain ⟨m,⟨ob,es,ep,e1,e2⟩,h⟩:=G.I.loc
   refine ⟨m,⟨ob,es,ep,G.upL (.head _) e1,e2⟩,fun y k v a1 a2 a3=>?_⟩
   refine e1a3 (G.mvL.at_ a2 a3) fun v0 b1 b2 b3=>?_
   exact (h y k v0 a1 b1 b2).imp fun rv z=>⟨z.1,b3 rv z.2⟩
  cel:=fun k a hk=>by
   refine e2a3 (G.I.cel k a hk) fun o cv e1 e2 h=>?_
   refine ⟨o,cv,G.upL (.tail _ (List.mem_of_getElem? hk)) e1,e2,fun v a2 a3=>?_⟩
   refine e1a3 (G.mvC.at_ a2 a3) fun v0 b1 b2 b3=>?_
   exact (h v0 b1 b2).imp fun rv z=>⟨z.1,b3 rv z.2⟩
  hp:=ac G.oTok2 (ac ⟨[],_,G.k3 _ _ G.M2.hpl,.nil,Nat.zero_le _⟩ (ac G.oTok (ac ⟨[],_,G.up1 (.head _) G.M1.hpl,.nil,Nat.zero_le _⟩ (ac G.oNames (ac G.oRow an)))))
  xs:=ac (G.upA G.m2 h1) an
  gens:=⟨#[],Array.append_empty.symm,.empty⟩
  drawn:=rfl
  os:=rfl }⟩
end
end Mine
end
section
namespace Mine
noncomputable def onS (o:Option St) (f:St→Bool):Bool:=match o with | some σ=>f σ | none=>false
theorem A6s {o:Option St} {f:St→Bool} (h:onS o f=true):∃σ,o=some σ∧f σ=true:=by
 cases o with
 | none=>exact noft h
 | some σ=>exact ⟨σ,rfl,h⟩
noncomputable def eqN (a b:List Nat):Bool:=a.rec (motive:=fun _=>List Nat→Bool) (fun b=>b.rec (motive:=fun _=>Bool) true fun _ _ _=>false)
 (fun x _ ih b=>b.rec (motive:=fun _=>Bool) false fun y r _=>(Nat.beq x y).rec (motive:=fun _=>Bool) false (ih r)) b
noncomputable def eqI (a b:Int):Bool:=a.rec (motive:=fun _=>Int→Bool) (fun m b=>b.rec (motive:=fun _=>Bool) (fun n=>Nat.beq m n) fun _=>false) (fun m b=>b.rec (motive:=fun _=>Bool) (fun _=>false) fun n=>Nat.beq m n) b
noncomputable def eqV (x y:V):Bool:=x.rec (motive:=fun _=>V→Bool) (fun y=>y.rec (motive:=fun _=>Bool) true false (fun _=>false) (fun _=>false) (fun _=>false) (fun _=>false)) (fun y=>y.rec (motive:=fun _=>Bool) false true (fun _=>false) (fun _=>false) (fun _=>false) (fun _=>false))
 (fun b y=>y.rec (motive:=fun _=>Bool) false false (fun c=>decide (b=c)) (fun _=>false) (fun _=>false) (fun _=>false))
 (fun i y=>y.rec (motive:=fun _=>Bool) false false (fun _=>false) (fun j=>eqI i j) (fun _=>false) (fun _=>false))
 (fun s y=>y.rec (motive:=fun _=>Bool) false false (fun _=>false) (fun _=>false) (fun t=>eqN s t) (fun _=>false))
 (fun i y=>y.rec (motive:=fun _=>Bool) false false (fun _=>false) (fun _=>false) (fun _=>false) (fun j=>Nat.beq i j)) y
noncomputable def eqVs (a b:List V):Bool:=a.rec (motive:=fun _=>List V→Bool) (fun b=>b.rec (motive:=fun _=>Bool) true fun _ _ _=>false)
 (fun x _ ih b=>b.rec (motive:=fun _=>Bool) false fun y r _=>(eqV x y).rec (motive:=fun _=>Bool) false (ih r)) b
noncomputable def eqO (o p:O):Bool:=match o with
 | .list xs=>(match p with | .list ys=>eqVs xs ys | _=>false)
 | o=>decide (o=p)
noncomputable def eqH (a b:List (Nat×O)):Bool:=a.rec (motive:=fun _=>List (Nat×O)→Bool) (fun b=>b.rec (motive:=fun _=>Bool) true fun _ _ _=>false)
 (fun x _ ih b=>b.rec (motive:=fun _=>Bool) false fun y r _=>(Nat.beq x.1 y.1).rec (motive:=fun _=>Bool) false ((eqO x.2 y.2).rec (motive:=fun _=>Bool) false (ih r))) b
noncomputable def eqS (a b:St):Bool:=Nat.beq a.nx b.nx && (eqVs a.loc b.loc && (eqVs a.cel b.cel && eqH a.hp b.hp))
noncomputable def leL (a b:List V):Bool:=a.rec (motive:=fun _=>List V→Bool) (fun _=>true)
 (fun x _ ih b=>b.rec (motive:=fun _=>Bool) false fun y r _=>(eqV x .unb).rec (motive:=fun _=>Bool) ((eqV x y).rec (motive:=fun _=>Bool) false (ih r)) (ih r)) b
noncomputable def leS (τ σ:St):Bool:=Nat.beq τ.nx σ.nx && (leL τ.loc σ.loc && (leL τ.cel σ.cel && eqH τ.hp (σ.hp.drop (σ.hp.length - τ.hp.length))))
noncomputable def B8D (τ:St) (n:Nat):Bool:=onS (C1w (tau0 τ) (nat_lit 0)) fun υ=>(isN (B4L { tau0 τ with nx:=υ.nx } (n - 1))).isSome && (List.range n).all fun t=>onS (C1w (tau0 τ) t) (leS { tau0 τ with nx:=υ.nx })
noncomputable def okD (size:Nat) (σ:St):Bool:=onS (isN (run fnL2 400 (.ss tD) (A1m σ (.int 1)))) fun τ=>decide (nth τ.loc 1=some (.ref 0)) && (Nat.beq (A0g τ) (A0g σ) && ((hget τ.hp 0).isNone &&
  (((List.range (2 * size - 1)).all fun c=>onS (isN (run fnL2 400 (.ss tD) (A1m σ (.int (1 + c))))) fun υ=>eqS (A1m υ .unb) (A1m τ .unb)) && B8D (A1m τ .unb) (A0g σ))))
noncomputable def A0o (size turn:Nat) (row:List Int):Bool:=onS (isN (run fnL2 400 (.ss tA) (stA size turn row))) fun σ=>decide (nth σ.loc 1=some (.ref 0)) && (decide (nth σ.cel 0=some (.ref 1)) && (decide (hget σ.hp 1=some (.list (row.map .int))) && ((hget σ.hp 0).isNone &&
  onS (isN (run fnL2 400 (.ss tB) (addP row σ))) fun σ=>decide (nth σ.loc 1=some (.ref 0)) && (decide (nth σ.loc 2=some (.int size)) && ((hget σ.hp 0).isNone && (Nat.blt 0 (A0g σ) && okD size σ))))))
end Mine
end
section
namespace Mine
open PySem PySem.W PyProof.Rows
section
variable {C:Cx} {fi:Fi} {φ φ':Nat→Addr} {X:List (Addr×Obj)} {σ σ' σ₁ σ₂:St} {s s':Shared} {A:Around} {n:Nat} {v:V} {E:Value→Shared→Prop} {Q:Flow→Shared→Prop}
theorem A2p.mono {K K':Nat} (L:A2p C K) (h:K≤K'):A2p C K' where
 attr:=L.attr
 getm:=L.getm
 read:=fun hR=>L.read (hR.mono h)
 iter:=fun h1 hR=>L.iter h1 (hR.mono h)
 line:=L.line
 selfIt:=L.selfIt
 ended:=L.ended
 next:=fun hR=>L.next (hR.mono h)
set_option tactic.hygienic true in
theorem B4s {FT:List Fn} {K:Nat} (H:Hyp C FT K) (hg:A4J FT=false) {r:List PySem.Stmt}:∀(n:Nat) {l:List PySem.Stmt} {t:List S} {k:Nat} {σ:St} {φ:Nat→Addr} {s:Shared},run FT n (.ss t) σ=some (.f .next,σ')→Room A (n + K)→TrSS k fi.cx t l→Inv C fi φ X σ s→
  (∀φ' s',Ext φ φ' σ.nx→Inv C fi φ' X σ' s'→wpAny (MM C) A (execs r fi.env) Q E s')→wpAny (MM C) A (execs (l ++ r) fi.env) Q E s
 | 0,_,_,_,_,_,_,hr,_,_,_,_=>A0a hr
 | n + 1,l,[],k,σ,φ,s,hr,hR,ht,I,q=>by
  have e:=(Prod.mk.inj (Option.some.inj hr)).2
  rw [show l=[] from ht]
  exact q φ s (Ext.refl _ _) (e▸I)
 | n + 1,l,t1::t2,k,σ,φ,s,hr,hR,⟨st,rest,el,h2,h3⟩,I,q=>by
  rw [el]
  have hr:(match run FT n (.s t1) σ with | some (.f .next,σ)=>run FT n (.ss t2) σ | x=>x)=some (.f .next,σ'):=hr
  split at hr
  ·
   rename_i σ₁ ha
   have B:=big H hg n
   have n1:=B.nx _ _ _ _ ha
   refine wpAny_execs_cons (B.s (X:=X) ha (hR.mono (Nat.add_le_add_right (Nat.le_succ n) K)) h2 φ s _ _ I fun φ1 s1 rf e1 I1 fr=>?_)
   cases fr
   exact B4s H hg n hr (hR.mono (Nat.add_le_add_right (Nat.le_succ n) K)) h3 I1 fun φ2 s2 e2 I2=>q φ2 s2 (e1.trans e2 n1) I2
  ·
   rename_i hne
   exact absurd hr (hne _)
theorem Inv.unb (I:Inv C fi φ X σ s) (i:Nat):Inv C fi φ X { σ with loc:=lset σ.loc i .unb } s:=I.less ⟨rfl,fun _ _=>A4Z,fun _ _ h _=>h,List.Sublist.refl _⟩
end
section
variable {w:World} {s₀ u:Shared} {mg mb:Str→Option Value} {zs:List Int} {W:List Addr}
structure At2 (w:World) (s₀ u:Shared) (mg mb:Str→Option Value) (W:List Addr):Prop where
 g:(hideAll u.heap W).Ns mainGlobals mg
 b:(hideAll u.heap W).Ns builtinsNs mb
 nl:(hideAll u.heap W).NoLimit
 K:(KK w.params).In (hideAll u.heap W)
noncomputable abbrev Cs (w:World) (u:Shared) (mg mb:Str→Option Value) (zs:List Int) (W:List Addr):Cx:=C2 w u mg mb (rho (szOf zs) (NN zs)) W
theorem ok2 (S:A1d w s₀ mg mb) (T:At2 w s₀ u mg mb W):OkC (Cs w u mg mb zs W):=
 B4j (C:=Cs w u mg mb zs W) (sz:=szOf zs) (N:=NN zs) (s:=s₀) S T.g T.b T.nl rfl B8s fun φ n h i xs x=>x.elim
theorem fun2 (S:A1d w s₀ mg mb) (T:At2 w s₀ u mg mb W):A0X (Cs w u mg mb zs W):=
 A6X (C:=Cs w u mg mb zs W) (s:=s₀) S T.K (fun f hf=>by
  have h9:f≠9:=fun e=>noft (e▸hf:low9 9=true)
  have h10:f≠10:=fun e=>noft (e▸hf:low9 10=true)
  show fv2 f=fv1 f
  unfold fv2
  split
  ·
   exact absurd rfl h9
  ·
   exact absurd rfl h10
  ·
   rfl) (by kernel_rfl) (by kernel_rfl) rfl
theorem wok2 (T:At2 w s₀ u mg mb W):WOk (Cs w u mg mb zs W) (hideAll u.heap W):=⟨T.K,rfl,fun b o e=>e,rfl,rfl,rfl⟩
theorem raw2 (S:A1d w s₀ mg mb) (T:At2 w s₀ u mg mb W):Raw (Cs w u mg mb zs W):=⟨ok2 S T,fun2 S T,T.K,by show mg _=_; rw [S.mgAt]; kernel_rfl⟩
theorem hyp2 (S:A1d w s₀ mg mb) (T:At2 w s₀ u mg mb W):Hyp (Cs w u mg mb zs W) fnL2 200 where
 O:=ok2 S T
 L:=(C2B (wok2 T) (ok2 S T) (fun2 S T)).mono (by decide)
 F:=fun2 S T
 N:=fun _=>C4n (raw2 S T) (wok2 T) (B4g _ _) rfl rfl
 fn:=C2t T.K ⟨rfl,rfl,rfl,rfl,rfl,rfl,rfl,rfl⟩
end
end Mine
end
section
namespace Mine
open PySem PySem.W PyProof.Rows
theorem A5t (u:List Nat):∀(L:List (List Nat)) (p i:Nat),(A4h L p u)[i]?=if i=p then L[i]?.map (u ++ ·) else L[i]?
 | [],p,i=>by cases p <;> simp [A4h]
 | x::L,0,0=>rfl
 | x::L,0,i + 1=>by simp [A4h]
 | x::L,p + 1,0=>by simp [A4h]
 | x::L,p + 1,i + 1=>by
  show (A4h L p u)[i]?=_
  rw [A5t u L p i]
  by_cases h:i=p
  ·
   rw [if_pos h,if_pos (by lia)]; rfl
  ·
   rw [if_neg h,if_neg (by lia)]; rfl
theorem B1B (sz:Nat) (N:Nat→Nat) (row:List Int) (hr:∀b∈row,b=0∨b=1) (hl:row.length=2 * sz):A0S row N=row.zipIdx.map fun p=>rho sz N (8 + 2 * p.2 + p.1.toNat):=by
 have key:∀i b,(b=0∨b=1)→rho sz N (8 + 2 * i + b.toNat)=(if N 3 / 6 % (2 * sz)=i then unsT (N 3 % 6) else []) ++ ((if N 2 / 6 % (2 * sz)=i then unsT (N 2 % 6) else []) ++ bitT b):=fun i b hb=>by
  have e1:(8 + 2 * i + b.toNat - 8) / 2=i:=by
   rcases hb with rfl | rfl
   ·
    show (8 + 2 * i + 0 - 8) / 2=i; lia
   ·
    show (8 + 2 * i + 1 - 8) / 2=i; lia
  have e2:A0r (A1h (usAt (2 * sz) N i) (Nat.beq ((8 + 2 * i + b.toNat) % 2) 1))=(if N 3 / 6 % (2 * sz)=i then unsT (N 3 % 6) else []) ++ ((if N 2 / 6 % (2 * sz)=i then unsT (N 2 % 6) else []) ++ bitT b):=by
   have e3:A0r [if Nat.beq ((8 + 2 * i + b.toNat) % 2) 1=true then Tk.op else Tk.cl]=bitT b:=by
    rcases hb with rfl | rfl
    ·
     have:(8 + 2 * i + (0:Int).toNat) % 2=0:=by show (8 + 2 * i + 0) % 2=0; lia
     rw [this]; rfl
    ·
     have:(8 + 2 * i + (1:Int).toNat) % 2=1:=by show (8 + 2 * i + 1) % 2=1; lia
     rw [this]; rfl
   have e4:∀(c:Prop) [Decidable c] (j:Nat),A0r (if c then [unsK j] else [])=if c then unsT j else []:=fun c _ j=>by
    split
    ·
     show (unsK j).txt ++ []=_
     rw [B6K,List.append_nil]
    ·
     rfl
   unfold A1h usAt
   rw [show ∀a b:List Tk,A0r (a ++ b)=A0r a ++ A0r b from fun a b=>by unfold A0r; rw [List.flatMap_append],show ∀a b:List Tk,A0r (a ++ b)=A0r a ++ A0r b from fun a b=>by unfold A0r; rw [List.flatMap_append],e3,e4,e4,List.append_assoc]
  unfold rho
  rw [if_neg (by lia),if_neg (by lia),e1,e2]
 apply List.ext_getElem?
 intro i
 have l1:(pc1 (row.map bitT) (N 2)).length=2 * sz:=by unfold pc1; rw [A5p,List.length_map,hl]
 unfold A0S
 rw [show pc1 (pc1 (row.map bitT) (N 2)) (N 3)=A4h (pc1 (row.map bitT) (N 2)) (N 3 / 6 % (2 * sz)) (unsT (N 3 % 6)) by unfold pc1; rw [show (A4h (row.map bitT) (N 2 / 6 % (row.map bitT).length) (unsT (N 2 % 6))).length=2 * sz by rw [A5p,List.length_map,hl]],A5t]
 rw [show pc1 (row.map bitT) (N 2)=A4h (row.map bitT) (N 2 / 6 % (2 * sz)) (unsT (N 2 % 6)) by unfold pc1; rw [List.length_map,hl],A5t]
 rw [List.getElem?_map,List.getElem?_map,List.getElem?_zipIdx]
 cases hb:row[i]? with
 | none=>simp
 | some b=>
  have h01:=hr b (List.mem_of_getElem? hb)
  simp only [Option.map_some,Nat.zero_add]
  rw [key i b h01]
  by_cases c3:i=N 3 / 6 % (2 * sz) <;> by_cases c2:i=N 2 / 6 % (2 * sz)
  ·
   rw [if_pos c3,if_pos c2,if_pos c3.symm,if_pos c2.symm]; rfl
  ·
   rw [if_pos c3,if_neg c2,if_pos c3.symm,if_neg (fun e=>c2 e.symm)]; rfl
  ·
   rw [if_neg c3,if_pos c2,if_neg (fun e=>c3 e.symm),if_pos c2.symm]; rfl
  ·
   rw [if_neg c3,if_neg c2,if_neg (fun e=>c3 e.symm),if_neg (fun e=>c2 e.symm)]; rfl
end Mine
end
section
namespace Mine
open PySem PySem.W PyProof.Rows
section
variable {C:Cx} {fi fi':Fi} {φ φ':Nat→Addr} {X:List (Addr×Obj)} {σ σ' σ₁ σ₂:St} {s s':Shared} {A:Around} {E Q:Value→Shared→Prop}
theorem Inv.newOld (H:C.Ok) (I0:Inv C fi φ X σ s) (I:Inv C fi φ X σ s') {b:Addr} {xs:List V} {vs:List Value} {k:Nat} (hfree:s.heap.get? b=none) (e:s'.heap.get? b=some (A0k vs k)) (hv:VRs C.ρ φ σ.nx xs vs) (hl:xs.length≤5000):
  Inv C fi (putAt φ σ.nx b) X { σ with hp:=(σ.nx,.list xs)::σ.hp,nx:=σ.nx + 1 } s':=by
 have I1:=I.more H (Nat.le_succ _) (Ext.putAt φ σ.nx b)
 have e0:putAt φ σ.nx b σ.nx=b:=if_pos rfl
 have hi:∀j,j∈σ.nx::own (.list xs)→j=σ.nx:=fun j hj=>List.mem_singleton.mp hj
 refine I1.add H (i:=σ.nx) (o:=.list xs) (fun j hj=>by rw [hi j hj]; exact Nat.lt_succ_self _) (List.pairwise_singleton _ _) (fun j hj k hk _=>by rw [hi j hj,hi k hk]) (fun j hj=>?_) (fun j hj k hk'=>?_) (fun j hj hm=>?_) ⟨vs,k,by rw [e0]; exact e,hv.ext (Ext.putAt _ _ _) (Nat.le_succ _),hl⟩
 ·
  rw [hi j hj,e0]
  refine ⟨?_,_,e⟩
  cases q:C.h₀.get? b with
  | none=>rfl
  | some ob=>have:=I0.keep _ _ q; rw [hfree] at this; cases this
 ·
  rw [hi j hj,e0]
  intro e
  rw [Ext.putAt φ σ.nx b k (I.low k hk')] at e
  obtain ⟨ob,h2⟩:=(I0.live k hk').2
  rw [e,hfree] at h2; cases h2
 ·
  rw [hi j hj,e0] at hm
  obtain ⟨ob,h2⟩:=I0.adLive hm
  rw [hfree] at h2; cases h2
theorem A9A {row:List Int} (hr:∀b∈row,b=0∨b=1) {p:Int×Nat} (hp:p∈row.zipIdx):p.1=0∨p.1=1:=by
 obtain ⟨b,i⟩:=p
 have:=List.mem_zipIdx hp
 refine e0a3 this fun _ h2 h3=>?_
 exact hr b (by rw [h3]; exact List.getElem_mem _)
theorem A9B (R:Raw C) (h2:C.fv 2=136) {sz:Nat} {N:Nat→Nat} (hρ:C.ρ=rho sz N) {row:List Int} (hr:∀b∈row,b=0∨b=1) (hl:row.length=2 * sz) (hsz:sz=3∨sz=4) (I:Inv C fi φ X σ s) (hg1:hget σ.hp 1=some (.list (row.map .int))) (hg0:hget σ.hp 0=some (.list (nuL N))) (hR:Room A 100)
  (q:∀b s',Inv C fi (putAt φ σ.nx b) X { σ with hp:=(σ.nx,.list (A0R row))::σ.hp,nx:=σ.nx + 1 } s'→Q (.ref b) s'):wpAny (MM C) A (call (.ref (C.fv 2)) [.ref (φ 1),.ref (φ 0)]) Q E s:=by
 refine e2a3 (I.get hg1) fun vs1 k1 a1 b1 c1=>?_
 refine e2a3 (I.get hg0) fun vs0 k0 a0 b0 c0=>?_
 have i1:=A0L hg1
 have i0:=A0L hg0
 have ne10:φ 1≠φ 0:=fun e=>absurd (I.inj 1 i1 0 i0 e) (by decide)
 have hW:∀b∈[φ 1,φ 0],C.h₀.get? b=none:=fun b hb=>by
  simp only [List.mem_cons,List.not_mem_nil,or_false] at hb
  rcases hb with rfl | rfl
  ·
   exact (I.live 1 i1).1
  ·
   exact (I.live 0 i0).1
 obtain ⟨o,loc',hrun,_⟩:=B1z [] row hr (by rw [hl]; rcases hsz with e | e <;> lia) (by rw [hl]; rcases hsz with e | e <;> lia) N
 have ids2:A0c [(1,Mine.O.list (row.map .int)),(0,.list (nuL N))]=[1,0]:=rfl
 have two:∀i,i∈A0c [(1,Mine.O.list (row.map .int)),(0,.list (nuL N))]→i=1∨i=0:=fun i hi=>by
  rw [ids2] at hi
  simpa using hi
 refine B0v (W:=[φ 1,φ 0]) (FT:=[]) (φ:=φ) (nx:=2) (n:=59) (hp:=[(1,.list (row.map .int)),(0,.list (nuL N))]) R I.keep hW rfl (fun f fn h=>nomatch h) (fn2 R.X h2) (vs:=[.ref 1,.ref 0]) rfl (.cons (.ref 1 (by decide)) (.cons (.ref 0 (by decide)) .nil)) (fun i hi=>?_) (fun i hi j hj e=>?_) (by rw [ids2]; decide) (fun i hi=>by rcases two i hi with rfl | rfl <;> decide) (fun p hp=>?_) hrun (hR.le rfl) fun φ' s' rv fi' e I' hv=>?_
 ·
  rcases two i hi with rfl | rfl
  ·
   exact ⟨by simp,_,a1⟩
  ·
   exact ⟨by simp,_,a0⟩
 ·
  rcases two i hi with rfl | rfl <;> rcases two j hj with rfl | rfl
  ·
   rfl
  ·
   exact absurd e ne10
  ·
   exact absurd e.symm ne10
  ·
   rfl
 ·
  simp only [List.mem_cons,List.not_mem_nil,or_false] at hp
  rcases hp with rfl | rfl
  ·
   exact ⟨vs1,k1,a1,A1F (A4F _) b1,c1⟩
  ·
   exact ⟨vs0,k0,a0,A1F (A1Z _) b0,c0⟩
 have p0:φ' 0=φ 0:=e 0 (by decide)
 have p1:φ' 1=φ 1:=e 1 (by decide)
 have nn:=I'.near
 refine e2a3 (I'.hp (1,.list (row.map .int)) (by simp [pcHp])) fun ws1 j1 g1 r1 _=>?_
 refine e2a3 (I'.hp (0,.list (nuL N)) (by simp [pcHp])) fun ws0 j0 g0 r0 _=>?_
 refine e2a3 (I'.hp (2,.list ((A0S row N).map .str)) (by simp [pcHp])) fun ws2 j2 g2 r2 l2=>?_
 simp only at g1 g0 g2
 rw [p1] at g1
 rw [p0] at g0
 cases hv with
 | ref _ _=>
 have hids':A0c ((3,o)::pcHp (row.map .int) (A0S row N) (.list (nuL N)))=3::(own o ++ [1,2,0]):=by
  rw [A0f]; rfl
 have m0:(0:Nat)∈A0c ((3,o)::pcHp (row.map .int) (A0S row N) (.list (nuL N))):=by rw [hids']; simp
 have m1:(1:Nat)∈A0c ((3,o)::pcHp (row.map .int) (A0S row N) (.list (nuL N))):=by rw [hids']; simp
 have m2:(2:Nat)∈A0c ((3,o)::pcHp (row.map .int) (A0S row N) (.list (nuL N))):=by rw [hids']; simp
 have hfree:s.heap.get? (φ' 2)=none:=by
  cases hq:s.heap.get? (φ' 2) with
  | none=>rfl
  | some ob=>
   have h3:=(I'.live 2 m2).1
   by_cases hm:φ' 2∈[φ 1,φ 0]
   ·
    simp only [List.mem_cons,List.not_mem_nil,or_false] at hm
    rcases hm with hm | hm
    ·
     exact absurd (I'.inj 2 m2 1 m1 (by rw [p1]; exact hm)) (by decide)
    ·
     exact absurd (I'.inj 2 m2 0 m0 (by rw [p0]; exact hm)) (by decide)
   ·
    have:(C.at s [φ 1,φ 0]).h₀.get? (φ' 2)=some ob:=hideAll_get _ hq hm
    rw [this] at h3; cases h3
 have offW:∀k∈A0c σ.hp,k≠1→k≠0→φ k∉[φ 1,φ 0]:=fun k hk h1 h0 hm=>by
  simp only [List.mem_cons,List.not_mem_nil,or_false] at hm
  rcases hm with hm | hm
  ·
   exact h1 (I.inj k hk 1 i1 hm)
  ·
   exact h0 (I.inj k hk 0 i0 hm)
 have I1:Inv C fi φ X σ s':=I.rebuild R.O.H (hp':=σ.hp) rfl nn (fun b hb=>by
  simp only [List.mem_cons,List.not_mem_nil,or_false] at hb
  rcases hb with rfl | rfl
  ·
   exact ⟨1,i1,rfl⟩
  ·
   exact ⟨0,i0,rfl⟩) (fun k hk=>by
  by_cases h1:k=1
  ·
   subst h1; exact ⟨_,g1⟩
  ·
   by_cases h0:k=0
   ·
    subst h0; exact ⟨_,g0⟩
   ·
    obtain ⟨ob,e⟩:=(I.live k hk).2
    exact ⟨ob,nn.keep _ _ (offW k hk h1 h0) e⟩) (fun p hp=>by
  by_cases h1:p=(1,.list (row.map .int))
  ·
   subst h1
   exact ⟨ws1,j1,g1,A1F (A4F _) r1,c1⟩
  ·
   by_cases h0:p=(0,.list (nuL N))
   ·
    subst h0
    exact ⟨ws0,j0,g0,A1F (A1Z _) r0,c0⟩
   ·
    have ap1:=A2t I.ids hp (A0l hg1) h1
    have ap0:=A2t I.ids hp (A0l hg0) h0
    refine OR.ext R.O.H (I.hp p hp) (Ext.refl _ _) (Nat.le_refl _) (I.lowH hp) fun j hj ob e=>nn.keep _ _ (offW j (A0s hp j hj) (ap1 j hj 1 (.head _)) (ap0 j hj 0 (.head _))) e)
 refine q (φ' 2) s' (I.newOld R.O.H I1 hfree g2 ?_ ?_)
 ·
  rw [B1B sz N row hr hl,List.map_map] at r2
  unfold A0R
  refine B4q (ρ:=C.ρ) (φ:=φ') (n:=6) (f:=fun p:Int×Nat=>V.str (rho sz N (8 + 2 * p.2 + p.1.toNat))) r2 fun p hp v hv=>?_
  cases hv with
  | str _ tk _=>
  have h01:=A9A hr hp
  have hb:symB=2097152:=rfl
  have e1:A0b C.ρ (rho sz N (8 + 2 * p.2 + p.1.toNat))=A0b C.ρ [symB + 8 + 2 * p.2 + p.1.toNat]:=by
   unfold A0b
   rw [A2H _ (A8o sz N _)]
   have e2:sv C.ρ [symB + 8 + 2 * p.2 + p.1.toNat]=rho sz N (8 + 2 * p.2 + p.1.toNat):=by
    show (if symB + 8 + 2 * p.2 + p.1.toNat < symB then _ else C.ρ (symB + 8 + 2 * p.2 + p.1.toNat - symB)) ++ []=_
    rw [if_neg (by lia),hρ,List.append_nil,show symB + 8 + 2 * p.2 + p.1.toNat - symB=8 + 2 * p.2 + p.1.toNat by lia]
   rw [e2]
  show VR _ _ _ _ (.str (A0b C.ρ (rho sz N (8 + 2 * p.2 + p.1.toNat))) tk)
  rw [e1]
  exact .str _ _ (by simp)
 ·
  unfold A0R
  rw [List.length_map,List.length_zipIdx,hl]
  rcases hsz with e | e <;> lia
end
end Mine
end
section
namespace Mine
open PySem PySem.W PyProof.Rows
theorem A8r {p:Option (R×St)} {σ:St} (h:isN p=some σ):p=some (.f .next,σ):=by
 cases p with
 | none=>exact A0a h
 | some x=>
  obtain ⟨r,τ⟩:=x
  cases r with
  | f g=>cases g with
   | next=>exact congrArg (fun σ=>some (R.f .next,σ)) (Option.some.inj h)
   | _=>exact A0a h
  | _=>exact A0a h
theorem C3n {o:Option V} {f:Nat→Option O} (h:0 < ordN o f):∃j xs,o=some (.ref j)∧f j=some (.list xs)∧ordN o f=xs.length:=by
 cases o with
 | none=>exact absurd h (Nat.lt_irrefl _)
 | some v=>cases v with
  | ref j=>
   have h:0 < (match f j with | some (.list xs)=>xs.length | _=>0):=h
   show ∃j' xs,some (V.ref j)=some (.ref j')∧f j'=some (.list xs)∧(match f j with | some (.list xs)=>xs.length | _=>0)=xs.length
   cases e:f j with
   | none=>rw [e] at h; exact absurd h (Nat.lt_irrefl _)
   | some q=>cases q with
    | list xs=>exact ⟨j,xs,rfl,e,rfl⟩
    | _=>rw [e] at h; exact absurd h (Nat.lt_irrefl _)
  | _=>exact absurd h (Nat.lt_irrefl _)
theorem A9C {o:Option O} (h:o.isNone=true):o=none:=Option.isNone_iff_eq_none.mp h
theorem A8s {b c:Bool} {q:Prop} (h:b.rec (motive:=fun _=>Bool) false c=true) (H:b=true→c=true→q):q:=by
 cases b with
 | false=>exact noft h
 | true=>exact H rfl h
theorem C3o {a:List Nat}:∀{b:List Nat},eqN a b=true→a=b:=by
 induction a with
 | nil=>intro b h; cases b with
  | nil=>rfl
  | cons=>exact noft h
 | cons x a ih=>intro b h; cases b with
  | nil=>exact noft h
  | cons y r=>exact A8s (b:=Nat.beq x y) h fun e h=>by rw [Nat.eq_of_beq_eq_true e,ih h]
theorem C3p {a b:Int} (h:eqI a b=true):a=b:=by
 cases a with
 | ofNat m=>cases b with
  | ofNat n=>exact congrArg _ (Nat.eq_of_beq_eq_true h)
  | negSucc n=>exact noft h
 | negSucc m=>cases b with
  | ofNat n=>exact noft h
  | negSucc n=>exact congrArg _ (Nat.eq_of_beq_eq_true h)
theorem B4t {x y:V} (h:eqV x y=true):x=y:=by
 cases x with
 | unb=>cases y with
  | unb=>rfl
  | _=>exact noft h
 | none=>cases y with
  | none=>rfl
  | _=>exact noft h
 | bool b=>cases y with
  | bool c=>exact congrArg _ (of_decide_eq_true h)
  | _=>exact noft h
 | int i=>cases y with
  | int j=>exact congrArg _ (C3p h)
  | _=>exact noft h
 | str s=>cases y with
  | str t=>exact congrArg _ (C3o h)
  | _=>exact noft h
 | ref i=>cases y with
  | ref j=>exact congrArg _ (Nat.eq_of_beq_eq_true h)
  | _=>exact noft h
theorem A9D {a:List V}:∀{b:List V},eqVs a b=true→a=b:=by
 induction a with
 | nil=>intro b h; cases b with
  | nil=>rfl
  | cons=>exact noft h
 | cons x a ih=>intro b h; cases b with
  | nil=>exact noft h
  | cons y r=>exact A8s (b:=eqV x y) h fun e h=>by rw [B4t e,ih h]
theorem C3q {o p:O} (h:eqO o p=true):o=p:=by
 cases o with
 | list xs=>cases p with
  | list ys=>exact congrArg _ (A9D h)
  | _=>exact noft h
 | _=>exact of_decide_eq_true h
theorem B8E {a:List (Nat×O)}:∀{b:List (Nat×O)},eqH a b=true→a=b:=by
 induction a with
 | nil=>intro b h; cases b with
  | nil=>rfl
  | cons=>exact noft h
 | cons x a ih=>intro b h; cases b with
  | nil=>exact noft h
  | cons y r=>exact A8s (b:=Nat.beq x.1 y.1) h fun e h=>A8s (b:=eqO x.2 y.2) h fun e2 h=>by rw [show x=y from Prod.ext (Nat.eq_of_beq_eq_true e) (C3q e2),ih h]
theorem C3r {a b:St} (h:eqS a b=true):a=b:=by
 have h1:=both h
 have h2:=both h1.2
 have h3:=both h2.2
 obtain ⟨l,c,p,n⟩:=a
 obtain ⟨l',c',p',n'⟩:=b
 rw [show n=n' from Nat.eq_of_beq_eq_true h1.1,show l=l' from A9D h2.1,show c=c' from A9D h3.1,show p=p' from B8E h3.2]
theorem B8F {a:List V}:∀{b:List V},leL a b=true→∀k v,nth a k=some v→v≠.unb→nth b k=some v:=by
 induction a with
 | nil=>exact fun _ k v e=>A0a e
 | cons x a ih=>
  intro b h
  cases b with
  | nil=>exact noft h
  | cons y r=>
   have h:(eqV x .unb).rec (motive:=fun _=>Bool) ((eqV x y).rec (motive:=fun _=>Bool) false (leL a r)) (leL a r)=true:=h
   cases e:eqV x .unb with
   | true=>
    rw [e] at h
    intro k v hk n
    cases k with
    | zero=>exact absurd ((Option.some.inj hk).symm.trans (B4t e)) n
    | succ k=>exact ih h k v hk n
   | false=>
    rw [e] at h
    refine A8s (b:=eqV x y) h fun e2 h=>?_
    intro k v hk n
    cases k with
    | zero=>exact (congrArg some (B4t e2)).symm.trans hk
    | succ k=>exact ih h k v hk n
theorem B6S {τ σ:St} (h:leS τ σ=true):Less τ σ:=by
 have h1:=both h
 have h2:=both h1.2
 have h3:=both h2.2
 exact ⟨Nat.eq_of_beq_eq_true h1.1,B8F h2.1,B8F h3.1,B8E h3.2▸List.drop_sublist _ _⟩
noncomputable def C0J (τ υ:St) (t:Nat):Prop:=∃σ₁ σ₂,assign eTg (.int t) τ=some σ₁∧run fnL2 399 (.ss B4K) σ₁=some (.f .next,σ₂)∧Less υ σ₂
theorem B1C {τ:St} {n:Nat} (h:B8D τ n=true):∃υ σ',B4L υ (n - 1)=some (.f .next,σ')∧∀t,t < n→C0J (tau0 τ) υ t:=by
 refine e1a2 (A6s h) fun υ _ h=>?_
 have h1:=both h
 obtain ⟨σ',e⟩:=Option.isSome_iff_exists.mp h1.1
 refine ⟨_,σ',A8r e,fun t ht=>?_⟩
 refine e1a2 (A6s (List.all_eq_true.mp h1.2 t (List.mem_range.mpr ht))) fun σ₂ e2 l=>?_
 exact A0p e2 fun σ₁ a b=>⟨σ₁,σ₂,a,A8r b,B6S l⟩
theorem C0K {size:Nat} {σ:St} (h:okD size σ=true):∃τ,nth τ.loc 1=some (.ref 0)∧A0g τ=A0g σ∧hget τ.hp 0=none∧(∀c,c < 2 * size - 1→∃υ,run fnL2 400 (.ss tD) (A1m σ (.int (1 + c)))=some (.f .next,υ)∧A1m υ .unb=A1m τ .unb)∧
  ∃υ σ',B4L υ (A0g σ - 1)=some (.f .next,σ')∧∀t,t < A0g σ→C0J (tau0 (A1m τ .unb)) υ t:=by
 refine e1a2 (A6s h) fun τ _ h=>?_
 have h1:=both h
 have h2:=both h1.2
 have h3:=both h2.2
 have h4:=both h3.2
 refine ⟨τ,of_decide_eq_true h1.1,Nat.eq_of_beq_eq_true h2.1,A9C h3.1,fun c hc=>?_,B1C h4.2⟩
 refine e1a2 (A6s (List.all_eq_true.mp h4.1 c (List.mem_range.mpr hc))) fun υ hυ e=>?_
 exact ⟨υ,A8r hυ,C3r e⟩
theorem B4u {size turn:Nat} {row:List Int} (h:A0o size turn row=true):∃σA σB,run fnL2 400 (.ss tA) (stA size turn row)=some (.f .next,σA)∧nth σA.loc 1=some (.ref 0)∧nth σA.cel 0=some (.ref 1)∧hget σA.hp 1=some (.list (row.map .int))∧hget σA.hp 0=none∧
  run fnL2 400 (.ss tB) (addP row σA)=some (.f .next,σB)∧nth σB.loc 1=some (.ref 0)∧nth σB.loc 2=some (.int size)∧hget σB.hp 0=none∧0 < A0g σB∧okD size σB=true:=by
 refine e1a2 (A6s h) fun σA hA h=>?_
 have h1:=both h
 have h2:=both h1.2
 have h3:=both h2.2
 have h4:=both h3.2
 refine e1a2 (A6s h4.2) fun σB hB g=>?_
 have g1:=both g
 have g2:=both g1.2
 have g3:=both g2.2
 have g4:=both g3.2
 exact ⟨σA,σB,A8r hA,of_decide_eq_true h1.1,of_decide_eq_true h2.1,of_decide_eq_true h3.1,A9C h4.1,A8r hB,of_decide_eq_true g1.1,of_decide_eq_true g2.1,A9C g3.1,Nat.blt_eq.mp g4.1,g4.2⟩
noncomputable def B0C:PySem.Stmt:=.Assign [.Name "pieces" ⟨258,4,258,10⟩] (.Call (.Name "_law_pieces" ⟨258,13,258,24⟩) [.Name "row" ⟨258,25,258,28⟩,.Name "numbers" ⟨258,30,258,37⟩] [] ⟨258,13,258,38⟩) ⟨258,4,258,38⟩
theorem C3s (P:Params):(lawB P).drop 19=B0C::(lawB P).drop 20:=by kernel_rfl
theorem C3t (P:Params):(lawB P).drop 23=stN (lawB P) 23::(lawB P).drop 24:=by kernel_rfl
theorem C3u (P:Params):(lawB P).drop 25=[stN (lawB P) 25,stN (lawB P) 26]:=by kernel_rfl
theorem trA (P:Params):TrSS 60 (A0i (A1E P).scope) tA (((lawB P).drop 6).take 13):=A2l (by kernel_rfl) (by kernel_rfl)
theorem trB (P:Params):TrSS 60 (A0i (A1E P).scope) tB (((lawB P).drop 20).take 3):=A2l (by kernel_rfl) (by kernel_rfl)
theorem trD (P:Params):TrSS 60 (A0i (A1E P).scope) tD (((lawB P).drop 24).take 1):=A2l (by kernel_rfl) (by kernel_rfl)
noncomputable def t23S:S:=.asg [.loc 21] (.bin .add (.lit (.int 1)) (.bin .mod (.idx (.loc 1) (.lit (.int 1))) (.bin .sub (.bin .mul (.lit (.int 2)) (.loc 2)) (.lit (.int 1)))))
theorem tr23 (P:Params):TrS 60 (A0i (A1E P).scope) t23S (stN (lawB P) 23):=A6e (by kernel_rfl) (by kernel_rfl)
noncomputable def forT (s:PySem.Stmt):PySem.Expr:=Ac.t s
noncomputable def forI (s:PySem.Stmt):PySem.Expr:=Ac.v s
noncomputable def forB (s:PySem.Stmt):List PySem.Stmt:=Ac.b s
noncomputable def forP (s:PySem.Stmt):Pos:=Ac.q s
theorem st25 (P:Params):stN (lawB P) 25=.For (forT (stN (lawB P) 25)) (forI (stN (lawB P) 25)) (forB (stN (lawB P) 25)) [] (forP (stN (lawB P) 25)):=by kernel_rfl
noncomputable def it25:Mine.E:=.lst [.bin .mod (.idx (.loc 1) (.lit (.int 4))) (.bi .len [.cel 4]),.bin .sub (.bi .len [.cel 4]) (.lit (.int 1))]
theorem C0L (P:Params):TrT 60 (A0i (A1E P).scope) eTg (forT (stN (lawB P) 25)):=C2q (by kernel_rfl) (by kernel_rfl)
theorem C3v (P:Params):TrE 60 (A0i (A1E P).scope) it25 (forI (stN (lawB P) 25)):=A9I (by kernel_rfl) (by kernel_rfl)
theorem C4F (P:Params):TrI (TrE 60 (A0i (A1E P).scope)) (A0i (A1E P).scope) .list [it25] (forI (stN (lawB P) 25)):=⟨_,rfl,by kernel_rfl,C3v P⟩
theorem C3w (P:Params):TrSS 60 (A0i (A1E P).scope) B4K (forB (stN (lawB P) 25)):=A2l (by kernel_rfl) (by kernel_rfl)
theorem tr26 (P:Params):TrS 60 (A0i (A1E P).scope) (.ret (.lit (.bool true))) (stN (lawB P) 26):=A6e (by kernel_rfl) (by kernel_rfl)
theorem B6T (P:Params):TgN (A0i (A1E P).scope) (.loc 17) "pieces" := ⟨by kernel_rfl,by kernel_rfl⟩
theorem A7b (P:Params) (a b:Nat):(lawB P).drop a=((lawB P).drop a).take b ++ (lawB P).drop (a + b):=by
 rw [←List.drop_drop,List.take_append_drop]
theorem C4G (σ:St) (sz:Nat) (N:Nat→Nat) (h1:nth σ.loc 1=some (.ref 0)) (h2:nth σ.loc 2=some (.int sz)) (hs:sz=3∨sz=4) (hn:0 < σ.nx):
  run fnL2 20 (.s t23S) { σ with hp:=(0,.list (nuL N))::σ.hp }=some (.f .next,A1m { σ with hp:=(0,.list (nuL N))::σ.hp } (.int (1 + (N 1 % (2 * sz - 1):Nat)))):=by
 obtain ⟨loc,cel,hp,nx⟩:=σ
 simp only at h1 h2 hn
 have e1:index ((0,.list (nuL N))::hp) (.ref 0) (.int 1)=some (.int (N 1)):=rfl
 have e2:∀σ:St,A1x .mul σ (.int 2) (.int sz)=some (.int (2 * sz:Nat),σ):=fun σ=>by rcases hs with rfl | rfl <;> rfl
 have e3:∀σ:St,A1x .sub σ (.int (2 * sz:Nat)) (.int 1)=some (.int (2 * sz - 1:Nat),σ):=fun σ=>by rcases hs with rfl | rfl <;> rfl
 have e4:∀σ:St,A1x .mod σ (.int (N 1)) (.int (2 * sz - 1:Nat))=some (.int (N 1 % (2 * sz - 1):Nat),σ):=fun σ=>A1Y σ _ _ (by omega)
 have e5:∀σ:St,A1x .add σ (.int 1) (.int (N 1 % (2 * sz - 1):Nat))=some (.int (1 + (N 1 % (2 * sz - 1):Nat)),σ):=fun σ=>rfl
 have hc:A0Z ((0,.list (nuL N))::hp) nx nx=(0,.list (nuL N))::hp:=by
  show (match Nat.blt 0 nx with | true=>_ | false=>_)=_
  rw [Nat.blt_eq.mpr hn]
 have l1:∀n,run fnL2 (n + 1) (.e (.loc 1)) ⟨loc,cel,(0,.list (nuL N))::hp,nx⟩=some (.v (.ref 0),⟨loc,cel,(0,.list (nuL N))::hp,nx⟩):=fun n=>by
  show bnd (nth loc 1) _=_
  rw [h1]; rfl
 have l2:∀n,run fnL2 (n + 1) (.e (.loc 2)) ⟨loc,cel,(0,.list (nuL N))::hp,nx⟩=some (.v (.int sz),⟨loc,cel,(0,.list (nuL N))::hp,nx⟩):=fun n=>by
  show bnd (nth loc 2) _=_
  rw [h2]; rfl
 refine (A3M (σ₂:=⟨lset loc 21 (.int (1 + (N 1 % (2 * sz - 1):Nat))),cel,(0,.list (nuL N))::hp,nx⟩) (A0T (v:=.int 1) (σ₁:=⟨loc,cel,(0,.list (nuL N))::hp,nx⟩) rfl (A0T (A2O (l1 _) rfl e1) (A0T (A0T (v:=.int 2) (σ₁:=⟨loc,cel,(0,.list (nuL N))::hp,nx⟩) rfl (l2 _) (e2 _)) rfl (e3 _)) (e4 _)) (e5 _)) rfl).trans ?_
 show some (R.f .next,St.mk _ _ (A0Z ((0,.list (nuL N))::hp) nx nx) nx)=_
 rw [hc]
 rfl
theorem C4H (σ:St) (N:Nat→Nat) (h1:nth σ.loc 1=some (.ref 0)) (h0:hget σ.hp 0=none) (hM:0 < A0g σ):
  run fnL2 20 (.e it25) { σ with hp:=(0,.list (nuL N))::σ.hp }=some (.v (.ref σ.nx),{ σ with hp:=(σ.nx,.list [.int (N 4 % A0g σ:Nat),.int (A0g σ - 1:Nat)])::(0,.list (nuL N))::σ.hp,nx:=σ.nx + 1 }):=by
 obtain ⟨loc,cel,hp,nx⟩:=σ
 refine e2a3 (C3n hM) fun j xs h4 hj hM'=>?_
 have hM:0 < A0g ⟨loc,cel,hp,nx⟩:=hM
 have hM':A0g ⟨loc,cel,hp,nx⟩=xs.length:=hM'
 rw [hM'] at hM ⊢
 have hj0:Nat.beq 0 j=false:=by
  cases q:Nat.beq 0 j with
  | false=>rfl
  | true=>exact A0a (h0.symm.trans (Nat.eq_of_beq_eq_true q▸hj))
 have hg:hget ((0,.list (nuL N))::hp) j=some (.list xs):=by
  show (match Nat.beq 0 j with | true=>_ | false=>hget hp j)=_
  rw [hj0]; exact hj
 have ll:∀n,run fnL2 (n + 1) (.e (.loc 1)) ⟨loc,cel,(0,.list (nuL N))::hp,nx⟩=some (.v (.ref 0),⟨loc,cel,(0,.list (nuL N))::hp,nx⟩):=fun n=>by
  show bnd (nth loc 1) _=_
  rw [show nth loc 1=_ from h1]; rfl
 have lc:∀n,run fnL2 (n + 3) (.e (.bi .len [.cel 4])) ⟨loc,cel,(0,.list (nuL N))::hp,nx⟩=some (.v (.int xs.length),⟨loc,cel,(0,.list (nuL N))::hp,nx⟩):=fun n=>
  R_bi (R_es (v:=.ref j) (σ₁:=⟨loc,cel,(0,.list (nuL N))::hp,nx⟩) (by show bnd (nth cel 4) _=_; rw [show nth cel 4=_ from h4]; rfl) rfl) (by
   show (B4C (hget ((0,.list (nuL N))::hp) j)).bind (fun xs=>some (V.int xs.length,_))=_
   rw [hg]
   rfl)
 have e4:∀σ:St,A1x .sub σ (.int xs.length) (.int 1)=some (.int (xs.length - 1:Nat),σ):=fun σ=>by
  show some (V.int ((xs.length:Int) - 1),σ)=_
  rw [show (xs.length:Int) - 1=((xs.length - 1:Nat):Int) by lia]
 exact C0X (vs:=[.int (N 4 % xs.length:Nat),.int (xs.length - 1:Nat)]) (σ₁:=⟨loc,cel,(0,.list (nuL N))::hp,nx⟩)
  (R_es (A0T (A2O (w:=.int 4) (u:=.int (N 4)) (σ₂:=⟨loc,cel,(0,.list (nuL N))::hp,nx⟩) (ll _) rfl rfl) (lc _) (A1Y _ _ _ hM)) (R_es (σ₁:=⟨loc,cel,(0,.list (nuL N))::hp,nx⟩) (A0T (lc _) rfl (e4 _)) rfl)) (Nat.le_of_ble_eq_true rfl)
end Mine
end
section
namespace Mine
open PySem PySem.W PyProof.Rows
section
variable {C:Cx} {fi:Fi} {φ φ':Nat→Addr} {X:List (Addr×Obj)} {σ σ':St} {s s':Shared} {A:Around}
structure Held (C:Cx) (fi:Fi) (φ:Nat→Addr) (N:Nat→Nat) (σ:St) (s:Shared):Prop where
 ex:∃vs k,VRs C.ρ φ 0 (nuL N) vs∧Inv C fi φ [(φ 0,A0k vs k)] σ s
theorem Held.thaw (O:OkC C) {N:Nat→Nat} (H:Held C fi φ N σ s) (hn:0 < σ.nx):Inv C fi φ [] { σ with hp:=(0,.list (nuL N))::σ.hp } s:=by
 refine e2a2 H.ex fun vs k hv I=>?_
 exact I.thaw O.H hn rfl (by simp) (A1F (A1Z _) hv) (by simp [nuL])
theorem Held.of {N:Nat→Nat} (I:Inv C fi φ [] σ s) (hg:hget σ.hp 0=some (.list (nuL N))):Held C fi φ N { σ with hp:=A0H σ.hp 0 } s:=by
 refine e2a3 (I.get hg) fun vs k g1 r1 _=>?_
 refine ⟨vs,k,A1F (A1Z _) r1,(I.freezeL hg g1).1⟩
theorem Held.go {N:Nat→Nat} {FT:List Fn} {K:Nat} (H:Hyp C FT K) (hg:A4J FT=false) {r l:List PySem.Stmt} {n k:Nat} {t:List S} {E:Value→Shared→Prop} {Q:Flow→Shared→Prop} (hr:run FT n (.ss t) σ=some (.f .next,σ')) (hR:Room A (n + K)) (ht:TrSS k fi.cx t l) (I:Held C fi φ N σ s) (hn:0 < σ.nx)
  (q:∀φ' s',Held C fi φ' N σ' s'→0 < σ'.nx→wpAny (MM C) A (execs r fi.env) Q E s'):wpAny (MM C) A (execs (l ++ r) fi.env) Q E s:=by
 refine e2a2 I.ex fun vs k0 hv I=>?_
 have nn:=B0b FT n _ _ _ _ hr
 refine B4s H hg n hr hR ht I fun φ1 s1 e1 I1=>q φ1 s1 ?_ (Nat.lt_of_lt_of_le hn nn)
 have e:φ1 0=φ 0:=e1 0 hn
 rw [←e] at I1
 exact ⟨vs,k0,A1F (A1Z _) hv,I1⟩
theorem Held.unb {N:Nat→Nat} (H:Held C fi φ N σ s) (i:Nat):Held C fi φ N { σ with loc:=lset σ.loc i .unb } s:=by
 refine e2a2 H.ex fun vs k hv I=>?_
 exact ⟨vs,k,hv,I.unb i⟩
end
section
variable {w:World} {s₀ u s:Shared} {mg mb:Str→Option Value} {zs:List Int} {W:List Addr} {A:Around} {φ:Nat→Addr} {L:Addr} {E:Value→Shared→Prop} {Q:Flow→Shared→Prop} {σA σB:St}
theorem A8t {a:Nat×Mine.O} {o:Mine.O} {r:List (Nat×Mine.O)} (h:Nat.beq a.1 0=false):A0H (a::(0,o)::r) 0=a::r:=by
 obtain ⟨j,x⟩:=a
 show (match Nat.beq j 0 with | true=>_ | false=>(j,x)::A0H ((0,o)::r) 0)=_
 rw [show Nat.beq j 0=false from h]
 rfl
theorem B1D {a:Nat×Mine.O} {o:Mine.O} {r:List (Nat×Mine.O)} (h:Nat.beq a.1 0=false):hget (a::(0,o)::r) 0=some o:=by
 obtain ⟨j,x⟩:=a
 show (match Nat.beq j 0 with | true=>_ | false=>hget ((0,o)::r) 0)=_
 rw [show Nat.beq j 0=false from h]
 rfl
theorem C0M {n:Nat} (h:0 < n):Nat.beq n 0=false:=by
 cases n with
 | zero=>cases h
 | succ n=>rfl
noncomputable def stN0 (N:Nat→Nat) (σ:St):St:={ σ with hp:=(0,.list (nuL N))::σ.hp }
noncomputable def stN1 (row:List Int) (N:Nat→Nat) (σ:St):St:={ σ with hp:=(σ.nx,.list (A0R row))::(0,.list (nuL N))::σ.hp,nx:=σ.nx + 1 }
noncomputable def stN2 (row:List Int) (N:Nat→Nat) (σ:St):St:={ σ with loc:=lset σ.loc 17 (.ref σ.nx),hp:=(σ.nx,.list (A0R row))::(0,.list (nuL N))::σ.hp,nx:=σ.nx + 1 }
theorem C3x (S:A1d w s₀ mg mb) (T:At2 w s₀ u mg mb W) (hR:Room A 610) (hrow:∀b∈A0G zs,b=0∨b=1) (hlen:(A0G zs).length=2 * szOf zs) (h1:nth σA.loc 1=some (.ref 0)) (h2:nth σA.cel 0=some (.ref 1)) (h3:hget σA.hp 1=some (.list ((A0G zs).map .int)))
  (H:Held (Cs w u mg mb zs W) (A0z w.params L) φ (NN zs) σA s) (hn:0 < σA.nx) (q:∀φ' s',Held (Cs w u mg mb zs W) (A0z w.params L) φ' (NN zs) (addP (A0G zs) σA) s'→Q .next s'):
  wpAny (MM (Cs w u mg mb zs W)) A (exec B0C (A0z w.params L).env) Q E s:=by
 have O:=ok2 (zs:=zs) S T
 have I:=H.thaw O hn
 have B:=big (hyp2 (zs:=zs) S T) rfl 10
 refine A9w (φ:=φ) (X:=[]) (σ:=(stN0 (NN zs) σA)) (σ₁:=stN1 (A0G zs) (NN zs) σA)
  (σ₂:=(stN2 (A0G zs) (NN zs) σA)) (v:=.ref σA.nx) O (B6T w.params) rfl rfl (fun E Q q'=>?_) fun φ1 s1 e1 I1=>?_
 ·
  refine Call_ ?_
  have htr:TrL (TrE 60 (A0z w.params L).cx) [.cel 0,.loc 1] [.Name "row" ⟨258,25,258,28⟩,.Name "numbers" ⟨258,30,258,37⟩]:=A6f (by kernel_rfl) (by kernel_rfl)
  rw [A0W htr]
  have hes:run fnL2 10 (.es [.cel 0,.loc 1]) (stN0 (NN zs) σA)=some (.vs [.ref 1,.ref 0],(stN0 (NN zs) σA)):=by
   exact R_es (v:=.ref 1) (σ₁:=stN0 (NN zs) σA) (by show bnd (nth σA.cel 0) _=_; rw [h2]; rfl) (R_es (v:=.ref 0) (σ₁:=stN0 (NN zs) σA) (by show bnd (nth σA.loc 1) _=_; rw [h1]; rfl) rfl)
  refine A1T I O (rv:=.ref 136) (by kernel_rfl) (by show mg _=_; rw [S.mgAt]; kernel_rfl) ?_
  refine A7y (A2N T.K (by kernel_rfl)) (B.es (X:=[]) hes (hR.le rfl) htr) I fun φ2 s2 rvs e2 I2 v2=>?_
  cases v2 with
  | cons a v2=>
  cases v2 with
  | cons b v2=>
  cases v2
  cases a with
  | ref _ _=>
  cases b with
  | ref _ _=>
  refine A9B (raw2 (zs:=zs) S T) rfl (sz:=szOf zs) (N:=NN zs) rfl hrow hlen (sz34 zs) I2 ?_ rfl (hR.le rfl) fun b s3 I3=>?_
  ·
   exact h3
  ·
   refine q' _ _ _ (e2.trans (Ext.putAt φ2 σA.nx b) (Nat.le_refl _)) I3 ?_
   have:=VR.ref (ρ:=(Cs w u mg mb zs W).ρ) (φ:=putAt φ2 σA.nx b) (n:=σA.nx + 1) σA.nx (Nat.lt_succ_self _)
   rwa [A0E] at this
 ·
  have hb:Nat.beq σA.nx 0=false:=C0M hn
  have h:=Held.of (N:=NN zs) I1 (B1D (a:=(σA.nx,.list (A0R (A0G zs)))) hb)
  rw [show A0H (stN2 (A0G zs) (NN zs) σA).hp 0=(σA.nx,Mine.O.list (A0R (A0G zs)))::σA.hp from A8t hb] at h
  exact q φ1 s1 h
theorem C3y (S:A1d w s₀ mg mb) (T:At2 w s₀ u mg mb W) (hR:Room A 610) (h1:nth σB.loc 1=some (.ref 0)) (h2:nth σB.loc 2=some (.int (szOf zs))) (H:Held (Cs w u mg mb zs W) (A0z w.params L) φ (NN zs) σB s) (hn:0 < σB.nx)
  (q:∀φ' s',Held (Cs w u mg mb zs W) (A0z w.params L) φ' (NN zs) (A1m σB (.int (1 + (NN zs 1 % (2 * szOf zs - 1):Nat)))) s'→Q .next s'):
  wpAny (MM (Cs w u mg mb zs W)) A (exec (stN (lawB w.params) 23) (A0z w.params L).env) Q E s:=by
 have O:=ok2 (zs:=zs) S T
 have I:=H.thaw O hn
 have B:=big (hyp2 (zs:=zs) S T) rfl 20
 refine B.s (X:=[]) (C4G σB (szOf zs) (NN zs) h1 h2 (sz34 zs) hn) (hR.le rfl) (tr23 w.params) φ s _ _ I fun φ1 s1 rf e1 I1 fr=>?_
 cases fr
 exact q φ1 s1 (Held.of (N:=NN zs) I1 rfl)
end
end Mine
end
section
namespace Mine
open PySem PySem.W PyProof.Rows
section
variable {w:World} {s₀ u s:Shared} {mg mb:Str→Option Value} {zs:List Int} {W:List Addr} {A:Around} {φ:Nat→Addr} {L:Addr} {E:Value→Shared→Prop} {Q:Flow→Shared→Prop} {τ:St}
noncomputable def xs25 (N:Nat→Nat) (τ:St):List V:=[.int (N 4 % A0g τ:Nat),.int (A0g τ - 1:Nat)]
noncomputable def sT (N:Nat→Nat) (τ:St):St:={ τ with hp:=(τ.nx,.list (xs25 N τ))::(0,.list (nuL N))::τ.hp,nx:=τ.nx + 1 }
theorem A9E (i:Nat) (x:O) (hp:List (Nat×O)):A0H ((i,x)::hp) i=hp:=by
 show (match Nat.beq i i with | true=>hp | false=>(i,x)::A0H hp i)=_
 rw [Nat.beq_refl]
theorem C3z (S:A1d w s₀ mg mb) (T:At2 w s₀ u mg mb W) (hR:Room A 610) (h1:nth τ.loc 1=some (.ref 0)) (h0:hget τ.hp 0=none) (hM:0 < A0g τ) (hE:∃υ σ',B4L υ (A0g τ - 1)=some (.f .next,σ')∧∀t,t < A0g τ→C0J (tau0 τ) υ t)
  (H:Held (Cs w u mg mb zs W) (A0z w.params L) φ (NN zs) τ s) (hn:0 < τ.nx) (q:∀φ' X' σ' s',Inv (Cs w u mg mb zs W) (A0z w.params L) φ' X' σ' s'→Q .next s'):
  wpAny (MM (Cs w u mg mb zs W)) A (exec (stN (lawB w.params) 25) (A0z w.params L).env) Q E s:=by
 have O:=ok2 (zs:=zs) S T
 have I:=H.thaw O hn
 have B:=big (hyp2 (zs:=zs) S T) rfl 20
 have B4:=big (hyp2 (zs:=zs) S T) rfl 400
 have hrun:run fnL2 20 (.e it25) { τ with hp:=(0,.list (nuL (NN zs)))::τ.hp }=some (.v (.ref τ.nx),sT (NN zs) τ):=C4H τ (NN zs) h1 h0 hM
 have ht:NN zs 4 % A0g τ < A0g τ:=Nat.mod_lt _ hM
 refine e2a2 hE fun υ σ' hE hT=>?_
 refine e2a3 (hT _ ht) fun σ₁ σ₂ ha hb hl=>?_
 have B3:=big (hyp2 (zs:=zs) S T) rfl 399
 rw [st25]
 refine wpAny_For ?_ (A1t (C4F w.params))
 refine (B.e (X:=[]) hrun (hR.le rfl) (C3v w.params)).then I fun φ1 s1 r1 e1 I1 v1=>?_
 cases v1 with
 | ref _ _=>
 have hg:hget (sT (NN zs) τ).hp τ.nx=some (.list (xs25 (NN zs) τ)):=A4K _ _ _
 refine e2a3 (I1.get hg) fun ws kk g1 w1 l1=>?_
 have hL:s1.heap.IsList (φ1 τ.nx) ws.toArray:=IsL.isList g1
 refine wpAny_pyIter_list hL ?_
 have J:=(I1.freezeL hg g1).1
 rw [show A0H (sT (NN zs) τ).hp τ.nx=_ from A9E _ _ _] at J
 refine e2a3 (J.get (show hget ((0,Mine.O.list (nuL (NN zs)))::τ.hp) 0=some (.list (nuL (NN zs))) from rfl)) fun ws0 k0 g0 w0 l0=>?_
 have J2:=(J.freezeL (show hget ((0,Mine.O.list (nuL (NN zs)))::τ.hp) 0=some (.list (nuL (NN zs))) from rfl) g0).1
 have J3:Inv (Cs w u mg mb zs W) (A0z w.params L) φ1 [(φ1 0,A0k ws0 k0),(φ1 τ.nx,A0k ws kk)] { τ with nx:=τ.nx + 1 } { s1 with heap:=s1.heap.push { cls:=.type "list_iterator",data:=.fields #[.ref (φ1 τ.nx),.int 0 0] } }:=
  J2.keeps O.H (fun _ _ e=>Heap.get?_push_of_some _ e) rfl rfl rfl
 have J4:=J3.less (τ:=tau0 τ) ⟨rfl,fun _ _=>A4Z,fun _ _=>A4Z,List.Sublist.refl _⟩
 have hfree:=A0e s1.heap
 have hne:φ1 τ.nx≠s1.heap.objs.size:=fun e=>by rw [e,hfree] at g1; cases g1
 have axm:φ1 τ.nx∈(A0z w.params L).ads [(φ1 0,A0k ws0 k0),(φ1 τ.nx,A0k ws kk)]:=J3.xIn (p:=(φ1 τ.nx,A0k ws kk)) (by simp)
 refine B5k O B3.toSnd2 ha hb hl (hR.le rfl) (C0L w.params) (C3w w.params) (B4.for_ hE (hR.le rfl) (C0L w.params) (C3w w.params)) φ1 _ _ s1.heap.objs.size [s1.heap.objs.size,φ1 τ.nx] [s1.heap.objs.size] ws.toArray.size _ _ 0 (A4X.list hR.handled (C0L w.params) _ (φ1 τ.nx) hne ws.toArray) ⟨⟨_,Heap.get?_push_size _ rfl,rfl,rfl⟩,hL.push _⟩ ?_ (fun j v hj hp=>?_) ⟨fun b hb=>?_,fun b hb=>?_⟩ J4 fun φ2 s3 rf e2 I2 fr=>?_
 ·
  have:=w1.length
  simp only [List.size_toArray,this]
  rfl
 ·
  have hi':j < ws.length:=by rw [w1.length]; exact hj
  have:=w1.get hj hi'
  have e3:v=ws[j]:=by
   have h5:ws.toArray[0 + j]?=some v:=hp
   rw [Nat.zero_add,List.getElem?_toArray,List.getElem?_eq_getElem hi'] at h5
   exact (Option.some.inj h5).symm
  rw [e3]; exact this
 ·
  rcases List.mem_cons.mp hb with rfl | hb
  ·
   refine ⟨?_,fun i hi e=>?_,fun hm=>?_⟩
   ·
    cases hq:(Cs w u mg mb zs W).h₀.get? s1.heap.objs.size with
    | none=>rfl
    | some o=>have:=I1.keep _ _ hq; rw [hfree] at this; cases this
   ·
    obtain ⟨o,ho⟩:=(J2.live i hi).2
    rw [e,hfree] at ho; cases ho
   ·
    obtain ⟨o,ho⟩:=J2.adLive (a:=s1.heap.objs.size) (by unfold Fi.ads; exact List.mem_append_left _ hm)
    rw [hfree] at ho; cases ho
  ·
   rw [List.mem_singleton.mp hb]
   exact ⟨(J3.off _ axm).1,(J3.off _ axm).2,fun hm=>J3.apart _ hm (by simp)⟩
 ·
  rw [List.mem_singleton.mp hb]
  intro hm
  obtain ⟨o,ho⟩:=J2.adLive hm
  rw [hfree] at ho; cases ho
 ·
  cases fr
  exact q _ _ _ _ I2
theorem C3A (S:A1d w s₀ mg mb) (T:At2 w s₀ u mg mb W) (hR:Room A 610) {X:List (Addr×Obj)} (I:Inv (Cs w u mg mb zs W) (A0z w.params L) φ X τ s) (q:∀φ' s',Inv (Cs w u mg mb zs W) (A0z w.params L) φ' X τ s'→Q (.ret (.bool true)) s'):
  wpAny (MM (Cs w u mg mb zs W)) A (exec (stN (lawB w.params) 26) (A0z w.params L).env) Q E s:=by
 have B:=big (hyp2 (zs:=zs) S T) rfl 10
 have hr:run fnL2 10 (.s (.ret (.lit (.bool true)))) τ=some (.f (.ret (.bool true)),τ):=rfl
 refine B.s (X:=X) hr (hR.le rfl) (tr26 w.params) φ s _ _ I fun φ1 s1 rf e1 I1 fr=>?_
 cases fr with
 | ret hv=>
 cases hv
 exact q φ1 s1 I1
theorem C3B (S:A1d w s₀ mg mb) (T:At2 w s₀ u mg mb W) (hR:Room A 610) (hrow:∀b∈A0G zs,b=0∨b=1) (hlen:(A0G zs).length=2 * szOf zs) (hok:A0o (szOf zs) (A1w zs) (A0G zs)=true)
  (H:Held (Cs w u mg mb zs W) (A0z w.params L) φ (NN zs) (stA (szOf zs) (A1w zs) (A0G zs)) s) (q:∀φ' X' σ' s',Inv (Cs w u mg mb zs W) (A0z w.params L) φ' X' σ' s'→Q (.ret (.bool true)) s'):
  wpAny (MM (Cs w u mg mb zs W)) A (execs ((lawB w.params).drop 6) (A0z w.params L).env) Q E s:=by
 obtain ⟨σA,σB,rA,a1,a2,a3,a4,rB,b1,b2,b3,b4,hD⟩:=B4u hok
 refine e1a5 (C0K hD) fun τ d1 d2 d3 d4 d5=>?_
 have hy:=hyp2 (zs:=zs) S T
 rw [A7b w.params 6 13]
 refine Held.go hy rfl rA (hR.le rfl) (trA w.params) H (by show 0 < 13; lia) fun φ1 s1 H1 n1=>?_
 rw [show 6 + 13=19 from rfl,C3s]
 refine wpAny_execs_cons (C3x S T hR hrow hlen a1 a2 a3 H1 n1 fun φ2 s2 H2=>?_)
 rw [A7b w.params 20 3]
 refine Held.go hy rfl rB (hR.le rfl) (trB w.params) H2 (Nat.succ_pos _) fun φ3 s3 H3 n3=>?_
 rw [show 20 + 3=23 from rfl,C3t]
 refine wpAny_execs_cons (C3y S T hR b1 b2 H3 n3 fun φ4 s4 H4=>?_)
 have hc:NN zs 1 % (2 * szOf zs - 1) < 2 * szOf zs - 1:=Nat.mod_lt _ (by rcases sz34 zs with e | e <;> lia)
 refine e1a2 (d4 _ hc) fun υ rD hυ=>?_
 rw [A7b w.params 24 1]
 refine Held.go hy rfl rD (hR.le rfl) (trD w.params) H4 n3 fun φ5 s5 H5 n5=>?_
 rw [show 24 + 1=25 from rfl,C3u]
 have H6:Held (Cs w u mg mb zs W) (A0z w.params L) φ5 (NN zs) (A1m τ .unb) s5:=by
  have:=H5.unb 21
  rw [show { υ with loc:=lset υ.loc 21 .unb }=A1m υ .unb from rfl,hυ] at this
  exact this
 have e1:A0g (A1m τ .unb)=A0g σB:=d2
 have e2:nth (A1m τ .unb).loc 1=some (.ref 0):=by
  show nth (lset τ.loc 21 .unb) 1=_
  have:∀(l:List V) (i:Nat) (v:V),nth (lset l (i + 2) v) 1=nth l 1:=fun l i v=>by
   cases l with
   | nil=>rfl
   | cons x r=>cases r <;> rfl
  rw [this τ.loc 19 .unb]; exact d1
 have n6:0 < (A1m τ .unb).nx:=by rw [←hυ]; exact n5
 refine wpAny_execs_cons (C3z S T hR e2 d3 (by rw [e1]; exact b4) (by rw [e1]; exact d5) H6 n6 fun φ7 X7 σ7 s7 I7=>?_)
 refine wpAny_execs_cons (C3A S T hR I7 fun φ8 s8 I8=>?_)
 exact q _ _ _ _ I8
end
end Mine
end
section
namespace Mine
open PySem PySem.W PyProof.Rows
theorem A7c:∀(n:Nat) (size:Int) (R:List Int) (h:Int) (m:Nat),rowA n size R h m=rowA n size R h (m % 2 ^ n)
 | 0,_,_,_,_=>rfl
 | n + 1,size,R,h,m=>by
  have e1:m % 2 ^ (n + 1) % 2=m % 2:=by rw [Nat.pow_succ,Nat.mod_mul_left_mod]
  have e2:m % 2 ^ (n + 1) / 2=m / 2 % 2 ^ n:=by rw [Nat.pow_succ,Nat.mul_comm,Nat.mod_mul_right_div_self]
  have e3:rowO (m % 2 ^ (n + 1)) size h R=rowO m size h R:=by unfold rowO; rw [e1]
  rw [A5o,A5o n size R h (m % 2 ^ (n + 1)),e3,e2,←A7c n size _ _ (m / 2)]
noncomputable def B4v:List (List Int):=[[1,0,1,0,1,0],[1,1,0,0,1,0],[1,0,1,1,0,0],[1,1,0,1,0,0],[1,1,1,0,0,0]]
noncomputable def B4w:List (List Int):=[[1,0,1,0,1,0,1,0],[1,1,0,0,1,0,1,0],[1,0,1,1,0,0,1,0],[1,1,0,1,0,0,1,0],[1,0,1,0,1,1,0,0],[1,1,0,0,1,1,0,0],[1,0,1,1,0,1,0,0],[1,1,0,1,0,1,0,0]]
theorem B4x:((List.range 64).all fun m=>B4v.contains (rowA 6 3 [] 0 m))=true:=by decide +kernel
theorem B4y:((List.range 256).all fun m=>B4w.contains (rowA 8 4 [] 0 m))=true:=by decide +kernel
theorem B6U:(B4v.all fun r=>r.length == 6 && r.all fun b=>b == 0 || b == 1)=true:=by decide +kernel
theorem B6V:(B4w.all fun r=>r.length == 8 && r.all fun b=>b == 0 || b == 1)=true:=by decide +kernel
theorem B4z (zs:List Int):(szOf zs=3∧A0G zs∈B4v)∨(szOf zs=4∧A0G zs∈B4w):=by
 rcases sz34 zs with e | e
 ·
  left
  refine ⟨e,?_⟩
  unfold A0G
  rw [e,A7c]
  have:=List.all_eq_true.mp B4x (NN zs 0 % 2 ^ (2 * 3)) (List.mem_range.mpr (Nat.mod_lt _ (by decide)))
  exact List.contains_iff_mem.mp this
 ·
  right
  refine ⟨e,?_⟩
  unfold A0G
  rw [e,A7c]
  have:=List.all_eq_true.mp B4y (NN zs 0 % 2 ^ (2 * 4)) (List.mem_range.mpr (Nat.mod_lt _ (by decide)))
  exact List.contains_iff_mem.mp this
theorem B4A (zs:List Int):(∀b∈A0G zs,b=0∨b=1)∧(A0G zs).length=2 * szOf zs:=by
 have key:∀(rows:List (List Int)) (n:Nat),(rows.all fun r=>r.length == n && r.all fun b=>b == 0 || b == 1)=true→∀r∈rows,(∀b∈r,b=0∨b=1)∧r.length=n:=fun rows n h r hr=>by
  have:=List.all_eq_true.mp h r hr
  rw [Bool.and_eq_true] at this
  refine ⟨fun b hb=>?_,beq_iff_eq.mp this.1⟩
  have:=List.all_eq_true.mp this.2 b hb
  rw [Bool.or_eq_true] at this
  exact this.imp beq_iff_eq.mp beq_iff_eq.mp
 rcases B4z zs with ⟨e,h⟩ | ⟨e,h⟩
 ·
  rw [e]; exact key B4v 6 B6U _ h
 ·
  rw [e]; exact key B4w 8 B6V _ h
noncomputable def Kinds:Prop:=(∀r∈B4v,∀t,t < 3→A0o 3 t r=true)∧∀r∈B4w,∀t,t < 4→A0o 4 t r=true
theorem C0N (KD:Kinds) (zs:List Int):A0o (szOf zs) (A1w zs) (A0G zs)=true:=by
 have ht:=A9y zs
 rcases B4z zs with ⟨e,h⟩ | ⟨e,h⟩
 ·
  rw [e] at ht ⊢; exact KD.1 _ h _ ht
 ·
  rw [e] at ht ⊢; exact KD.2 _ h _ ht
structure B8G (s₀ s':Shared):Prop where
 keep:∀b o,b≠100→s₀.heap.get? b=some o→s'.heap.get? b=some o
 tab:∃ps,s'.heap.get? 100=some (tabObj ps)
 os:s'.os=s₀.os
 gens:AllBare s'.gens
section
variable {w:World} {s₀ s:Shared} {mg mb:Str→Option Value} {l:Addr} {ol:Obj} {A:Around} {E:Value→Shared→Prop}
theorem law_run (KD:Kinds) (zs:List Int) (S:A1d w s₀ mg mb) (hl:s₀.heap.get? l=some ol) {vals:List Value} {kk:Nat} (hol:ol.cls=.type "list" ∧ ol.data=.seq vals.toArray kk) (hv:∀n,VRs (rho (szOf zs) (NN zs)) (fun _=>l) n (zs.map .int) vals) (hlen:zs.length≤5000) (hg:s₀.gens=#[]) (hR:Room A 620):
  wpAny (model PySem.Challenge.rw_uc0018_01.row.prog w) A (call (.ref 148) [.ref l]) (fun v s'=>v=.bool true∧B8G s₀ s') E s₀:=by
 have hc:A3H ol:=⟨hol.1,_,_,hol.2⟩
 have O:=ok1 (sz:=szOf zs) (N:=NN zs) S hl hc
 have X1:(KH w.params).In (Cn w s₀ mg mb zs l).h₀:=A6r S.K hl hc
 have kC:∀b o,(Cn w s₀ mg mb zs l).h₀.get? b=some o→s₀.heap.get? b=some o:=fun b o e=>of_hideAll [l] e
 have RC:RecC (Cn w s₀ mg mb zs l).h₀ 148 (A1E w.params) ["script"]:=A9n X1 (by kernel_rfl)
 refine e1a2 RC.obj fun o ho hdd=>?_
 have hloc:(A0i (A1E w.params).scope).locs[0]?=some ("script" : Str):=by kernel_rfl
 show wpAny (MM (Cn w s₀ mg mb zs l)) A _ _ _ _
 refine wpAny_call (codeAny_call_cells (A0v hR) (kC _ _ ho) hdd S.nolimit (RC.code.keeps kC) RC.body (binds:=[("script",.ref l)]) (by kernel_rfl) RC.clo (RC.cellsOk (rvs:=[.ref l])) (fun s₂ x=>?_) RC.co RC.gen RC.kind)
 have hR2:Room (A.deeper (callEnvC (A1E w.params) s₀.heap.objs.size 148)) 610:=(hR.le (m:=611) rfl).deep
 have I0:Inv (Cn w s₀ mg mb zs l) (A0z w.params s₀.heap.objs.size) (fun _=>l) [] (stL0 zs) s₂:=by
  refine enterC (ps:=["script"]) (vs:=[.ref 0]) (rvs:=[.ref l]) O.H kC RC x (.cons (.ref 0 (by decide)) .nil) (fun i hi=>⟨hideAll_none [l] (.head _),_,hl⟩) (ac (p:=fun i=>∀j∈[0],l=l→i=j) (ac (fun _=>rfl) an) an) (List.Pairwise.cons an .nil) (ac (p:=fun i=>i < 1) Nat.one_pos an) (ac ⟨vals,ol,hl,hl,⟨kk,hol⟩,hv 1,by rw [List.length_map]; exact hlen⟩ an) (fun k v h hu=>?_) (fun k v h hu=>absurd (A6z (n:=10) h) hu) ⟨#[],Array.append_empty.symm,.empty⟩ rfl rfl (fun p hp=>nomatch hp)
  cases k with
  | zero=>exact ⟨0, "script",hloc,rfl,h⟩
  | succ k=>exact absurd (A6z (n:=26) h) hu
 refine C3h zs S hl hc (hR2.le rfl) I0 fun φ1 s1 e1 I1=>?_
 rw [C4C]
 refine wpAny_execs_cons (C4E zs S hl hc (hR2.le rfl) I1 fun φ2 s2 q1 q2 t tu D1 D2 E2 e2 I2 T=>?_)
 have htt:All2 (TrT 20 (A0z w.params s₀.heap.objs.size).cx) [.cel 2,.cel 3] tgt5:=B3i (by kernel_rfl) (by kernel_rfl)
 have hpl:=A0D (env:=(A0z w.params s₀.heap.objs.size).env) htt
 refine assign_Tuple_tuple hR2.handled T.tup ?_ ?_ fun hx hex=>?_
 ·
  rw [hpl]; rfl
 ·
  rw [hpl]; rfl
 rw [hpl,List.map_map]
 let G:G2:=⟨w,s₀,s2,q1,q2,{ t with heap:=hx },mg,mb,zs,l,ol,φ2,s₀.heap.objs.size,D1,D2,S,hl,hc,I2,T.M1,T.M2,T.k1,T.k2,fun b o e=>let z:=T.k3 b o e; hex b o (Nat.ne_of_lt (Heap.lt_size z)) z⟩
 refine e2a2 (C3m G) fun vsN kN hvN I3=>?_
 have T2:At2 w s₀ { t with heap:=hx } mg mb G.W:=let z:=G.at2; ⟨z.1,z.2.1,z.2.2.1,z.2.2.2⟩
 have hF:=B4A zs
 refine A4W (C:=Cs w { t with heap:=hx } mg mb zs G.W) (ok2 (zs:=zs) S T2) htt (σ:=stB zs) (σ':=stA (szOf zs) (A1w zs) (A0G zs)) (vs:=[.ref 4,.ref 9]) rfl I3 (.cons (.ref 4 (Nat.le_of_ble_eq_true rfl)) (.cons (.ref 9 (Nat.le_of_ble_eq_true rfl)) .nil)) fun s6 I6=>?_
 refine C3B S T2 hR2 hF.1 hF.2 (C0N KD zs) ⟨vsN,kN,A1F (A1Z _) hvN,I6⟩ fun φ' X' σ' s' I'=>?_
 refine ⟨rfl,fun b o hb e=>I'.keep b o (G.keepW hb e),⟨_,I'.keep 100 _ (G.cut (G.k3 _ _ G.M2.tab) fun m=>A0a ((G.noneW m).symm.trans S.tab))⟩,?_,?_⟩
 ·
  exact I'.os.trans (T.os.trans I2.os)
 ·
  refine e1a2 I'.gens fun m1 g1 b1=>?_
  refine e1a2 I2.gens fun m2 g2 b2=>?_
  have g1:s'.gens=t.gens ++ m1:=g1
  have g2:s2.gens=s₀.gens ++ m2:=g2
  refine e1a2 T.gens fun m3 g3 b3=>?_
  rw [g1,g3,g2,hg]
  exact A0m (A0m (A0m .empty b2) b3) b1
end
end Mine
end
section
namespace Mine
theorem k3 {p:Nat→Prop} (a:p 0) (b:p 1) (c:p 2) (t:Nat) (h:t < 3):p t:=by
 cases t with
 | zero=>exact a
 | succ t=>cases t with
  | zero=>exact b
  | succ t=>cases t with
   | zero=>exact c
   | succ t=>exact absurd h (Nat.not_lt.mpr (Nat.le_add_left 3 t))
theorem k4 {p:Nat→Prop} (a:p 0) (b:p 1) (c:p 2) (d:p 3) (t:Nat) (h:t < 4):p t:=by
 cases t with
 | zero=>exact a
 | succ t=>exact k3 (p:=fun t=>p (t + 1)) b c d t (Nat.lt_of_succ_lt_succ h)
theorem B6W:A0o 3 0 [1,0,1,0,1,0]=true:=by decide +kernel
theorem B6X:A0o 3 1 [1,0,1,0,1,0]=true:=by decide +kernel
theorem B6Y:A0o 3 2 [1,0,1,0,1,0]=true:=by decide +kernel
theorem B6Z:A0o 3 0 [1,1,0,0,1,0]=true:=by decide +kernel
theorem B7a:A0o 3 1 [1,1,0,0,1,0]=true:=by decide +kernel
theorem B7b:A0o 3 2 [1,1,0,0,1,0]=true:=by decide +kernel
theorem B7c:A0o 3 0 [1,0,1,1,0,0]=true:=by decide +kernel
theorem B7d:A0o 3 1 [1,0,1,1,0,0]=true:=by decide +kernel
theorem B7e:A0o 3 2 [1,0,1,1,0,0]=true:=by decide +kernel
theorem B7f:A0o 3 0 [1,1,0,1,0,0]=true:=by decide +kernel
theorem B7g:A0o 3 1 [1,1,0,1,0,0]=true:=by decide +kernel
theorem B7h:A0o 3 2 [1,1,0,1,0,0]=true:=by decide +kernel
theorem B7i:A0o 3 0 [1,1,1,0,0,0]=true:=by decide +kernel
theorem B7j:A0o 3 1 [1,1,1,0,0,0]=true:=by decide +kernel
theorem B7k:A0o 3 2 [1,1,1,0,0,0]=true:=by decide +kernel
theorem B7l:A0o 4 0 [1,0,1,0,1,0,1,0]=true:=by decide +kernel
theorem B7m:A0o 4 1 [1,0,1,0,1,0,1,0]=true:=by decide +kernel
theorem B7n:A0o 4 2 [1,0,1,0,1,0,1,0]=true:=by decide +kernel
theorem B7o:A0o 4 3 [1,0,1,0,1,0,1,0]=true:=by decide +kernel
theorem B7p:A0o 4 0 [1,1,0,0,1,0,1,0]=true:=by decide +kernel
theorem B7q:A0o 4 1 [1,1,0,0,1,0,1,0]=true:=by decide +kernel
theorem B7r:A0o 4 2 [1,1,0,0,1,0,1,0]=true:=by decide +kernel
theorem B7s:A0o 4 3 [1,1,0,0,1,0,1,0]=true:=by decide +kernel
theorem B7t:A0o 4 0 [1,0,1,1,0,0,1,0]=true:=by decide +kernel
theorem B7u:A0o 4 1 [1,0,1,1,0,0,1,0]=true:=by decide +kernel
theorem B7v:A0o 4 2 [1,0,1,1,0,0,1,0]=true:=by decide +kernel
theorem B7w:A0o 4 3 [1,0,1,1,0,0,1,0]=true:=by decide +kernel
theorem B7x:A0o 4 0 [1,1,0,1,0,0,1,0]=true:=by decide +kernel
theorem B7y:A0o 4 1 [1,1,0,1,0,0,1,0]=true:=by decide +kernel
theorem B7z:A0o 4 2 [1,1,0,1,0,0,1,0]=true:=by decide +kernel
theorem B7A:A0o 4 3 [1,1,0,1,0,0,1,0]=true:=by decide +kernel
theorem B7B:A0o 4 0 [1,0,1,0,1,1,0,0]=true:=by decide +kernel
theorem B7C:A0o 4 1 [1,0,1,0,1,1,0,0]=true:=by decide +kernel
theorem B7D:A0o 4 2 [1,0,1,0,1,1,0,0]=true:=by decide +kernel
theorem B7E:A0o 4 3 [1,0,1,0,1,1,0,0]=true:=by decide +kernel
theorem B7F:A0o 4 0 [1,1,0,0,1,1,0,0]=true:=by decide +kernel
theorem B7G:A0o 4 1 [1,1,0,0,1,1,0,0]=true:=by decide +kernel
theorem B7H:A0o 4 2 [1,1,0,0,1,1,0,0]=true:=by decide +kernel
theorem B7I:A0o 4 3 [1,1,0,0,1,1,0,0]=true:=by decide +kernel
theorem B7J:A0o 4 0 [1,0,1,1,0,1,0,0]=true:=by decide +kernel
theorem B7K:A0o 4 1 [1,0,1,1,0,1,0,0]=true:=by decide +kernel
theorem B7L:A0o 4 2 [1,0,1,1,0,1,0,0]=true:=by decide +kernel
theorem B7M:A0o 4 3 [1,0,1,1,0,1,0,0]=true:=by decide +kernel
theorem B7N:A0o 4 0 [1,1,0,1,0,1,0,0]=true:=by decide +kernel
theorem B7O:A0o 4 1 [1,1,0,1,0,1,0,0]=true:=by decide +kernel
theorem B7P:A0o 4 2 [1,1,0,1,0,1,0,0]=true:=by decide +kernel
theorem B7Q:A0o 4 3 [1,1,0,1,0,1,0,0]=true:=by decide +kernel
theorem kinds:Kinds:=⟨(ac (k3 B6W B6X B6Y) (ac (k3 B6Z B7a B7b) (ac (k3 B7c B7d B7e) (ac (k3 B7f B7g B7h) (ac (k3 B7i B7j B7k) an))))),(ac (k4 B7l B7m B7n B7o) (ac (k4 B7p B7q B7r B7s) (ac (k4 B7t B7u B7v B7w) (ac (k4 B7x B7y B7z B7A) (ac (k4 B7B B7C B7D B7E) (ac (k4 B7F B7G B7H B7I) (ac (k4 B7J B7K B7L B7M) (ac (k4 B7N B7O B7P B7Q) an))))))))⟩
end Mine
end
section
namespace Mine
open PySem PySem.W PyProof.Rows
theorem ints_vrs {ρ:Nat→List Nat} {φ:Nat→Addr} {n:Nat}:∀{vs:List Value} {zs:List Int},IntsAre vs zs→VRs ρ φ n (zs.map .int) vs
 | _,_,.nil=>.nil
 | _,_,.cons _ _ h=>.cons (.int _ _) (ints_vrs h)
theorem start_of {w:World} {s₀ s₁:Shared} {mg mb:Str→Option Value} (T:Top A4v (looseW A4v A6d) (ExcName.means s₀.heap) mg mb s₁.heap) (K:(KK w.params).In s₁.heap) (h100:s₁.heap.get? 100=some (tabObj #[])):A1d w s₁ mg mb where
 K:=K
 tab:=h100
 g:=T.g
 b:=T.b
 nolimit:=T.nolimit
 boot:=T.builtins
 mod4:=by
  refine e2a6 T.bmain fun bm ob h1 _ h2 h3 h4 h5=>?_
  have e:mg "__builtins__" = some (.ref 4):=by
   rw [C0c K T.g (by kernel_rfl)]; kernel_rfl
  rw [e] at h1
  cases h1
  obtain ⟨c,d,dt,sl⟩:=ob
  dsimp only at h3 h4 h5
  subst h3 h4 h5
  exact ⟨sl,h2⟩
theorem old_of {w:World} {s₀ s':Shared} (K:(KK w.params).In s₀.heap) (h100:s₀.heap.get? 100=some (tabObj #[])) (L:B8G s₀ s'):OldK s₀.heap s'.heap:=by
 obtain ⟨ps,hp⟩:=L.tab
 have C:CodeHd s₀.heap 104 100:=codeHd_of_K K (by kernel_rfl)
 refine ⟨fun b o e=>?_,fun b o e=>?_⟩
 ·
  by_cases hb:b=100
  ·
   subst hb
   rw [h100] at e
   cases e
   exact .inr (.inl ⟨(C.tab h100).isCodeTable,rfl,#[],ps,rfl,by rw [Array.empty_append]; exact hp⟩)
  ·
   exact .inl (L.keep b o hb e)
 ·
  by_cases hb:b=100
  ·
   subst hb; exact ⟨_,hp⟩
  ·
   exact ⟨o,L.keep b o hb e⟩
end Mine
open PySem PySem.W PyProof.Rows
theorem Mine.foo (KD:Mine.Kinds):PySem.Challenge.rw_uc0018_01.Holds:=Mine.headH (by
 intro d kwd hdf w s₀ s₁ mg mb G Y a o pm cd doc dV kV ho hd hcd hD hmg hg args vals as hpre hlay hrd hwl hlo
 have KX:=km_in_of Y
 have KT:=km_tabs_of Y
 refine Ground.open G ?_
 intro T B D TE TW
 wrow_args hpre hlay hrd hwl hlo
 rename IntsAre _ _=>hI
 rename Heap.IsList _ _ _=>hL
 rename ¬_ < _=>hlen
 clear hd hcd hD
 have S:=Mine.start_of (w:=w) T KX (KT 100 (by simp))
 have ha:a=148:=by
  have h1:mg "law" = some (.ref 148):=by rw [S.mgAt]; kernel_rfl
  have h2:mg "law" = some (.ref a):=((congrArg mg (defOf_name hdf)).symm.trans hmg :)
  rw [h1] at h2
  cases h2; rfl
 subst ha
 obtain ⟨ol,hl,hc,n,hdat⟩:=hL
 refine wpAny_mono (Mine.law_run (E:=fun _ _=>False) KD _ S hl ⟨hc,hdat⟩ (fun n=>Mine.ints_vrs hI) (by lia) hg ⟨by decide,by decide,rfl⟩) (fun v s' h=>?_) fun _ _ h=>h.elim
 obtain ⟨rfl,L⟩:=h
 refine ⟨.inl ⟨.bool true,.bool true,[],rfl,fun _=>rfl,?_,?_,fun _=>⟨.nil,fun a ha=>nomatch ha⟩⟩,Mine.old_of KX (KT 100 (by simp)) L,L.os,L.gens⟩
 ·
  exact .bool true
 ·
  kernel_rfl)
end
theorem PySem.Challenge.cw_uc0018_01_holds : PySem.Challenge.rw_uc0018_01.Holds :=
 Mine.foo Mine.kinds
