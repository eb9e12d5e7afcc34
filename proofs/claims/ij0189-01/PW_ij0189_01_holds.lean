import PyProof.Rows.All
import Wide.All
import OpenK.AllK
import Wide.FinOn
import PyProof.AutoIntOps
import PyProof.CollectWalk
import PyProof.EnumIter
import PyProof.EqAt
import PyProof.EqKinds
import PyProof.ListIndexNeg
import PyProof.MinMaxWalk
import PyProof.NeKinds
import PyProof.RangeIter
import PyProof.SetKind
import PyProof.StrLawsChain
import PyProof.StrLawsIn
import PyProof.StrLawsLast
import PyProof.StrLawsTight
import Lean
import PySem.Challenge.RW_ij0189_01
set_option maxRecDepth 1000000
set_option maxHeartbeats 0
set_option Elab.async false
set_option linter.all false
set_option genSizeOf false
set_option genInjectivity false
set_option compiler.extract_closed false
local macro_rules | `(tactic| omega) => `(tactic| first | decide | assumption | exact Nat.le_of_lt (by assumption) | exact Nat.le_trans (by assumption) (by decide) | exact Nat.lt_of_lt_of_le (by assumption) (by decide) | exact Nat.lt_of_lt_of_le (by assumption) (by assumption) | exact Nat.le_trans (by assumption) (by assumption) | lia | omega +splitDisjunctions)
def Mine.alts (go : Nat → Lean.MacroM (Lean.TSyntax `tactic)) (n : Nat) (o : Lean.TSyntax `tactic) : Lean.MacroM (Lean.TSyntax `tactic) :=
 (List.range n).foldlM (fun o k => do
  let t ← go (k + 1)
  `(tactic| first | $t:tactic | $o:tactic)) o
def Mine.rip (p : Lean.Syntax) : Lean.TSyntax `rintroPat := ⟨.node .none `Lean.Parser.Tactic.rintroPat.one #[.node .none `Lean.Parser.Tactic.rcasesPat.paren #[.atom .none "(", p, .atom .none ")"]]⟩
def Mine.mid (s : String) (k : Nat) : Lean.Ident := Lean.mkIdent (.str (.str .anonymous "Mine") (s ++ toString k))
local macro_rules
 | `(tactic| obtain ⟨$ps,*⟩ := $e:term) => do
  let ps := ps.getElems
  let n := ps.size
  if n < 2 then Lean.Macro.throwUnsupported
  let go (f : Lean.Ident) (k : Nat) : Lean.MacroM (Lean.TSyntax `tactic) := do
   let xs : Lean.TSyntaxArray `rintroPat := (ps.extract 0 k).map fun p => Mine.rip p.raw
   let rest := ps.extract k n
   let xs ← if rest.size = 1 then pure (xs.push (Mine.rip rest[0]!.raw)) else do pure (xs.push (← `(rintroPat| ⟨$rest,*⟩)))
   if e.raw.isIdent then `(tactic| (refine $f $e ?_; (try clear $(⟨e.raw⟩):ident); rintro $xs*)) else `(tactic| (refine $f $e ?_; rintro $xs*))
  let o ← `(tactic| rcases $e:term with ⟨$ps,*⟩)
  let o ← Mine.alts (fun k => go (Mine.mid "xA" (k + 1)) k) (min (n - 1) 8) o
  Mine.alts (fun k => go (Mine.mid "xE" k) k) (min (n - 1) 9) o
 | `(tactic| rintro $xs*) => do
  match xs.back! with
  | `(rintroPat| ⟨$ps,*⟩) =>
   if ps.getElems.size < 2 then Lean.Macro.throwUnsupported
   let ys := xs.pop
   if ys.size = 0 then `(tactic| (intro h; obtain ⟨$ps,*⟩ := h))
   else `(tactic| (rintro $ys*; intro h; obtain ⟨$ps,*⟩ := h))
  | _ => Lean.Macro.throwUnsupported
 | `(tactic| exact ⟨$es,*⟩) => do
  if es.getElems.size < 3 then Lean.Macro.throwUnsupported
  `(tactic| refine ⟨$es,*⟩)
 | `(tactic| refine ⟨$es,*⟩) => do
  let es := es.getElems
  let n := es.size
  if n < 3 then Lean.Macro.throwUnsupported
  let o ← `(tactic| refine (⟨$es,*⟩))
  Mine.alts (fun k => if k = 1 then pure o else do
   let rest := es.extract k n
   let l ← if rest.size = 1 then pure rest[0]! else `(⟨$rest,*⟩)
   let xs := (es.extract 0 k).push l
   `(tactic| refine $(Mine.mid "xI" k) $xs*)) (min (n - 1) 9) o
set_option bootstrap.genMatcherCode false
universe u1 u2 u3 u4 u5 u6 u7 u8 u9
namespace Mine
theorem xE1 {fS:Sort u1}{P:fS→Prop}{Q:Prop}(h:∃ x1,P x1)(k:∀ x1,P x1→Q):Q:=h.elim fun x1 h1=>k x1 h1
theorem xI1 {fS:Sort u1}{P:fS→Prop}(x1:fS)(h:P x1):∃ x1,P x1:=⟨x1,h⟩
theorem xE2 {fS:Sort u1}{gK:Sort u2}{P:fS→gK→Prop}{Q:Prop}(h:∃ x1 x2,P x1 x2)(k:∀ x1 x2,P x1 x2→Q):Q:=h.elim fun x1 h1=>h1.elim fun x2 h2=>k x1 x2 h2
theorem xI2 {fS:Sort u1}{gK:Sort u2}{P:fS→gK→Prop}(x1:fS)(x2:gK)(h:P x1 x2):∃ x1 x2,P x1 x2:=⟨x1,x2,h⟩
theorem xE3 {fS:Sort u1}{gK:Sort u2}{iT:Sort u3}{P:fS→gK→iT→Prop}{Q:Prop}(h:∃ x1 x2 x3,P x1 x2 x3)(k:∀ x1 x2 x3,P x1 x2 x3→Q):Q:=h.elim fun x1 h1=>h1.elim fun x2 h2=>h2.elim fun x3 h3=>k x1 x2 x3 h3
theorem xI3 {fS:Sort u1}{gK:Sort u2}{iT:Sort u3}{P:fS→gK→iT→Prop}(x1:fS)(x2:gK)(x3:iT)(h:P x1 x2 x3):∃ x1 x2 x3,P x1 x2 x3:=⟨x1,x2,x3,h⟩
theorem xE4 {fS:Sort u1}{gK:Sort u2}{iT:Sort u3}{jD:Sort u4}{P:fS→gK→iT→jD→Prop}{Q:Prop}(h:∃ x1 x2 x3 x4,P x1 x2 x3 x4)(k:∀ x1 x2 x3 x4,P x1 x2 x3 x4→Q):Q:=h.elim fun x1 h1=>h1.elim fun x2 h2=>h2.elim fun x3 h3=>h3.elim fun x4 h4=>k x1 x2 x3 x4 h4
theorem xI4 {fS:Sort u1}{gK:Sort u2}{iT:Sort u3}{jD:Sort u4}{P:fS→gK→iT→jD→Prop}(x1:fS)(x2:gK)(x3:iT)(x4:jD)(h:P x1 x2 x3 x4):∃ x1 x2 x3 x4,P x1 x2 x3 x4:=⟨x1,x2,x3,x4,h⟩
theorem xE5 {fS:Sort u1}{gK:Sort u2}{iT:Sort u3}{jD:Sort u4}{lh:Sort u5}{P:fS→gK→iT→jD→lh→Prop}{Q:Prop}(h:∃ x1 x2 x3 x4 x5,P x1 x2 x3 x4 x5)(k:∀ x1 x2 x3 x4 x5,P x1 x2 x3 x4 x5→Q):Q:=h.elim fun x1 h1=>h1.elim fun x2 h2=>h2.elim fun x3 h3=>h3.elim fun x4 h4=>h4.elim fun x5 h5=>k x1 x2 x3 x4 x5 h5
theorem xI5 {fS:Sort u1}{gK:Sort u2}{iT:Sort u3}{jD:Sort u4}{lh:Sort u5}{P:fS→gK→iT→jD→lh→Prop}(x1:fS)(x2:gK)(x3:iT)(x4:jD)(x5:lh)(h:P x1 x2 x3 x4 x5):∃ x1 x2 x3 x4 x5,P x1 x2 x3 x4 x5:=⟨x1,x2,x3,x4,x5,h⟩
theorem xE6 {fS:Sort u1}{gK:Sort u2}{iT:Sort u3}{jD:Sort u4}{lh:Sort u5}{oE:Sort u6}{P:fS→gK→iT→jD→lh→oE→Prop}{Q:Prop}(h:∃ x1 x2 x3 x4 x5 x6,P x1 x2 x3 x4 x5 x6)(k:∀ x1 x2 x3 x4 x5 x6,P x1 x2 x3 x4 x5 x6→Q):Q:=h.elim fun x1 h1=>h1.elim fun x2 h2=>h2.elim fun x3 h3=>h3.elim fun x4 h4=>h4.elim fun x5 h5=>h5.elim fun x6 h6=>k x1 x2 x3 x4 x5 x6 h6
theorem xI6 {fS:Sort u1}{gK:Sort u2}{iT:Sort u3}{jD:Sort u4}{lh:Sort u5}{oE:Sort u6}{P:fS→gK→iT→jD→lh→oE→Prop}(x1:fS)(x2:gK)(x3:iT)(x4:jD)(x5:lh)(x6:oE)(h:P x1 x2 x3 x4 x5 x6):∃ x1 x2 x3 x4 x5 x6,P x1 x2 x3 x4 x5 x6:=⟨x1,x2,x3,x4,x5,x6,h⟩
theorem xE7 {fS:Sort u1}{gK:Sort u2}{iT:Sort u3}{jD:Sort u4}{lh:Sort u5}{oE:Sort u6}{sx:Sort u7}{P:fS→gK→iT→jD→lh→oE→sx→Prop}{Q:Prop}(h:∃ x1 x2 x3 x4 x5 x6 x7,P x1 x2 x3 x4 x5 x6 x7)(k:∀ x1 x2 x3 x4 x5 x6 x7,P x1 x2 x3 x4 x5 x6 x7→Q):Q:=h.elim fun x1 h1=>h1.elim fun x2 h2=>h2.elim fun x3 h3=>h3.elim fun x4 h4=>h4.elim fun x5 h5=>h5.elim fun x6 h6=>h6.elim fun x7 h7=>k x1 x2 x3 x4 x5 x6 x7 h7
theorem xI7 {fS:Sort u1}{gK:Sort u2}{iT:Sort u3}{jD:Sort u4}{lh:Sort u5}{oE:Sort u6}{sx:Sort u7}{P:fS→gK→iT→jD→lh→oE→sx→Prop}(x1:fS)(x2:gK)(x3:iT)(x4:jD)(x5:lh)(x6:oE)(x7:sx)(h:P x1 x2 x3 x4 x5 x6 x7):∃ x1 x2 x3 x4 x5 x6 x7,P x1 x2 x3 x4 x5 x6 x7:=⟨x1,x2,x3,x4,x5,x6,x7,h⟩
theorem xE8 {fS:Sort u1}{gK:Sort u2}{iT:Sort u3}{jD:Sort u4}{lh:Sort u5}{oE:Sort u6}{sx:Sort u7}{yR:Sort u8}{P:fS→gK→iT→jD→lh→oE→sx→yR→Prop}{Q:Prop}(h:∃ x1 x2 x3 x4 x5 x6 x7 x8,P x1 x2 x3 x4 x5 x6 x7 x8)(k:∀ x1 x2 x3 x4 x5 x6 x7 x8,P x1 x2 x3 x4 x5 x6 x7 x8→Q):Q:=h.elim fun x1 h1=>h1.elim fun x2 h2=>h2.elim fun x3 h3=>h3.elim fun x4 h4=>h4.elim fun x5 h5=>h5.elim fun x6 h6=>h6.elim fun x7 h7=>h7.elim fun x8 h8=>k x1 x2 x3 x4 x5 x6 x7 x8 h8
theorem xI8 {fS:Sort u1}{gK:Sort u2}{iT:Sort u3}{jD:Sort u4}{lh:Sort u5}{oE:Sort u6}{sx:Sort u7}{yR:Sort u8}{P:fS→gK→iT→jD→lh→oE→sx→yR→Prop}(x1:fS)(x2:gK)(x3:iT)(x4:jD)(x5:lh)(x6:oE)(x7:sx)(x8:yR)(h:P x1 x2 x3 x4 x5 x6 x7 x8):∃ x1 x2 x3 x4 x5 x6 x7 x8,P x1 x2 x3 x4 x5 x6 x7 x8:=⟨x1,x2,x3,x4,x5,x6,x7,x8,h⟩
theorem xE9 {fS:Sort u1}{gK:Sort u2}{iT:Sort u3}{jD:Sort u4}{lh:Sort u5}{oE:Sort u6}{sx:Sort u7}{yR:Sort u8}{IZ:Sort u9}{P:fS→gK→iT→jD→lh→oE→sx→yR→IZ→Prop}{Q:Prop}(h:∃ x1 x2 x3 x4 x5 x6 x7 x8 x9,P x1 x2 x3 x4 x5 x6 x7 x8 x9)(k:∀ x1 x2 x3 x4 x5 x6 x7 x8 x9,P x1 x2 x3 x4 x5 x6 x7 x8 x9→Q):Q:=h.elim fun x1 h1=>h1.elim fun x2 h2=>h2.elim fun x3 h3=>h3.elim fun x4 h4=>h4.elim fun x5 h5=>h5.elim fun x6 h6=>h6.elim fun x7 h7=>h7.elim fun x8 h8=>h8.elim fun x9 h9=>k x1 x2 x3 x4 x5 x6 x7 x8 x9 h9
theorem xI9 {fS:Sort u1}{gK:Sort u2}{iT:Sort u3}{jD:Sort u4}{lh:Sort u5}{oE:Sort u6}{sx:Sort u7}{yR:Sort u8}{IZ:Sort u9}{P:fS→gK→iT→jD→lh→oE→sx→yR→IZ→Prop}(x1:fS)(x2:gK)(x3:iT)(x4:jD)(x5:lh)(x6:oE)(x7:sx)(x8:yR)(x9:IZ)(h:P x1 x2 x3 x4 x5 x6 x7 x8 x9):∃ x1 x2 x3 x4 x5 x6 x7 x8 x9,P x1 x2 x3 x4 x5 x6 x7 x8 x9:=⟨x1,x2,x3,x4,x5,x6,x7,x8,x9,h⟩
theorem xA2 {A1 A2 Q:Prop}(h:A1∧A2)(k:A1→A2→Q):Q:=k h.1 h.2
theorem xA3 {A1 A2 A3 Q:Prop}(h:A1∧A2∧A3)(k:A1→A2→A3→Q):Q:=k h.1 h.2.1 h.2.2
theorem xA4 {A1 A2 A3 A4 Q:Prop}(h:A1∧A2∧A3∧A4)(k:A1→A2→A3→A4→Q):Q:=k h.1 h.2.1 h.2.2.1 h.2.2.2
theorem xA5 {A1 A2 A3 A4 A5 Q:Prop}(h:A1∧A2∧A3∧A4∧A5)(k:A1→A2→A3→A4→A5→Q):Q:=k h.1 h.2.1 h.2.2.1 h.2.2.2.1 h.2.2.2.2
theorem xA6 {A1 A2 A3 A4 A5 A6 Q:Prop}(h:A1∧A2∧A3∧A4∧A5∧A6)(k:A1→A2→A3→A4→A5→A6→Q):Q:=k h.1 h.2.1 h.2.2.1 h.2.2.2.1 h.2.2.2.2.1 h.2.2.2.2.2
theorem xA7 {A1 A2 A3 A4 A5 A6 A7 Q:Prop}(h:A1∧A2∧A3∧A4∧A5∧A6∧A7)(k:A1→A2→A3→A4→A5→A6→A7→Q):Q:=k h.1 h.2.1 h.2.2.1 h.2.2.2.1 h.2.2.2.2.1 h.2.2.2.2.2.1 h.2.2.2.2.2.2
theorem xA8 {A1 A2 A3 A4 A5 A6 A7 A8 Q:Prop}(h:A1∧A2∧A3∧A4∧A5∧A6∧A7∧A8)(k:A1→A2→A3→A4→A5→A6→A7→A8→Q):Q:=k h.1 h.2.1 h.2.2.1 h.2.2.2.1 h.2.2.2.2.1 h.2.2.2.2.2.1 h.2.2.2.2.2.2.1 h.2.2.2.2.2.2.2
theorem xA9 {A1 A2 A3 A4 A5 A6 A7 A8 A9 Q:Prop}(h:A1∧A2∧A3∧A4∧A5∧A6∧A7∧A8∧A9)(k:A1→A2→A3→A4→A5→A6→A7→A8→A9→Q):Q:=k h.1 h.2.1 h.2.2.1 h.2.2.2.1 h.2.2.2.2.1 h.2.2.2.2.2.1 h.2.2.2.2.2.2.1 h.2.2.2.2.2.2.2.1 h.2.2.2.2.2.2.2.2
end Mine
noncomputable section
open PySem PySem.W PySem.W.X PyProof.Rows
namespace Mine.Internal
abbrev WW:=World
abbrev LV:=List Value
abbrev OV:=Option Value
abbrev LN:=List Nat
abbrev ON:=Option Nat
abbrev N2:=Nat→Nat
abbrev NT:=Nat→Tok
abbrev OE:=Option (List Env)
abbrev aw:=@wpAny_bind
abbrev a5:=@List.append_assoc
abbrev aG:=@wpAny_pure
abbrev ba:=@List.mem_cons
abbrev bE:=@List.mem_cons_of_mem
abbrev cy:=@List.getElem?_eq_getElem
abbrev dv:=@List.take_succ_eq_append_getElem
abbrev bT:=@List.mem_cons_self
abbrev bU:=@List.length_map
abbrev ck:=@List.append_nil
abbrev cS:=@List.mem_append
abbrev dR:=@List.length_take
abbrev dS:=@List.length_cons
abbrev dT:=@List.filter_cons
abbrev cT:=@decide_eq_true
abbrev dU:=@decide_eq_true_eq
abbrev eU:=@List.getElem?_eq_none
abbrev c6:=@wpAny_loadPart'
abbrev dw:=@codeAny_builtin
abbrev fT:=@List.take_of_length_le
abbrev bZ:=@Nat.zero_le
theorem lr {n:Nat}:n≤n:=Nat.le_refl n
noncomputable def den:Code→Sem Fin:=PySem.W.ZFast.zw11892475500146522536 PySem.W.ZFast.tableZ
theorem jm:den=denote table:=by
 unfold den;rw[←PySem.W.ZFast.tableZ_eq,←PySem.W.ZFast.ze11892475500146522536]
noncomputable def rp:Code→Bool:=PySem.W.ZFast.zw17772548960776305114
theorem tB:rp=Code.quiet:=by unfold rp;rw[←PySem.W.ZFast.ze17772548960776305114]
noncomputable def cp:Code→Nat:=PySem.W.ZFast.zw1243936422450756474
theorem dH:cp=Code.weight:=by unfold cp;rw[←PySem.W.ZFast.ze1243936422450756474]
theorem yA {α:Type _}{β:Type _}{a a':α}{b b':β}(h:(a,b)=(a',b')):a=a'∧b=b':=Prod.mk.inj h
theorem pS {α:Type _}{β:Type _}{γ:Type _}{a a':α}{b b':β}{c c':γ}(h:(a,b,c)=(a',b',c')):a=a'∧b=b'∧c=c':=⟨(yA h).1,yA (yA h).2⟩
theorem yB {α:Type _}{β:Type _}{γ:Type _}{δ:Type _}{a a':α}{b b':β}{c c':γ}{d d':δ}(h:(a,b,c,d)=(a',b',c',d')):a=a'∧b=b'∧c=c'∧d=d':=⟨(yA h).1,pS (yA h).2⟩
theorem Na {α:Type _}{β:Type _}{γ:Type _}{δ:Type _}{ε:Type _}{a a':α}{b b':β}{c c':γ}{d d':δ}{e e':ε}(h:(a,b,c,d,e)=(a',b',c',d',e')):a=a'∧b=b'∧c=c'∧d=d'∧e=e':=⟨(yA h).1,yB (yA h).2⟩
noncomputable abbrev Ow:=List (Nat×Obj)
noncomputable def sy:Nat→Ow→Option (Nat×Obj):=
 Nat.rec (fun l=>match l with|[]=>none|p::_=>some p) (fun _ ih l=>match l with|[]=>none|_::t=>ih t)
noncomputable def tC (o:Obj):Nat→Ow→Ow:=
 Nat.rec (fun l=>match l with|[]=>[]|p::t=>(p.1,o)::t) (fun _ ih l=>match l with|[]=>[]|p::t=>p::ih t)
theorem iU:∀ {n:Nat}{l:Ow}{p:Nat×Obj},sy n l=some p→p∈l
 |0,[],_,h=>by cases h
 |0,q::t,p,h=>by cases h;exact .head _
 |n+1,[],_,h=>by cases h
 |n+1,q::t,p,h=> .tail _ (iU (n:=n) h)
theorem nJ (o:Obj):∀ (n:Nat)(l:Ow),(tC o n l).map (·.1)=l.map (·.1)
 |0,[]=>rfl
 |0,q::t=>rfl
 |n+1,[]=>rfl
 |n+1,q::t=>by
  show q.1::(tC o n t).map (·.1)=q.1::t.map (·.1);rw[nJ o n t]
theorem pT {o:Obj}:∀ {n:Nat}{l:Ow}{p q:Nat×Obj},sy n l=some q→(l.map (·.1)).Nodup→p∈tC o n l→p=(q.1,o)∨(p∈l∧p.1≠q.1)
 |0,[],_,_,h,_,_=>by cases h
 |0,x::t,p,q,h,hn,hp=>by
  cases h;rcases ba.mp hp with rfl|hp
  ·exact .inl rfl
  ·refine .inr ⟨.tail _ hp,fun e=>?_⟩
   rw[List.map_cons,List.nodup_cons] at hn;exact hn.1 (e▸List.mem_map_of_mem hp)
 |n+1,[],_,_,h,_,_=>by cases h
 |n+1,x::t,p,q,h,hn,hp=>by
  have A0:=hn;rw[List.map_cons,List.nodup_cons] at hn;rcases ba.mp hp with rfl|hp
  ·refine .inr ⟨.head _,fun e=>hn.1 (e▸List.mem_map_of_mem (iU (n:=n) h))⟩
  ·rcases pT (n:=n) h hn.2 hp with h'|h'
   ·exact .inl h'
   ·exact .inr ⟨.tail _ h'.1,h'.2⟩
inductive K where
 |base
 |bL (c:Code)
 |ret (c:Code) (k:Result→Sem Fin) (κ:K)
 |seg (c:Code) (fs:List Frame)
def Nb (f:Frame):Nat:=match f with
 |.ret _ _ _ _ c _ _=>cp c
 |.gen _ _ _ c _=>cp c
def rq:List Frame→Nat:=List.rec 0 (fun f _ ih=>Nb f+1+ih)
def K.dep:K→Nat:=K.rec 0 (fun c=>cp c+1) (fun c _ _ ih=>cp c+1+ih) (fun c fs=>rq fs+cp c+1)
noncomputable def Ba (f:Frame):Bool:=match f with
 |.ret _ none false _ _ _ _=>true
 |_=>false
noncomputable def K.envs:K→List Env:=K.rec [] (fun c=>c.envs) (fun c _ _ ih=>c.envs++ih) (fun c fs=>c.envs++envsOf (fs.map Frame.where_))
noncomputable def K.pU:K→List Env:=K.rec [] (fun _=>[]) (fun _ _ κ _=>κ.envs) (fun c fs=>c.envs++envsOf (fs.map Frame.where_))
noncomputable def BM (l:List Env)(f:OE):OE:=match f with
 |some l'=>some (l++l')
 |none=>none
noncomputable def K.ok:K→Prop
 |.base=>True
 |.bL _=>True
 |.ret _ _ κ=>κ.ok
 |.seg _ fs=>∀ f∈fs,Ba f=true
set_option genInjectivity true in
set_option genCtorIdx true in
inductive TV where
 |a (x:Nat)
 |o (x:Obj)
 |r (x:Array Value)
 |v (x:Value)
 |s (x:Str)
 |i (x:Int)
 |c (x:Code)
 |w (x:List (Nat×Obj))
 |e (x:OE)
inductive Mk where
 |eq (a b:TV)
 |tell (p:Prop)
 |need (p:Prop)
noncomputable abbrev Tr:=List Mk
noncomputable def Mk.ok:Mk→Prop
 |.eq a b=>a=b
 |.tell _=>True
 |.need _=>True
noncomputable def Mk.told:Mk→Prop
 |.eq _ _=>True
 |.tell p=>p
 |.need _=>True
noncomputable def Told (tr:Tr):Prop:=∀ m∈tr,m.told
def pV:Tr→Prop:=List.rec True fun m tr ih=>match m with
 |.need p=>(Told tr→p)∧ih
 |_=>ih
structure Tk where
 h:Nat→Int
 k:NT
 v:NT
 e:Nat
structure U where
 n:N2
 t:Nat→Tk
 l:Nat→List Value
 f:Nat→Nat→Nat
 o:Nat→Obj
structure UV where
 sz:Nat
 tk:Nat
 st:List (Code×Pos)
 u:U
 sl:Array OV
noncomputable abbrev SV:=Nat→UV
noncomputable def mZ:UV:=⟨0,0,[],⟨fun _=>0,fun _=>⟨fun _=>0,fun _=>0,fun _=>0,0⟩,fun _=>[],fun _ _=>0,fun _=>default⟩,#[]⟩
noncomputable def gL (x:UV)(f:SV):SV:=fun i=>match i with|0=>x|i+1=>f i
noncomputable def bh (g g':Array GenState):Prop:=(∀ (i:Nat)(x:GenState),g[i]?=some x→g'[i]?=some x)∧(AllBare g→AllBare g')
theorem bh.refl (g:Array GenState):bh g g:=⟨fun _ _ h=>h,fun h=>h⟩
theorem bh.trans {a b c:Array GenState}(x:bh a b)(y:bh b c):bh a c:=⟨fun i z h=>y.1 i z (x.1 i z h),fun h=>y.2 (x.2 h)⟩
structure V where
 prog:Program
 w:WW
 aa:Heap
 kt:KT
 A:Around
 fr:OE
 R:Result→Shared→Prop
 P:End→Shared→Prop
 g:Array GenState
 d:Drawn
 os:OsState
noncomputable abbrev V.M (V:V):Model:=model V.prog V.w
noncomputable def wS (o:Obj)(s:Array OV):Obj:=match o.data with
 |.dict es n=>⟨o.cls,o.dict,.dict es n,s⟩
 |_=>o
theorem sD (o:Obj):wS o o.slots=o:=by
 unfold wS;obtain⟨c,d,dt,s⟩:=o;cases dt<;>rfl
structure Rp (aa h:Heap)(L:Ow)(size:Nat):Prop where
 sz:h.objs.size=size
 keep:∀ b o,aa.get? b=some o→h.get? b=some o
 own:∀ p∈L,(∃ s,h.get? p.1=some (wS p.2 s))∧aa.objs.size≤p.1
 nd:(L.map (·.1)).Nodup
 le:aa.objs.size≤size
structure Ar (n:Nat)(A:Around):Prop where
 hd:A.handled=none
 dep:A.depth+50*n<recursionLimit
 un:A.units+300*n<cLine
theorem Ar.le {n m:Nat}{A:Around}(h:Ar n A)(q:m≤n):Ar m A:=by
 have:=h.dep;have:=h.un;exact⟨h.hd,by omega,by omega⟩
noncomputable def Fits (tr:Tr):Prop:=∀ m∈tr,m.ok
def eM (tr:Tr):Prop:=Fits tr∧pV tr
def d3 (prog:Program)(w:WW)(aa:Heap)(lv:Nat)(c:Code)(rs:Ow)(P:Result→Ow→Prop):Prop:=
 ∀ (A:Around)(R:Result→Shared→Prop)(Fr:Ow)(h:Heap)(g:Array GenState)(d:Drawn)(os:OsState)(tok size:Nat),Ar lv A→Rp aa h (rs++Fr) size→
  (∀ r L' h' g' aN aC,P r L'→bh g g'→Rp aa h' (L'++Fr) aC→R r ⟨h',g',d,aN,os⟩)→codeAny (model prog w) A c R ⟨h,g,d,tok,os⟩
def aJ (prog:Program)(w:WW)(aa:Heap)(lv:Nat)(fr:OE)(c:Code)(rs:Ow)(P:Result→Ow→Prop):Prop:=
 ∀ (A:Around)(R:Result→Shared→Prop)(Fr:Ow)(h:Heap)(g:Array GenState)(d:Drawn)(os:OsState)(tok size:Nat),Ar lv A→(∀ l,fr=some l→A.frames=some l)→Rp aa h (rs++Fr) size→
  (∀ r L' h' g' aN aC,P r L'→bh g g'→Rp aa h' (L'++Fr) aC→R r ⟨h',g',d,aN,os⟩)→codeAny (model prog w) A c R ⟨h,g,d,tok,os⟩
theorem d3.f {prog:Program}{w:WW}{aa:Heap}{lv:Nat}{fr:OE}{c:Code}{rs:Ow}{P:Result→Ow→Prop}(h:d3 prog w aa lv c rs P):aJ prog w aa lv fr c rs P:=
 fun A R Fr h' g d os tok size hA _ hD kk=>h A R Fr h' g d os tok size hA hD kk
theorem aJ.t {prog:Program}{w:WW}{aa:Heap}{lv:Nat}{c:Code}{rs:Ow}{P:Result→Ow→Prop}(h:aJ prog w aa lv none c rs P):d3 prog w aa lv c rs P:=
 fun A R Fr h' g d os tok size hA hD kk=>h A R Fr h' g d os tok size hA (fun _ z=>nomatch z) hD kk
structure BN where
 r:Result
 L:Ow
structure Ent (prog:Program)(w:WW)(aa:Heap) where
 lv:Nat
 f:Code→Ow→U→BN
 I:Code→Ow→U→Prop
 vf:Code→Ow→Tr
 quiet:∀ c rs,∀ m∈vf c rs,m.told
 pre:Option (Code→Ow→Prop):=none
 fr:Option (Code→Ow→List Env):=none
 ok:∀ c rs,Fits (vf c rs)→(∀ p,pre=some p→p c rs)→aJ prog w aa lv (fr.map fun f=>f c rs) c rs (fun r L=>∃ u,I c rs u∧f c rs u=⟨r,L⟩)
set_option genCtorIdx true in
inductive eV (prog:Program) (w:WW) (aa:Heap) where
 |b
 |o (p:Nat)
 |i
 |e
 |g
 |x
 |y
 |u (ps:LN) (e:Ent prog w aa)
 |ud (ps:LN) (e:Ent prog w aa) (nx:UV→List (eV prog w aa))
noncomputable def ol {prog:Program}{w:WW}{aa:Heap}(n:Nat)(t:List (eV prog w aa)):List (eV prog w aa):=
 Nat.rec (motive:=fun _=>Nat→List (eV prog w aa)→List (eV prog w aa)) (fun _ t=>t)
  (fun _ ih n t=>cond (Nat.beq n 0) t (cond (Nat.beq (n % 16) 15) (ih (n / 256) (.o (n / 16 % 16+8)::t))
   (ih (n / 16) (cond (Nat.ble (n % 16) 9) (.o (n % 16-1)) (cond (Nat.beq (n % 16) 10) .b (cond (Nat.beq (n % 16) 11) .i (cond (Nat.beq (n % 16) 12) .e (cond (Nat.beq (n % 16) 13) .x .y))))::t)))) 1000 n t
inductive Out where
 |fin (r:Result) (L:Ow) (size tok:Nat) (tr:Tr)
 |stop (κ:K) (c:Code) (k:Result→Sem Fin) (L:Ow) (size tok:Nat) (tr:Tr)
 |stopY (c:Code) (fs:List Frame) (c':Code) (l:LV) (k:Result→Sem Fin) (L:Ow) (size tok:Nat) (tr:Tr)
 |yield (v:Value) (l:LV) (k:Resume→Sem Fin) (c:Code) (fs:List Frame) (L:Ow) (size tok:Nat) (tr:Tr)
 |tail (c:Code) (L:Ow) (size tok:Nat) (tr:Tr)
 |turn (c:Code) (fs:List Frame) (L:Ow) (size tok:Nat) (tr:Tr)
 |d5 (κ:K) (t:Sem Fin) (L:Ow) (size tok:Nat) (tr:Tr)
 |bad (n:Nat) (a:Nat)
 |Jq (w:String)
noncomputable def ru (v:OV):Option Str:=match v with
 |some (.str q _)=>some q
 |_=>none
def jE (kt:KT)(c:Value):Option Str:=match c with
 |.ref a=>match kt.get a with
  |some o=>match o.data with
   |.fields vs=>ru vs[1]?
   |_=>none
  |none=>none
 |_=>none
noncomputable def iV:Str:=⟨#[46,60,108,111,99,97,108,115,62,46]⟩
def vn (a:Nat)(fd:FuncData)(q:Str)(args:Args):Sem Fin:=
 PySem.W.R.bindR (PySem.W.ZFast.zw9782568553167038054 fd args) fun binds=>
 PySem.W.R.bindR (PySem.W.ZFast.zw11113344188204177931 fd.scope fd.globals fd.closure binds (q++iV) (some a) fd.code none fd.builtins) fun env=>
 match fd.body with
 |.stmts b=> .pure (.again (.func b env))
 |.expr e=> .pure (.again (.expr e env))
def entryOf (kt:KT)(κ:K)(c:Code):Option (Sem Fin):=match c with
 |.call f args=>match f with
  |.ref a=>match kt.get a with
   |some o=>match o.data with
    |.func fd=>match fd.scope.isGenerator,fd.scope.isCoroutine with
     |false,false=>match jE kt fd.code with
      |some q=>match Nat.ble κ.dep 45 with
       |true=>some (vn a fd q args)
       |false=>none
      |none=>none
     |_,_=>none
    |_=>none
   |none=>none
  |_=>none
 |_=>none
noncomputable def yS:Code→Str→Str→Sem Value:=PySem.W.ZFast.zw2426001476595277715
theorem yT:yS=newGenerator:=by unfold yS;rw[←PySem.W.ZFast.ze2426001476595277715]
noncomputable def yU:Str:=⟨#[115,121,115,46,114,101,99,117,114,115,105,111,110,108,105,109,105,116]⟩
noncomputable def oF:LN→List Nat→Bool
 |[],[]=>true
 |a::l,b::m=>match Nat.beq a b with|true=>oF l m|false=>false
 |_,_=>false
theorem ky:∀ l,oF l l=true
 |[]=>rfl
 |a::l=>by
  show(match Nat.beq a a with|true=>oF l l|false=>false)=true;rw[Nat.beq_refl];exact ky l
def keyOk (v:Value):Bool:=match v with
 |.str s _=>match oF s.cps.toList yU.cps.toList with|true=>false|false=>true
 |_=>false
noncomputable def keysOk:List DictEntry→Bool
 |[]=>true
 |e::l=>match keyOk e.key with|true=>keysOk l|false=>false
def oG (o:Obj):Bool:=match o.data with
 |.dict es _=>keysOk es.toList
 |_=>false
theorem lP:∀ {l:List DictEntry},keysOk l=true→∀ e∈l,keyOk e.key=true
 |[],_,e,he=>nomatch he
 |x::l,h,e,he=>by
  have h':(match keyOk x.key with|true=>keysOk l|false=>false)=true:=h;cases hk:keyOk x.key with
  |false=>rw[hk] at h';cases h'
  |true=>
   rw[hk] at h';rcases ba.mp he with rfl|he
   ·exact hk
   ·exact lP h' e he
theorem pW {h:Heap}{o:Obj}(ho:h.get? cStatics=some o)(hb:oG o=true):h.NoLimit:=by
 obtain⟨c,d,dt,sl⟩:=o;cases dt with
 |dict es n=>
  have hk:∀ e∈es.toList,keyOk e.key=true:=lP hb;refine⟨nsFind es,⟨_,es,n,ho,rfl,fun e he=>?_,fun _=>rfl⟩,?_⟩
  ·have z:=hk e (Array.mem_def.mp he)
   unfold keyOk at z;split at z
   ·rename_i s t hv;exact⟨s,t,hv⟩
   ·cases z
  ·have hw:("sys.recursionlimit":Str)=yU:=by decide+kernel
   rw[hw];unfold nsFind findBy;rw[Option.map_eq_none_iff,Array.find?_eq_none];intro e he hv;have z:=hk e (Array.mem_def.mp he);unfold keyOk at z;split at z
   ·rename_i s t hs
    rw[hs] at hv;have Jr:(s==yU)=true:=hv;have ie:s=yU:=by simpa using Jr
    rw[ie,ky] at z;cases z
   ·cases z
 |_=>cases hb
def vo (a:Nat)(fd:FuncData)(q:Str)(args:Args):Sem Fin:=
 PySem.W.R.bindR (PySem.W.ZFast.zw9782568553167038054 fd args) fun binds=>
 PySem.W.R.bindR (PySem.W.ZFast.zw11113344188204177931 fd.scope fd.globals fd.closure binds (q++iV) (some a) fd.code none fd.builtins) fun env=>
 .load cStatics none fun o=>match oG o with
 |false=> .unsupported ""
 |true=>match fd.body with
  |.stmts b=>PySem.W.R.bindR (yS (.func b env) fd.name fd.qualname) fun v=> .pure (.done (.ret v))
  |.expr e=>PySem.W.R.bindR (yS (.expr e env) fd.name fd.qualname) fun v=> .pure (.done (.ret v))
def jF (kt:KT)(κ:K)(c:Code):Option (Sem Fin):=match c with
 |.call f args=>match f with
  |.ref a=>match kt.get a with
   |some o=>match o.data with
    |.func fd=>match fd.scope.isGenerator,fd.scope.isCoroutine with
     |true,false=>match jE kt fd.code with
      |some q=>match Nat.ble κ.dep 45 with
       |true=>some (vo a fd q args)
       |false=>none
      |none=>none
     |_,_=>none
    |_=>none
   |none=>none
  |_=>none
 |_=>none
noncomputable def nK:Nat→Ow→Option ((Nat×Obj)×Ow):=
 Nat.rec (fun l=>match l with|[]=>none|p::t=>some (p,t)) (fun _ ih l=>match l with|[]=>none|p::t=>match ih t with|some x=>some (x.1,p::x.2)|none=>none)
def pull:LN→Ow→Option (Ow×Ow):=
 List.rec (fun L=>some ([],L)) (fun p _ ih L=>match nK p L with|some x=>(match ih x.2 with|some y=>some (x.1::y.1,y.2)|none=>none)|none=>none)
theorem lQ:∀ {n:Nat}{l:Ow}{x:(Nat×Obj)×Ow},nK n l=some x→l.Perm (x.1::x.2)
 |0,[],_,h=>by cases h
 |0,q::t,x,h=>by cases h;exact List.Perm.refl _
 |n+1,[],_,h=>by cases h
 |n+1,q::t,x,h=>by
  have h':(match nK n t with|some x=>some (x.1,q::x.2)|none=>none)=some x:=h;cases e:nK n t with
  |none=>rw[e] at h';cases h'
  |some y=>
   rw[e] at h';cases h';exact((lQ e).cons q).trans (List.Perm.swap _ _ _)
theorem j8:∀ {ps:LN}{l rs rest:Ow},pull ps l=some (rs,rest)→l.Perm (rs++rest)
 |[],l,rs,rest,h=>by cases h;exact List.Perm.refl _
 |p::ps,l,rs,rest,h=>by
  have h':(match nK p l with|some x=>(match pull ps x.2 with|some y=>some (x.1::y.1,y.2)|none=>none)|none=>none)=some (rs,rest):=h;cases e:nK p l with
  |none=>rw[e] at h';cases h'
  |some x=>
   rw[e] at h';dsimp only at h';cases e2:pull ps x.2 with
   |none=>rw[e2] at h';cases h'
   |some y=>
    rw[e2] at h';cases h';exact(lQ e).trans ((j8 e2).cons x.1)
abbrev f9 (prog:Program)(w:WW)(aa:Heap):=SV→List (eV prog w aa)→K→Sem Fin→Ow→Nat→Nat→Tr→Out
section
variable {prog:Program}{w:WW}{aa:Heap}
def oH (fr:OE)(κ:K)(want:Option (Code→Ow→List Env))(c:Code)(rs:Ow)(tr:Tr):Tr:=match want with
 |none=>tr
 |some f=> .eq (.e (some (f c rs))) (.e (BM κ.pU fr))::tr
noncomputable def lj (want:Option (Code→Ow→Prop))(c:Code)(rs:Ow)(tr:Tr):Tr:=match want with
 |none=>tr
 |some p=> .need (p c rs)::tr
def I0 (lv:Nat)(fr:OE)(sv:SV)(nx:UV→List (eV prog w aa))(κ:K)(c:Code)(ps:LN)(e:Ent prog w aa)(back:SV→List (eV prog w aa)→Result→Ow→Nat→Nat→Tr→Out):Ow→Nat→Nat→Tr→Out:=
 fun L size tok tr=>match pull ps L with
 |some rr=>match Nat.ble κ.dep 45 with
  |true=>match Nat.ble e.lv lv with
   |true=>back (fun i=>sv (Nat.succ i)) (nx (sv 0)) (e.f c rr.1 (sv 0).u).r ((e.f c rr.1 (sv 0).u).L++rr.2) (sv 0).sz (sv 0).tk (.tell (e.I c rr.1 (sv 0).u)::(e.vf c rr.1++oH fr κ e.fr c rr.1 (lj e.pre c rr.1 tr)))
   |false=> .bad 41 0
  |false=> .bad 3 0
 |none=> .bad 27 0
def rx (kt:KT)(lv:Nat)(fr:OE)(j9:f9 prog w aa)(sv:SV)(or:List (eV prog w aa))(κ:K)(c:Code)(stop stopY:Out)(back:SV→List (eV prog w aa)→Result→Ow→Nat→Nat→Tr→Out):Ow→Nat→Nat→Tr→Out:=
 fun L size tok tr=>match or with
 |[]=> .bad 20 0
 |q::or=>match q with
  |.i=>j9 sv or κ (den c) L size tok tr
  |.e=>match entryOf kt κ c with
   |some t=>j9 sv or κ t L size tok tr
   |none=> .bad 21 0
  |.g=>match jF kt κ c with
   |some t=>j9 sv or κ t L size tok tr
   |none=> .bad 21 0
  |.x=>stop
  |.y=>stopY
  |.u ps e=>I0 lv fr sv (fun _=>or) κ c ps e back L size tok tr
  |.ud ps e nx=>I0 lv fr sv nx κ c ps e back L size tok tr
  |.b=> .bad 22 0
  |.o _=> .bad 22 0
noncomputable def vp (ih:List (eV prog w aa)→K→Sem Fin→Ow→Nat→Nat→Tr→Out)(or:List (eV prog w aa))(κ:K)(r:Result):Ow→Nat→Nat→Tr→Out:=
 fun L size tok tr=>match κ with
 |.base=> .fin r L size tok tr
 |.bL _=> .fin r L size tok tr
 |.ret _ k κ=>ih or κ (k r) L size tok tr
 |.seg _ fs=>match fs with
  |[]=> .fin r L size tok tr
  |f::fs=>match f with
   |.ret k _ _ _ c _ _=>ih or (.seg c fs) (k r) L size tok tr
   |.gen _ _ _ _ _=> .bad 28 0
def step (P:Setting)(kt:KT)(lv:Nat)(fr:OE)(j9:f9 prog w aa):f9 prog w aa:=fun sv or κ t L size tok tr=>match t with
 |.pure fin=>match fin with
  |.done f=>vp (j9 sv) or κ (.ok f) L size tok tr
  |.again c'=>match rp c' with
   |true=>match κ with
    |.base=> .bad 1 0
    |.bL _=>rx kt lv fr j9 sv or (.bL c') c' (.tail c' L size tok tr) (.bad 2 0) (fun _ _ _ _ _ _ _=> .bad 2 0) L size tok tr
    |.ret _ k κ=>rx kt lv fr j9 sv or (.ret c' k κ) c' (.stop κ c' k L size tok tr) (.bad 2 0) (fun sv or r=>j9 sv or κ (k r)) L size tok tr
    |.seg _ fs=>match or with
     |[]=> .bad 20 0
     |q::or=>match q with
      |.i=>j9 sv or (.seg c' fs) (den c') L size tok tr
      |.x=> .turn c' fs L size tok tr
      |_=> .bad 29 0
   |false=> .bad 4 0
 |.raise e=>vp (j9 sv) or κ (.error e) L size tok tr
 |.rule _ k=>j9 sv or κ (k ()) L size tok tr
 |.at _ k=>j9 sv or κ (k ()) L size tok tr
 |.point _ k=>j9 sv or κ (k ()) L size tok tr
 |.ask k=>j9 sv or κ (k P) L size tok tr
 |.load a _ k=>match or with
  |[]=> .bad 30 a
  |q::or=>match q with
   |.b=>match kt.get a with
    |some o=>j9 sv or κ (k o) L size tok tr
    |none=> .bad 5 a
   |.o p=>match sy p L with
    |some x=>j9 (fun i=>sv (Nat.succ i)) or κ (k (wS x.2 (sv 0).sl)) L size tok (.eq (.a a) (.a x.1)::tr)
    |none=> .bad 6 a
   |_=> .bad 31 a
 |.loadIfAlive a k=>match or with
  |[]=> .bad 30 a
  |q::or=>match q with
   |.b=>match kt.get a with
    |some o=>j9 sv or κ (k (some o)) L size tok tr
    |none=> .bad 5 a
   |.o p=>match sy p L with
    |some x=>j9 (fun i=>sv (Nat.succ i)) or κ (k (some (wS x.2 (sv 0).sl))) L size tok (.eq (.a a) (.a x.1)::tr)
    |none=> .bad 6 a
   |_=> .bad 31 a
 |.update a _ f k=>match or with
  |[]=> .bad 32 a
  |q::or=>match q with
   |.o p=>match sy p L with
    |some x=>match (f (wS x.2 (sv 0).sl)).isFreed with
     |false=>j9 (fun i=>sv (Nat.succ i)) or κ (k ()) (tC (f (wS x.2 (sv 0).sl)) p L) size tok (.eq (.a a) (.a x.1)::tr)
     |true=> .bad 7 a
    |none=> .bad 6 a
   |_=> .bad 33 a
 |.alloc o k=>match o.isFreed with
  |false=>j9 sv or κ (k size) ((size,o)::L) (Nat.succ size) tok tr
  |true=> .bad 8 0
 |.fresh k=>j9 sv or κ (k tok) L size (Nat.succ tok) tr
 |.handled own k=>match own with
  |false=>j9 sv or κ (k none) L size tok tr
  |true=> .bad 9 0
 |.call c' hd g l k=>match hd with
  |none=>match κ with
   |.seg c fs=>rx kt lv fr j9 sv or (.ret c' k κ) c' (.stop κ c' k L size tok tr) (match g with|false=> .stopY c fs c' l k L size tok tr|true=> .bad 2 1) (fun sv or r=>j9 sv or κ (k r)) L size tok tr
   |_=>rx kt lv fr j9 sv or (.ret c' k κ) c' (.stop κ c' k L size tok tr) (.bad 2 0) (fun sv or r=>j9 sv or κ (k r)) L size tok tr
  |some _=> .bad 10 0
 |.yield v g l k=>match g with
  |false=>match κ with
   |.seg c fs=> .yield v l k c fs L size tok tr
   |_=> .bad 18 0
  |true=> .bad 18 1
 |.stack k=>j9 (fun i=>sv (Nat.succ i)) or κ (k (sv 0).st) L size tok tr
 |.unsupported w=> .Jq w
 |.finish _=> .bad 11 0
 |.register _ _=> .bad 12 0
 |.choose _ _ _=> .bad 13 0
 |.os _ _ _=> .bad 14 0
 |.newGen c k=> .d5 κ (.newGen c k) L size tok tr
 |.genState _ _=> .bad 16 0
 |.resume _ _ _ _=> .bad 17 0
 |.fork _ _=> .bad 23 0
 |.thread _=> .bad 24 0
 |.await _ _ _ _ _=> .bad 25 0
def run (P:Setting)(kt:KT)(lv:Nat)(fr:OE)(n:Nat):f9 prog w aa:=
 Nat.rec (fun _ _ _ _ _ _ _ _=> .bad 40 0) (fun _ ih=>step P kt lv fr ih) n
end
structure V.Ok (V:V)(lv:Nat):Prop where
 kt:V.kt.Holds V.aa 1 0
 lim:V.aa.NoLimit
 ar:Ar (lv+1) V.A
 fr:∀ l,V.fr=some l→V.A.frames=some l
theorem V.Ok.hd {V:V}{lv:Nat}(O:V.Ok lv):V.A.handled=none:=O.ar.hd
theorem V.Ok.dep {V:V}{lv:Nat}(O:V.Ok lv):V.A.depth+50<recursionLimit:=by have:=O.ar.dep;omega
section
variable {aa h:Heap}{L:Ow}{size:Nat}
theorem Rp.alloc (D:Rp aa h L size){o:Obj}(hf:o.isFreed=false):Rp aa (h.push o) ((size,o)::L) (Nat.succ size):=by
 refine⟨by rw[Heap.size_push,D.sz],fun b o' e=>Heap.get?_push_of_some _ (D.keep b o' e),fun p hp=>?_,?_,Nat.le_succ_of_le D.le⟩
 ·rcases ba.mp hp with rfl|hp
  ·exact⟨⟨o.slots,by rw[←D.sz,sD];exact Heap.get?_push_size _ hf⟩,D.le⟩
  ·exact⟨let⟨s,hs⟩:=(D.own p hp).1;⟨s,Heap.get?_push_of_some _ hs⟩,(D.own p hp).2⟩
 ·rw[List.map_cons,List.nodup_cons]
  refine⟨fun hm=>?_,D.nd⟩;obtain⟨p,hp,he⟩:=List.mem_map.mp hm;obtain⟨s,hs⟩:=(D.own p hp).1;have z:=Heap.lt_size hs;rw[D.sz,he] at z;exact Nat.lt_irrefl _ z
theorem Rp.update (D:Rp aa h L size){n:Nat}{x:Nat×Obj}{f:Obj→Obj}{sl:Array OV}(e:sy n L=some x)(hg:h.get? x.1=some (wS x.2 sl))(hf:(f (wS x.2 sl)).isFreed=false):Rp aa (h.update x.1 f) (tC (f (wS x.2 sl)) n L) size:=by
 have hx:=D.own x (iU e);have hs:Heap.SameBut x.1 h (h.update x.1 f):=Heap.SameBut.update ..;refine⟨by rw[hs.1,D.sz],fun b o e'=>?_,fun p hp=>?_,by rw[nJ];exact D.nd,D.le⟩
 ·have lt:=Heap.lt_size e'
  exact(hs.2 b (Nat.ne_of_lt (Nat.lt_of_lt_of_le lt hx.2))).trans (D.keep b o e')
 ·rcases pT e D.nd hp with rfl|⟨hp,bq⟩
  ·exact⟨⟨(f (wS x.2 sl)).slots,by rw[sD];exact Heap.get?_update_self f hg hf⟩,hx.2⟩
  ·exact⟨let⟨s,Fd⟩:=(D.own p hp).1;⟨s,(hs.2 p.1 bq).trans Fd⟩,(D.own p hp).2⟩
theorem Rp.sub (D:Rp aa h L size){L':Ow}(s:L'.Sublist L):Rp aa h L' size:=
 ⟨D.sz,D.keep,fun p hp=>D.own p (s.subset hp),(s.map _).nodup D.nd,D.le⟩
theorem Rp.perm (D:Rp aa h L size){L':Ow}(s:L.Perm L'):Rp aa h L' size:=
 ⟨D.sz,D.keep,fun p hp=>D.own p (s.mem_iff.mpr hp),((s.map _).nodup_iff).mp D.nd,D.le⟩
def kC (L L':Ow):Prop:=L.map (·.1)=L'.map (·.1)∧∀ p'∈L',∃ p∈L,p.1=p'.1∧∀ s,wS p.2 s=wS p'.2 s
theorem Rp.same (D:Rp aa h L size){L':Ow}(e:kC L L'):Rp aa h L' size:=
 ⟨D.sz,D.keep,fun p' hp=>by
  obtain⟨p,Nc,e9,ee⟩:=e.2 p' hp;obtain⟨⟨s,hs⟩,z⟩:=D.own p Nc;exact⟨⟨s,by rw[←e9,←ee];exact hs⟩,by rw[←e9];exact z⟩,by rw[←e.1];exact D.nd,D.le⟩
theorem Rp.get (D:Rp aa h L size){a:Nat}{o:Obj}(hm:(a,o)∈L)(ho:∀ s,wS o s=o):h.get? a=some o:=by
 obtain⟨⟨s,hs⟩,_⟩:=D.own _ hm;rw[ho] at hs;exact hs
theorem kC.append {A B C:Ow}(e:kC A B):kC (A++C) (B++C):=⟨by rw[List.map_append,List.map_append,e.1],fun p' hp=>by
 rcases cS.mp hp with hp|hp
 ·obtain⟨p,h1,h2,h3⟩:=e.2 p' hp
  exact⟨p,List.mem_append_left _ h1,h2,h3⟩
 ·exact⟨p',List.mem_append_right _ hp,rfl,fun _=>rfl⟩⟩
end
noncomputable def around (A:Around):K→Around
 |.base=>A
 |.bL c=>A.under c
 |.ret c _ κ=>(around A κ).under c
 |.seg c fs=>A.over c fs
def below (A:Around):K→Around
 |.base=>A
 |.bL _=>A
 |.ret _ _ κ=>around A κ
 |.seg c fs=>A.over c fs
theorem lR:∀ {fs:List Frame},(∀ f∈fs,Ba f=true)→marksOver fs (none,none)=(none,none)
 |[],_=>rfl
 |f::fs,h=>by
  have z:=lR (fs:=fs) fun g hg=>h g (.tail _ hg);have y:=h f (.head _);show f.marks (marksOver fs (none,none))=_;rw[z];cases f with
  |gen=>cases y
  |ret _ hd gd _ _ _ _=>cases hd<;>cases gd<;>first|rfl|cases y
theorem da {A:Around}(h:A.handled=none):∀ {κ:K},κ.ok→(around A κ).handled=none
 |.base,_=>h
 |.bL _,_=>h
 |.ret _ _ κ,o=>da h (κ:=κ) o
 |.seg c fs,o=>by
  show(marksOver fs (A.handled,A.handled)).1=none;rw[h,lR o]
theorem m8 (c:Code):c.frames≤c.weight:=by unfold Code.weight;omega
theorem ei (c:Code):c.cUnits≤3*(c.weight+1):=by
 have:=m8 c;unfold Code.cUnits;split<;>omega
theorem sE:∀ fs:List Frame,frameCount (fs.map Frame.where_)≤rq fs∧unitsOf (fs.map Frame.where_)≤3*rq fs
 |[]=>⟨Nat.le_refl _,Nat.le_refl _⟩
 |f::fs=>by
  have z:=sE fs;have key:∀ (c:Code)(p:Pos),frameCount ((c,p)::fs.map Frame.where_)≤cp c+1+rq fs∧unitsOf ((c,p)::fs.map Frame.where_)≤3*(cp c+1+rq fs):=fun c p=>by
   have u:=ei c;rw[frameCount_cons,unitsOf_cons,dH];omega
  cases f with
  |ret k h g l c p kp=>exact key c p
  |gen g k l c p=>exact key c p
theorem gy {A:Around}:∀ κ,(around A κ).depth≤A.depth+κ.dep∧(around A κ).units≤A.units+3*κ.dep
 |.base=>⟨Nat.le_refl _,Nat.le_refl _⟩
 |.bL c=>by
  have u:=ei c;show A.depth+c.weight≤A.depth+(cp c+1)∧A.units+c.cUnits≤A.units+3*(cp c+1);rw[dH];omega
 |.ret c k κ=>by
  have u:=ei c;have z:=gy (A:=A) κ;show(around A κ).depth+c.weight≤A.depth+(cp c+1+κ.dep)∧(around A κ).units+c.cUnits≤A.units+3*(cp c+1+κ.dep);rw[dH];omega
 |.seg c fs=>by
  have u:=ei c;have z:=sE fs;show A.depth+frameCount (fs.map Frame.where_)+c.weight≤A.depth+(rq fs+cp c+1)∧A.units+unitsOf (fs.map Frame.where_)+c.cUnits≤A.units+3*(rq fs+cp c+1);rw[dH];omega
theorem gb {A:Around}{F:List Env}(h:A.frames=some F):∀ κ,(around A κ).frames=some (κ.envs++F)
 |.base=>h
 |.bL c=>by
  show pushEnvs c.envs A.frames=_;rw[h,pushEnvs_eq];rfl
 |.ret c k κ=>by
  show pushEnvs c.envs (around A κ).frames=some ((c.envs++κ.envs)++F);rw[gb h κ,a5,pushEnvs_eq];rfl
 |.seg c fs=>by
  show pushEnvs c.envs (pushEnvs (envsOf (fs.map Frame.where_)) A.frames)=some ((c.envs++envsOf (fs.map Frame.where_))++F);rw[h,a5,pushEnvs_eq,pushEnvs_eq];rfl
theorem oI {A:Around}{F:List Env}(h:A.frames=some F):∀ κ,(below A κ).frames=some (κ.pU++F)
 |.base=>h
 |.bL c=>h
 |.ret c k κ=>gb h κ
 |.seg c fs=>gb h (.seg c fs)
noncomputable def nM (M:Model)(B:Around)(base:Bool)(R:Result→Shared→Prop):Fin→Shared→Prop:=fun fin s=>match fin with
 |.done f=>R (.ok f) s
 |.again c'=>base=false∧s.heap.NoLimit∧c'.quiet=true∧codeAny M B c' R s
noncomputable def K.jn:K→Bool
 |.base=>true
 |_=>false
def vq (V:V)(κ:K)(R:Result→Shared→Prop)(t:Sem Fin)(s:Shared):Prop:=match κ with
 |.seg c fs=>SegX V.M V.A c t fs s V.P
 |κ=>wpAny V.M (around V.A κ) t (nM V.M (below V.A κ) κ.jn R) (fun e=>R (.error e)) s
noncomputable def gz (V:V):K→Result→Shared→Prop
 |.base=>V.R
 |.bL _=>V.R
 |.ret _ k κ=>fun r s=>vq V κ (gz V κ) (k r) s
 |.seg c fs=>fun r s=>SegX V.M V.A c (leafOf r) fs s V.P
def Go (V:V)(κ:K)(t:Sem Fin)(s:Shared):Prop:=vq V κ (gz V κ) t s
noncomputable def K.kD:K→Bool
 |.seg _ _=>true
 |_=>false
theorem fy {V:V}{κ:K}(h:κ.kD=false)(R:Result→Shared→Prop)(t:Sem Fin)(s:Shared):vq V κ R t s=wpAny V.M (around V.A κ) t (nM V.M (below V.A κ) κ.jn R) (fun e=>R (.error e)) s:=by
 cases κ<;>first|rfl|cases h
theorem ej {V:V}{κ:K}{α:Type}{m:Sem α}{k:α→Sem Fin}{s:Shared}(h:wpAny V.M (around V.A κ) m (fun a s'=>Go V κ (k a) s') (fun _ _=>False) s):Go V κ (m.bind k) s:=by
 cases hs:κ.kD with
 |false=>
  unfold Go at h ⊢;simp only[fy hs] at h ⊢;exact aw (wpAny_mono h (fun _ _ x=>x) fun _ _ x=>x.elim)
 |true=>
  cases κ with
  |seg c fs=>
   rw[Sem.bind_eq_wrap];exact s_cmd V.prog V.w V.A c fs V.P (wpAny_mono h (fun _ _ x=>x) fun _ _ x=>x.elim)
  |_=>cases hs
theorem lp {V:V}{c:Code}{s:Shared}{κ:K}(hb:κ.jn=false)(hs:κ.kD=false)(ha:around V.A κ=(below V.A κ).under c)(h:Go V κ (den c) s):codeAny V.M (below V.A κ) c (gz V κ) s:=by
 refine codeAny_of_tree ?_;unfold Go at h;rw[fy hs,ha,jm] at h;refine wpAny_mono h (fun fin s' h'=>?_) (fun _ _ h'=>h');cases fin with
 |done f=>exact h'
 |again c'=>exact h'.2.2
theorem mark_none (A:Around):A.mark none=A:=by cases A;rfl
def W (V:V):Out→Prop:=
 Out.rec (motive:=fun _=>Prop)
  (fun r L size tok tr=>eM tr∧(Told tr→∀ h g,bh V.g g→Rp V.aa h L size→V.R r ⟨h,g,V.d,tok,V.os⟩∧V.P (.ret r) ⟨h,g,V.d,tok,V.os⟩))
  (fun κ c k L size tok tr=>eM tr∧(Told tr→∀ h g,bh V.g g→κ.ok→Rp V.aa h L size→codeAny V.M (around V.A κ) c (gz V (.ret c k κ)) ⟨h,g,V.d,tok,V.os⟩))
  (fun c fs c' l k L size tok tr=>eM tr∧(Told tr→∀ h g,bh V.g g→∀ p,Rp V.aa h L size→SegX V.M V.A c' (den c') (.ret k none false l c p []::fs) ⟨h,g,V.d,tok,V.os⟩ V.P))
  (fun v l k c fs L size tok tr=>eM tr∧(Told tr→∀ h g,bh V.g g→∀ p,Rp V.aa h L size→V.P (.susp v false l k c p fs) ⟨h,g,V.d,tok,V.os⟩))
  (fun c L size tok tr=>eM tr∧(Told tr→∀ h g,bh V.g g→Rp V.aa h L size→codeAny V.M V.A c V.R ⟨h,g,V.d,tok,V.os⟩))
  (fun c fs L size tok tr=>eM tr∧(Told tr→∀ h g,bh V.g g→Rp V.aa h L size→SegX V.M V.A c (den c) fs ⟨h,g,V.d,tok,V.os⟩ V.P))
  (fun κ t L size tok tr=>eM tr∧(Told tr→∀ h g,bh V.g g→κ.ok→Rp V.aa h L size→Go V κ t ⟨h,g,V.d,tok,V.os⟩))
  (fun _ _=>False) (fun _=>False)
def Good (V:V)(κ:K)(t:Sem Fin)(L:Ow)(size tok:Nat)(tr:Tr):Prop:=
 eM tr∧(Told tr→∀ h g,bh V.g g→Rp V.aa h L size→Go V κ t ⟨h,g,V.d,tok,V.os⟩)
def IH (V:V)(ih:f9 V.prog V.w V.aa):Prop:=∀ or κ t L size tok tr,κ.ok→(∀ sv,W V (ih sv or κ t L size tok tr))→Good V κ t L size tok tr
section
variable {V:V}
theorem j' {a b:TV}{tr:Tr}(h:eM (.eq a b::tr)):eM tr∧a=b:=⟨⟨fun q hq=>h.1 q (.tail _ hq),h.2⟩,h.1 _ (.head _)⟩
theorem iW:∀ {tr yV:Tr},pV (tr++yV)→pV yV
 |[],_,h=>h
 |.eq _ _::tr,yV,h=>iW (tr:=tr) h
 |.tell _::tr,yV,h=>iW (tr:=tr) h
 |.need _::tr,yV,h=>iW (tr:=tr) (show _∧pV (tr++yV) from h).2
theorem oJ {want:Option (Code→Ow→Prop)}{c:Code}{rs:Ow}{tr:Tr}(h:eM (lj want c rs tr)):eM tr∧∀ p,want=some p→Told tr→p c rs:=by
 cases want with
 |none=>exact⟨h,fun f hf=>nomatch hf⟩
 |some f=>
  have h2:(Told tr→f c rs)∧pV tr:=h.2;exact⟨⟨fun q hq=>h.1 q (.tail _ hq),h2.2⟩,fun p hp=>by cases hp;exact h2.1⟩
theorem oK {want:Option (Code→Ow→Prop)}{c:Code}{rs:Ow}{tr:Tr}(h:Told tr):Told (lj want c rs tr):=by
 cases want with
 |none=>exact h
 |some f=>
  intro m hm;rcases ba.mp hm with rfl|hm
  ·trivial
  ·exact h m hm
theorem pX {fr:OE}{κ:K}{want:Option (Code→Ow→List Env)}{c:Code}{rs:Ow}{tr:Tr}(h:eM (oH fr κ want c rs tr)):eM tr∧∀ f,want=some f→some (f c rs)=BM κ.pU fr:=by
 cases want with
 |none=>exact⟨h,fun f hf=>nomatch hf⟩
 |some f=>
  refine⟨⟨fun q hq=>h.1 q (.tail _ hq),h.2⟩,fun f' hf=>?_⟩;cases hf;have z:TV.e (some (f c rs))=TV.e (BM κ.pU fr):=h.1 _ (.head _);injection z
theorem pY {fr:OE}{κ:K}{want:Option (Code→Ow→List Env)}{c:Code}{rs:Ow}{tr:Tr}(h:Told tr):Told (oH fr κ want c rs tr):=by
 cases want with
 |none=>exact h
 |some f=>
  intro m hm;rcases ba.mp hm with rfl|hm
  ·trivial
  ·exact h m hm
theorem vr {tr yV:Tr}{p:Prop}(h:eM (.tell p::(tr++yV))):Fits tr∧eM yV:=⟨fun q hq=>h.1 q (.tail _ (List.mem_append_left _ hq)),fun q hq=>h.1 q (.tail _ (List.mem_append_right _ hq)),iW (tr:=tr) h.2⟩
theorem oL {a b:TV}{tr:Tr}(h:Told tr):Told (.eq a b::tr):=fun m hm=>by
 rcases ba.mp hm with rfl|hm
 ·trivial
 ·exact h m hm
theorem oM {x y:Nat}(h:TV.a x=TV.a y):x=y:=by cases h;rfl
variable {lv:Nat}(O:V.Ok lv)
include O
theorem nN {h:Heap}{L:Ow}{size:Nat}(D:Rp V.aa h L size){a:Nat}{o:Obj}(e:V.kt.get a=some o):h.get? a=some o:=by
 have z:=KT.Holds.get O.kt e;rw[Nat.one_mul,Nat.add_zero] at z;exact D.keep a o z
theorem vt {h:Heap}{L:Ow}{size:Nat}(D:Rp V.aa h L size):h.NoLimit:=O.lim.keeps D.keep
theorem kF {κ:K}{c:Code}{t:Sem Fin}(e:entryOf V.kt κ c=some t)(hs:κ.kD=false){h:Heap}{g:Array GenState}{L:Ow}{size tok:Nat}(D:Rp V.aa h L size)(ha:around V.A κ=(below V.A κ).under c)
  (x:Go V κ t ⟨h,g,V.d,tok,V.os⟩):Go V κ (den c) ⟨h,g,V.d,tok,V.os⟩:=by
 unfold entryOf at e;split at e<;>try (cases e;done)
 rename_i c f args;split at e<;>try (cases e;done)
 rename_i f a;split at e<;>try (cases e;done)
 rename_i o ho;split at e<;>try (cases e;done)
 rename_i dt fd hd;split at e<;>try (cases e;done)
 rename_i b1 b2 Js Jt;split at e<;>try (cases e;done)
 rename_i q hq;split at e<;>try (cases e;done)
 rename_i hb;cases e;have i6:(around V.A κ).depth<recursionLimit:=by
  have z:κ.dep≤45:=Nat.le_of_ble_eq_true hb;have:=O.dep;have y:=gy (A:=V.A) κ;omega
 unfold jE at hq;split at hq<;>try (cases hq;done)
 rename_i cv ca yC;split at hq<;>try (cases hq;done)
 rename_i oc Ju;split at hq<;>try (cases hq;done)
 rename_i dt vs Jv;have nP:∃ tq,vs[1]?=some (.str q tq):=by
  unfold ru at hq;split at hq<;>try (cases hq;done)
  rename_i v q' tq hv;cases hq;exact⟨tq,hv⟩
 obtain⟨tq,nP⟩:=nP;have vw:h.get? a=some o:=nN O D ho;have ry:h.get? ca=some oc:=nN O D Ju;have vx:(q++iV:Str)=q++(".<locals>.":Str):=by
  have:iV=(".<locals>.":Str):=by decide+kernel
  rw[this]
 unfold Go at x ⊢;rw[fy hs] at x ⊢;rw[jm];show wpAny V.M (around V.A κ) (callAny (.ref a) args) _ _ _;simp only[callAny];refine aw (wpAny_load vw ?_);rw[hd];simp only[callFunction,Js,Jt,yC];refine aw (wpAny_field ry Jv nP ?_);refine aw (aG ?_);intro Γ p iX;have y:=x Γ p iX;unfold vn at y;rw[vx,←PySem.W.R.bindR_eq,←PySem.W.ZFast.ze9782568553167038054,←PySem.W.ZFast.ze11113344188204177931] at y;rw[yC,Sem.wp_bind] at y;rw[Sem.wp_bind'];refine Sem.wp_mono V.M Γ _ (fun binds p1 s1 y1=>?_) (fun _ _ _ h'=>h') p _ y;rw[Sem.wp_bind] at y1;rw[Sem.wp_bind'];refine Sem.wp_mono V.M Γ _ (fun env p2 s2 y2=>?_) (fun _ _ _ h'=>h') p1 _ y1;rw[Sem.wp_bind'];cases hb:fd.body with
 |stmts b=>
  rw[hb] at y2;exact Sem.wp_mono V.M Γ _ (fun _ p3 s3 y3=>y3) (fun _ _ _ h'=>h') p2 _ (wpAny_enterFrame (M:=V.M) (A:=around V.A κ) (E:=fun e=>gz V κ (.error e)) (Q:=fun _ s=>nM V.M (below V.A κ) κ.jn (gz V κ) (.again (.func b env)) s) y2.2.1 i6 y2 Γ p2 iX)
 |expr b=>
  rw[hb] at y2;exact Sem.wp_mono V.M Γ _ (fun _ p3 s3 y3=>y3) (fun _ _ _ h'=>h') p2 _ (wpAny_enterFrame (M:=V.M) (A:=around V.A κ) (E:=fun e=>gz V κ (.error e)) (Q:=fun _ s=>nM V.M (below V.A κ) κ.jn (gz V κ) (.again (.expr b env)) s) y2.2.1 i6 y2 Γ p2 iX)
omit O in
theorem vy {M:Model}{A:Around}{Γ:Ctx}{s:Shared}{E:Value→Pos→Shared→Prop}{Q:Unit→Pos→Shared→Prop}{p:Pos}(iX:Γ.In A)(hl:s.heap.NoLimit)(hd:A.depth<recursionLimit)(h:Q () p s):Sem.wp M Γ enterFrame Q E p s:=by
 obtain⟨mc,Nd,Fe⟩:=hl;have BO:=frameCount_ge ((Γ.code,p)::Γ.below);rw[frameCount_cons] at BO;have vz:=iX.2.1;have near:=not_nearTheLimit (p:=p) iX hd
 delta enterFrame currentRecursionLimit
 rw[Sem.wp_bind'];change Sem.wp M Γ (_>>=_) _ _ p s;rw[Sem.wp_bind'];change Sem.wp M Γ (_>>=_) _ _ p s;rw[Sem.wp_bind'];change Sem.wp M Γ (nsGet cStatics "sys.recursionlimit") _ _ p s;rw[Sem.wp_nsGet M Γ _ p s Nd,Fe];change Sem.wp M Γ (if nearTheLimitUnderAClaim (((Γ.code,p)::Γ.below).map (·.1)) (((((Γ.code,p)::Γ.below).map (·.1)).map (·.frames)).sum+((((Γ.code,p)::Γ.below).map (·.1)).filter Code.isCreation).length) recursionLimit=true then _ else _) _ _ p s;rw[if_neg (by rw[near];exact Bool.false_ne_true)];change Sem.wp M Γ (if((((Γ.code,p)::Γ.below).map (·.1)).map (·.frames)).sum≥recursionLimit then _ else _) _ _ p s;rw[if_neg (by omega)];change Sem.wp M Γ (if((((Γ.code,p)::Γ.below).map (·.1)).map (·.frames)).sum+((((Γ.code,p)::Γ.below).map (·.1)).filter Code.isCreation).length≥recursionLimit then _ else _) _ _ p s;rw[if_neg (by omega)];exact h
theorem oN {κ:K}{c:Code}{t:Sem Fin}(e:jF V.kt κ c=some t)(hs:κ.kD=false){h:Heap}{g:Array GenState}{L:Ow}{size tok:Nat}(D:Rp V.aa h L size)(ha:around V.A κ=(below V.A κ).under c)
  (x:Go V κ t ⟨h,g,V.d,tok,V.os⟩):Go V κ (den c) ⟨h,g,V.d,tok,V.os⟩:=by
 unfold jF at e;split at e<;>try (cases e;done)
 rename_i c f args;split at e<;>try (cases e;done)
 rename_i f a;split at e<;>try (cases e;done)
 rename_i o ho;split at e<;>try (cases e;done)
 rename_i dt fd hd;split at e<;>try (cases e;done)
 rename_i b1 b2 Js Jt;split at e<;>try (cases e;done)
 rename_i q hq;split at e<;>try (cases e;done)
 rename_i hb;cases e;have i6:(around V.A κ).depth<recursionLimit:=by
  have z:κ.dep≤45:=Nat.le_of_ble_eq_true hb;have:=O.dep;have y:=gy (A:=V.A) κ;omega
 unfold jE at hq;split at hq<;>try (cases hq;done)
 rename_i cv ca yC;split at hq<;>try (cases hq;done)
 rename_i oc Ju;split at hq<;>try (cases hq;done)
 rename_i dt vs Jv;have nP:∃ tq,vs[1]?=some (.str q tq):=by
  unfold ru at hq;split at hq<;>try (cases hq;done)
  rename_i v q' tq hv;cases hq;exact⟨tq,hv⟩
 obtain⟨tq,nP⟩:=nP;have vw:h.get? a=some o:=nN O D ho;have ry:h.get? ca=some oc:=nN O D Ju;have vx:(q++iV:Str)=q++(".<locals>.":Str):=by
  have:iV=(".<locals>.":Str):=by decide+kernel
  rw[this]
 unfold Go at x ⊢;rw[fy hs] at x ⊢;rw[jm];show wpAny V.M (around V.A κ) (callAny (.ref a) args) _ _ _;simp only[callAny];refine aw (wpAny_load vw ?_);rw[hd];simp only[callFunction,Js,Jt,yC];refine aw (wpAny_field ry Jv nP ?_);refine aw (aG ?_);intro Γ p iX;have y:=x Γ p iX;unfold vo at y;rw[vx,←PySem.W.R.bindR_eq,←PySem.W.ZFast.ze9782568553167038054,←PySem.W.ZFast.ze11113344188204177931] at y;rw[yC,Sem.wp_bind] at y;rw[Sem.wp_bind'];refine Sem.wp_mono V.M Γ _ (fun binds p1 s1 y1=>?_) (fun _ _ _ h'=>h') p _ y;rw[Sem.wp_bind] at y1;rw[Sem.wp_bind'];refine Sem.wp_mono V.M Γ _ (fun env p2 s2 y2=>?_) (fun _ _ _ h'=>h') p1 _ y1;obtain⟨o2,Bb,y3⟩:=y2;rw[yT] at y3;cases Jw:oG o2 with
 |false=>simp only[Jw] at y3;exact y3.elim
 |true=>
  simp only[Jw] at y3;have rz:s2.heap.NoLimit:=pW Bb Jw;rw[Sem.wp_bind'];refine vy iX rz i6 ?_;cases hb:fd.body with
  |stmts b=>rw[hb] at y3;exact y3
  |expr b=>rw[hb] at y3;exact y3
omit O in
theorem lS {κ:K}{c':Code}{g:Bool}{l:LV}{k:Result→Sem Fin}{s:Shared}(x:codeAny V.M (around V.A κ) c' (gz V (.ret c' k κ)) s):Go V κ (.call c' none g l k) s:=by
 refine ej (m:=.call c' none g l .pure) (k:=k) ?_;refine x_call ?_ (by intro h;cases h);rw[mark_none];exact codeAny_mono x fun r s' y=>aG y
theorem nQ {ih:f9 V.prog V.w V.aa}(I:IH V ih){nx:UV→List (eV V.prog V.w V.aa)}{ps:LN}{e:Ent V.prog V.w V.aa}{κ:K}{c:Code}{back:SV→List (eV V.prog V.w V.aa)→Result→Ow→Nat→Nat→Tr→Out}{L:Ow}{size tok:Nat}{tr:Tr}
  (ha:around V.A κ=(below V.A κ).under c) (hb:κ.jn=false) (hs:κ.kD=false) (ok:κ.ok) (I1:(below V.A κ).handled=none) (dB:(below V.A κ).depth≤(around V.A κ).depth) (uB:(below V.A κ).units≤(around V.A κ).units)
  {Z:Shared→Prop} (hZ:∀ s,codeAny V.M (below V.A κ) c (gz V κ) s→Z s)
  (h3:∀ or r L size tok tr,(∀ sv,W V (back sv or r L size tok tr))→eM tr∧(Told tr→∀ h g,bh V.g g→Rp V.aa h L size→gz V κ r ⟨h,g,V.d,tok,V.os⟩))
  (x:∀ sv,W V (I0 lv V.fr sv nx κ c ps e back L size tok tr)):eM tr∧(Told tr→∀ h g,bh V.g g→Rp V.aa h L size→Z ⟨h,g,V.d,tok,V.os⟩):=by
 have s0:SV:=fun _=>mZ;unfold I0 at x;cases hr:pull ps L with
 |none=>rw[hr] at x;exact(x s0).elim
 |some rr=>
  rw[hr] at x;dsimp only at x;cases hd:Nat.ble κ.dep 45 with
  |false=>rw[hd] at x;exact(x s0).elim
  |true=>
   rw[hd] at x;dsimp only at x;cases hl:Nat.ble e.lv lv with
   |false=>rw[hl] at x;exact(x s0).elim
   |true=>
    rw[hl] at x;have z:=fun u:UV=>h3 (nx u) (e.f c rr.1 u.u).r ((e.f c rr.1 u.u).L++rr.2) u.sz u.tk (.tell (e.I c rr.1 u.u)::(e.vf c rr.1++oH V.fr κ e.fr c rr.1 (lj e.pre c rr.1 tr))) fun Nf=>x (gL u Nf);have f:=vr (z mZ).1;have fg:=pX f.2;have fp:=oJ fg.1;have ff:=(⟨fp.1,fg.2⟩:eM tr∧_);refine⟨ff.1,fun T h g G D=>hZ _ ?_⟩;have dd:κ.dep≤45:=Nat.le_of_ble_eq_true hd;have ll:e.lv≤lv:=Nat.le_of_ble_eq_true hl;have al:=gy (A:=V.A) κ;have q1:=O.ar.dep;have q2:=O.ar.un;refine e.ok c rr.1 f.1 (fun p hp=>fp.2 p hp T) (below V.A κ) (gz V κ) rr.2 h g V.d V.os tok size ⟨I1,by omega,by omega⟩ (fun l hl=>?_) (D.perm (j8 hr)) ?_
    ·cases hw:e.fr with
     |none=>rw[hw] at hl;cases hl
     |some fw=>
      rw[hw] at hl;have yE:fw c rr.1=l:=by injection hl
      have z:=ff.2 fw hw;cases hv:V.fr with
      |none=>rw[hv] at z;cases z
      |some F=>
       rw[hv] at z;have z':fw c rr.1=κ.pU++F:=by injection z
       rw[←yE,z'];exact oI (O.fr F hv) κ
    intro r L' h' g' aN aC hP G' D';obtain⟨u,hI,he⟩:=hP;have y:=(z ⟨aC,aN,[],u,#[]⟩).2 ?_ h' g' (G.trans G')
    ·simp only[gL,he] at y
     exact y D'
    ·intro m hm
     rcases ba.mp hm with rfl|hm
     ·exact hI
     ·rcases cS.mp hm with hm|hm
      ·exact e.quiet c rr.1 m hm
      ·exact pY (oK T) m hm
theorem jo {ih:f9 V.prog V.w V.aa}(I:IH V ih){or:List (eV V.prog V.w V.aa)}{κ:K}{c:Code}{stop stopY:SV→Out}{back:SV→List (eV V.prog V.w V.aa)→Result→Ow→Nat→Nat→Tr→Out}{L:Ow}{size tok:Nat}{tr:Tr}
  (ha:around V.A κ=(below V.A κ).under c) (hb:κ.jn=false) (hs:κ.kD=false) (ok:κ.ok) (I1:(below V.A κ).handled=none) (dB:(below V.A κ).depth≤(around V.A κ).depth) (uB:(below V.A κ).units≤(around V.A κ).units)
  {Z:Shared→Prop} (hZ:∀ s,codeAny V.M (below V.A κ) c (gz V κ) s→Z s)
  (h1:(∀ sv,W V (stop sv))→eM tr∧(Told tr→∀ h g,bh V.g g→Rp V.aa h L size→Z ⟨h,g,V.d,tok,V.os⟩))
  (h2:(∀ sv,W V (stopY sv))→eM tr∧(Told tr→∀ h g,bh V.g g→Rp V.aa h L size→Z ⟨h,g,V.d,tok,V.os⟩))
  (h3:∀ or r L size tok tr,(∀ sv,W V (back sv or r L size tok tr))→eM tr∧(Told tr→∀ h g,bh V.g g→Rp V.aa h L size→gz V κ r ⟨h,g,V.d,tok,V.os⟩))
  (x:∀ sv,W V (rx V.kt lv V.fr ih sv or κ c (stop sv) (stopY sv) back L size tok tr)):eM tr∧(Told tr→∀ h g,bh V.g g→Rp V.aa h L size→Z ⟨h,g,V.d,tok,V.os⟩):=by
 have s0:SV:=fun _=>mZ;unfold rx at x;cases or with
 |nil=>exact(x s0).elim
 |cons q or=>
  cases q with
  |b=>exact(x s0).elim
  |o p=>exact(x s0).elim
  |i=>
   have z:=I _ _ _ _ _ _ _ ok x;exact⟨z.1,fun T h g G D=>hZ _ (lp hb hs ha (z.2 T h g G D))⟩
  |e=>
   dsimp only at x;cases e:entryOf V.kt κ c with
   |none=>rw[e] at x;exact(x s0).elim
   |some t=>
    rw[e] at x;have z:=I _ _ _ _ _ _ _ ok x;exact⟨z.1,fun T h g G D=>hZ _ (lp hb hs ha (kF O e hs D ha (z.2 T h g G D)))⟩
  |g=>
   dsimp only at x;cases e:jF V.kt κ c with
   |none=>rw[e] at x;exact(x s0).elim
   |some t=>
    rw[e] at x;have z:=I _ _ _ _ _ _ _ ok x;exact⟨z.1,fun T h g G D=>hZ _ (lp hb hs ha (oN O e hs D ha (z.2 T h g G D)))⟩
  |x=>exact h1 x
  |y=>exact h2 x
  |u ps e=>exact nQ O I ha hb hs ok I1 dB uB hZ h3 x
  |ud ps e nx=>exact nQ O I ha hb hs ok I1 dB uB hZ h3 x
theorem kG {ih:f9 V.prog V.w V.aa}(I:IH V ih){or:List (eV V.prog V.w V.aa)}{κ:K}{t:Sem Fin}{r:Result}{L:Ow}{size tok:Nat}{tr:Tr}(ok:κ.ok)(ht:t=leafOf r)(x:∀ sv,W V (vp (ih sv) or κ r L size tok tr)):
  Good V κ t L size tok tr:=by
 have vB:∀ {κ:K}{s:Shared},κ.kD=false→gz V κ r s→Go V κ t s:=fun {κ s} hs y=>by
  subst ht;unfold Go;rw[fy hs];cases r with
  |ok f=>exact aG y
  |error e=>exact wpAny_throw y
 cases κ with
 |base=>
  have z:=x (fun _=>mZ);exact⟨z.1,fun T h g G D=>vB rfl (z.2 T h g G D).1⟩
 |bL c=>
  have z:=x (fun _=>mZ);exact⟨z.1,fun T h g G D=>vB rfl (z.2 T h g G D).1⟩
 |ret c k κ=>
  have z:=I or κ (k r) L size tok tr ok x;exact⟨z.1,fun T h g G D=>vB rfl (z.2 T h g G D)⟩
 |seg c fs=>
  cases fs with
  |nil=>
   have z:=x (fun _=>mZ);exact⟨z.1,fun T h g G D=>s_end V.prog V.w V.A c V.P _ r t ht (z.2 T h g G D).2⟩
  |cons f fs=>
   cases f with
   |gen=>exact(x (fun _=>mZ)).elim
   |ret k hd g l c₁ Jx kp=>
    have z:=I or (.seg c₁ fs) (k r) L size tok tr (fun f hf=>ok f (.tail _ hf)) x;exact⟨z.1,fun T h gs G D=>s_pop V.prog V.w V.A c fs V.P _ r t ht k hd g l c₁ Jx kp (z.2 T h gs G D)⟩
theorem lq {ih:f9 V.prog V.w V.aa}(I:IH V ih){or:List (eV V.prog V.w V.aa)}{κ:K}{c':Code}{g:Bool}{l:LV}{k:Result→Sem Fin}{stopY:Out}{L:Ow}{size tok:Nat}{tr:Tr}(ok:κ.ok)
  (h2:W V stopY→eM tr∧(Told tr→∀ h gs,bh V.g gs→Rp V.aa h L size→Go V κ (.call c' none g l k) ⟨h,gs,V.d,tok,V.os⟩))
  (x:∀ sv,W V (rx V.kt lv V.fr ih sv or (.ret c' k κ) c' (.stop κ c' k L size tok tr) stopY (fun sv or r=>ih sv or κ (k r)) L size tok tr)):
  Good V κ (.call c' none g l k) L size tok tr:=by
 have hh:=da O.hd ok;refine jo O I (κ:=.ret c' k κ) rfl rfl rfl ok hh (Nat.le_add_right _ _) (Nat.le_add_right _ _) (Z:=fun s=>Go V κ (.call c' none g l k) s) (fun s y=>lS y) ?_ ?_ ?_ x
 ·intro y
  have z:=y (fun _=>mZ);exact⟨z.1,fun T h gs G D=>lS (z.2 T h gs G ok D)⟩
 ·intro y
  exact h2 (y (fun _=>mZ))
 ·intro or v L size tok tr y
  exact I _ _ _ _ _ _ _ ok y
theorem step_sound {ih:f9 V.prog V.w V.aa}(I:IH V ih):IH V (step ⟨V.prog,V.w.params⟩ V.kt lv V.fr ih):=by
 intro or κ t L size tok tr ok x;have s0:SV:=fun _=>mZ;cases t with
 |pure fin=>
  cases fin with
  |done f=>exact kG O I ok rfl x
  |again c'=>
   delta step at x;dsimp only at x
   split at x
   ·rename_i hq
    rw[tB] at hq;cases κ with
    |base=>exact(x s0).elim
    |bL c=>
     have key:=jo O I (κ:=.bL c') rfl rfl rfl trivial O.hd (Nat.le_add_right _ _) (Nat.le_add_right _ _) (Z:=fun s=>codeAny V.M V.A c' V.R s) (fun s y=>y) (stop:=fun _=> .tail c' L size tok tr) (stopY:=fun _=> .bad 2 0) (back:=fun _ _ _ _ _ _ _=> .bad 2 0)
      (fun y=>y s0) (fun y=>(y s0).elim) (fun _ _ _ _ _ _ y=>(y s0).elim) x
     exact⟨key.1,fun T h gs G D=>aG ⟨rfl,vt O D,hq,key.2 T h gs G D⟩⟩
    |ret c k κ=>
     have hh:=da O.hd (κ:=κ) ok;have key:=jo O I (κ:=.ret c' k κ) rfl rfl rfl ok hh (Nat.le_add_right _ _) (Nat.le_add_right _ _) (Z:=fun s=>codeAny V.M (around V.A κ) c' (gz V (.ret c' k κ)) s) (fun s y=>y) (stop:=fun _=> .stop κ c' k L size tok tr) (stopY:=fun _=> .bad 2 0) (back:=fun sv or r=>ih sv or κ (k r))
      (fun y=>⟨(y s0).1,fun T h gs G D=>(y s0).2 T h gs G ok D⟩) (fun y=>(y s0).elim) (fun or v L size tok tr y=>I _ _ _ _ _ _ _ ok y) x
     exact⟨key.1,fun T h gs G D=>aG ⟨rfl,vt O D,hq,key.2 T h gs G D⟩⟩
    |seg c fs=>
     cases or with
     |nil=>exact(x s0).elim
     |cons q or=>
      cases q with
      |i=>
       have z:=I _ (.seg c' fs) _ _ _ _ _ ok x;refine⟨z.1,fun T h gs G D=>s_again V.prog V.w V.A c fs V.P _ c' hq ?_⟩;have:=z.2 T h gs G D;rw[jm] at this;exact this
      |x=>
       have z:=x s0;refine⟨z.1,fun T h gs G D=>s_again V.prog V.w V.A c fs V.P _ c' hq ?_⟩;have:=z.2 T h gs G D;rw[jm] at this;exact this
      |_=>exact(x s0).elim
   ·exact(x s0).elim
 |raise e=>exact kG O I ok rfl x
 |rule tag k=>have z:=I _ _ _ _ _ _ _ ok x;exact⟨z.1,fun T h gs G D=>ej (m:=rule tag) (k:=k) (wpAny_rule (z.2 T h gs G D))⟩
 |«at» q k=>have z:=I _ _ _ _ _ _ _ ok x;exact⟨z.1,fun T h gs G D=>ej (m:=standAt q) (k:=k) (wpAny_standAt (z.2 T h gs G D))⟩
 |point l k=>have z:=I _ _ _ _ _ _ _ ok x;exact⟨z.1,fun T h gs G D=>ej (m:=.point l .pure) (k:=k) (x_point (aG (z.2 T h gs G D)))⟩
 |ask k=>have z:=I _ _ _ _ _ _ _ ok x;exact⟨z.1,fun T h gs G D=>ej (m:=ask) (k:=k) (wpAny_askSetting (z.2 T h gs G D))⟩
 |load a q k=>
  delta step at x;dsimp only at x
  split at x
  ·exact(x s0).elim
  ·split at x
   ·split at x
    ·rename_i o e
     have z:=I _ _ _ _ _ _ _ ok x;exact⟨z.1,fun T h gs G D=>ej (m:=loadPart a q) (k:=k) (wpAny_loadPart (nN O D e) (z.2 T h gs G D))⟩
    ·exact(x s0).elim
   ·split at x
    ·rename_i p y e
     have z:∀ sl,Good V κ (k (wS y.2 sl)) L size tok (.eq (.a a) (.a y.1)::tr):=fun sl=>I _ _ _ _ _ _ _ ok fun sv=>x (gL ⟨0,0,[],mZ.u,sl⟩ sv);have f:=j' (z #[]).1;refine⟨f.1,fun T h gs G D=>?_⟩;obtain⟨sl,ie⟩:=(D.own y (iU e)).1;exact ej (m:=loadPart a q) (k:=k) (wpAny_loadPart (by rw[oM f.2];exact ie) ((z sl).2 (oL T) h gs G D))
    ·exact(x s0).elim
   ·exact(x s0).elim
 |loadIfAlive a k=>
  have key:∀ {h:Heap}{o:Obj}{s:Shared},s.heap=h→h.get? a=some o→Go V κ (k (some o)) s→Go V κ (.loadIfAlive a k) s:=fun {h o s} hs e w=>by
   refine ej (m:=.loadIfAlive a .pure) (k:=k) ?_;intro Γ p iX;rw[Sem.wp_loadIfAlive,hs,e];exact w
  delta step at x;dsimp only at x
  split at x
  ·exact(x s0).elim
  ·split at x
   ·split at x
    ·rename_i o e
     have z:=I _ _ _ _ _ _ _ ok x;exact⟨z.1,fun T h gs G D=>key rfl (nN O D e) (z.2 T h gs G D)⟩
    ·exact(x s0).elim
   ·split at x
    ·rename_i p y e
     have z:∀ sl,Good V κ (k (some (wS y.2 sl))) L size tok (.eq (.a a) (.a y.1)::tr):=fun sl=>I _ _ _ _ _ _ _ ok fun sv=>x (gL ⟨0,0,[],mZ.u,sl⟩ sv);have f:=j' (z #[]).1;refine⟨f.1,fun T h gs G D=>?_⟩;obtain⟨sl,ie⟩:=(D.own y (iU e)).1;exact key rfl (by rw[oM f.2];exact ie) ((z sl).2 (oL T) h gs G D)
    ·exact(x s0).elim
   ·exact(x s0).elim
 |update a q f k=>
  delta step at x;dsimp only at x
  split at x
  ·exact(x s0).elim
  ·split at x
   ·split at x
    ·rename_i or' q' p o' y e
     have z:∀ sl,(f (wS y.2 sl)).isFreed=false∧Good V κ (k ()) (tC (f (wS y.2 sl)) p L) size tok (.eq (.a a) (.a y.1)::tr):=fun sl=>by
      cases iY:(f (wS y.2 sl)).isFreed with
      |true=>
       have y':=x (gL ⟨0,0,[],mZ.u,sl⟩ s0);simp only[gL,iY] at y';exact y'.elim
      |false=>
       refine⟨rfl,I or' κ (k ()) _ size tok _ ok fun sv=>?_⟩;have y':=x (gL ⟨0,0,[],mZ.u,sl⟩ sv);simp only[gL,iY] at y';exact y'
     have fn:=j' (z #[]).2.1;have ea:a=y.1:=oM fn.2;refine⟨fn.1,fun T h gs G D=>?_⟩;obtain⟨sl,ie⟩:=(D.own y (iU e)).1;refine ej (m:=updatePart a q f) (k:=k) (wpAny_updatePart (o:=wS y.2 sl) (by rw[ea];exact ie) ?_);rw[ea];exact(z sl).2.2 (oL T) _ gs G (D.update e ie (z sl).1)
    ·exact(x s0).elim
   ·exact(x s0).elim
 |alloc o k=>
  delta step at x;dsimp only at x
  split at x
  ·rename_i hf
   have z:=I _ _ _ _ _ _ _ ok x;refine⟨z.1,fun T h gs G D=>ej (m:=alloc o) (k:=k) (wpAny_alloc ?_)⟩;have w:=z.2 T _ gs G (D.alloc hf);show Go V κ (k h.objs.size) _;rw[D.sz];exact w
  ·exact(x s0).elim
 |fresh k=>have z:=I _ _ _ _ _ _ _ ok x;exact⟨z.1,fun T h gs G D=>ej (m:=fresh) (k:=k) (wpAny_fresh (z.2 T h gs G D))⟩
 |handled own k=>
  cases own with
  |false=>
   have z:=I _ _ _ _ _ _ _ ok x;exact⟨z.1,fun T h gs G D=>ej (m:=handled) (k:=k) (wpAny_handled (by rw[da O.hd ok];exact z.2 T h gs G D))⟩
  |true=>exact(x s0).elim
 |call c' hd g l k=>
  cases hd with
  |some _=>exact(x s0).elim
  |none=>
   cases κ with
   |seg c fs=>
    refine lq O I ok ?_ x;cases g with
    |true=>exact fun y=>y.elim
    |false=>
     intro y;refine⟨y.1,fun T h gs G D=>s_call V.prog V.w V.A c fs V.P _ c' none false l k fun p=>?_⟩;have:=y.2 T h gs G p D;rw[jm] at this;exact this
   |base=>exact lq O I ok (stopY:=.bad 2 0) (fun y=>y.elim) x
   |bL c=>exact lq O I ok (stopY:=.bad 2 0) (fun y=>y.elim) x
   |ret c k κ=>exact lq O I ok (stopY:=.bad 2 0) (fun y=>y.elim) x
 |yield v g l k=>
  cases g with
  |true=>exact(x s0).elim
  |false=>
   cases κ with
   |seg c fs=>
    have z:=x s0;refine⟨z.1,fun T h gs G D=>s_yield V.prog V.w V.A c fs V.P _ v l k ?_ ?_ fun p=>z.2 T h gs G p D⟩
    ·have:∀ {fs:List Frame},(∀ f∈fs,Ba f=true)→splitAtGen fs=none:=by
      intro fs
      induction fs with
      |nil=>intro _;rfl
      |cons f fs Ng=>
       intro hf;have y:=hf f (.head _);cases f with
       |gen=>cases y
       |ret=>simp only[splitAtGen,Ng (fun g hg=>hf g (.tail _ hg)),Option.map_none]
     exact this ok
    ·refine List.any_eq_false.mpr fun f hf=>?_
     have y:=ok f hf;cases f with
     |gen=>cases y
     |ret k h g l c p kp=>
      cases h with
      |some _=>cases y
      |none=>cases g with
       |true=>cases y
       |false=>exact Bool.false_ne_true
   |base=>exact(x s0).elim
   |bL=>exact(x s0).elim
   |ret=>exact(x s0).elim
 |stack k=>
  have z:∀ st,Good V κ (k st) L size tok tr:=fun st=>I or κ (k st) L size tok tr ok fun sv=>x (gL ⟨0,0,st,mZ.u,#[]⟩ sv);refine⟨(z []).1,fun T h gs G D=>ej (m:=.stack .pure) (k:=k) ?_⟩;intro Γ p iX;rw[Sem.wp_stack];exact(z _).2 T h gs G D
 |unsupported=>exact(x s0).elim
 |finish=>exact(x s0).elim
 |register=>exact(x s0).elim
 |choose=>exact(x s0).elim
 |os=>exact(x s0).elim
 |newGen c k=>exact⟨(x s0).1,fun T h gs G D=>(x s0).2 T h gs G ok D⟩
 |genState=>exact(x s0).elim
 |resume=>exact(x s0).elim
 |fork=>exact(x s0).elim
 |thread=>exact(x s0).elim
 |await=>exact(x s0).elim
theorem cL:∀ n,IH V (run ⟨V.prog,V.w.params⟩ V.kt lv V.fr n)
 |0=>fun _ _ _ _ _ _ _ _ x=>(x (fun _=>mZ)).elim
 |n+1=>step_sound O (cL n)
end
noncomputable def ij:Tr→List TV:=List.rec [] fun m _ ih=>match m with|.eq a _=>a::ih|.tell _=>ih|.need _=> .i 0::ih
noncomputable def ik:Tr→List TV:=List.rec [] fun m _ ih=>match m with|.eq _ b=>b::ih|.tell _=>ih|.need _=> .i 1::ih
noncomputable def Jy:Tr→List Prop:=List.rec [] fun m _ ih=>match m with|.eq _ _=>ih|.tell p=>p::ih|.need _=>ih
noncomputable def Out.tr:Out→Tr
 |.fin _ _ _ _ tr=>tr
 |.stop _ _ _ _ _ _ tr=>tr
 |.stopY _ _ _ _ _ _ _ _ tr=>tr
 |.yield _ _ _ _ _ _ _ _ tr=>tr
 |.tail _ _ _ _ tr=>tr
 |.turn _ _ _ _ _ tr=>tr
 |.d5 _ _ _ _ _ tr=>tr
 |_=>[]
noncomputable def Out.kind:Out→Nat
 |.fin _ _ _ _ _=>1
 |.stop κ _ _ _ _ _ _=>match Nat.ble κ.dep 45 with|true=>2|false=>0
 |.stopY _ _ _ _ _ _ _ _ _=>3
 |.yield _ _ _ _ _ _ _ _ _=>4
 |.tail _ _ _ _ _=>5
 |.turn _ _ _ _ _ _=>6
 |.d5 κ _ _ _ _ _=>match Nat.ble κ.dep 45 with|true=>8|false=>0
 |_=>0
theorem nS {b:Bool}{m n:Nat}(h:(match b with|true=>m|false=>0)=n):b=true∧m=n∨n=0:=by
 cases b
 ·exact .inr h.symm
 ·exact .inl ⟨rfl,h⟩
noncomputable def Out.res:Out→Result
 |.fin r _ _ _ _=>r
 |_=> .ok .next
noncomputable def Out.own:Out→Ow
 |.fin _ L _ _ _=>L
 |.stop _ _ _ L _ _ _=>L
 |.stopY _ _ _ _ _ L _ _ _=>L
 |.yield _ _ _ _ _ L _ _ _=>L
 |.tail _ L _ _ _=>L
 |.turn _ _ L _ _ _=>L
 |.d5 _ _ L _ _ _=>L
 |_=>[]
noncomputable def Out.c8:Out→K
 |.stop κ _ _ _ _ _ _=>κ
 |.d5 κ _ _ _ _ _=>κ
 |_=> .base
noncomputable def Out.code:Out→Code
 |.stop _ c _ _ _ _ _=>c
 |.stopY _ _ c _ _ _ _ _ _=>c
 |.yield _ _ _ c _ _ _ _ _=>c
 |.tail c _ _ _ _=>c
 |.turn c _ _ _ _ _=>c
 |_=>default
noncomputable def Out.k:Out→Result→Sem Fin
 |.stop _ _ k _ _ _ _=>k
 |.stopY _ _ _ _ k _ _ _ _=>k
 |_=>leafOf
noncomputable def Out.gk:Out→Nat→Sem Fin
 |.d5 _ t _ _ _ _=>match t with
  |.newGen _ k=>k
  |_=>fun _=>leafOf (.ok .next)
 |_=>fun _=>leafOf (.ok .next)
noncomputable def Out.Jz:Out→Bool
 |.d5 _ t _ _ _ _=>match t with
  |.newGen _ _=>true
  |_=>false
 |_=>false
noncomputable def Out.gc:Out→Code
 |.d5 _ t _ _ _ _=>match t with
  |.newGen c _=>c
  |_=>default
 |_=>default
noncomputable def Out.kr:Out→Resume→Sem Fin
 |.yield _ _ k _ _ _ _ _ _=>k
 |_=>fun _=>leafOf (.ok .next)
noncomputable def Out.val:Out→Value
 |.yield v _ _ _ _ _ _ _ _=>v
 |_=> .none
noncomputable def Out.hold:Out→List Value
 |.stopY _ _ _ l _ _ _ _ _=>l
 |.yield _ l _ _ _ _ _ _ _=>l
 |_=>[]
noncomputable def Out.MG:Out→List Frame
 |.stopY _ fs _ _ _ _ _ _ _=>fs
 |.turn _ fs _ _ _ _=>fs
 |.yield _ _ _ _ fs _ _ _ _=>fs
 |_=>[]
theorem bt:∀ {tr:Tr},ij tr=ik tr→eM tr
 |[],_=>⟨fun _ hp=>(nomatch hp),trivial⟩
 |.eq a b::tr,h=>by
  have h':a::ij tr=b::ik tr:=h;simp only[List.cons.injEq] at h';have z:=bt h'.2;refine⟨fun p hp=>?_,z.2⟩;rcases ba.mp hp with rfl|hp
  ·exact h'.1
  ·exact z.1 p hp
 |.tell q::tr,h=>by
  have z:=bt (tr:=tr) h;refine⟨fun p hp=>?_,z.2⟩;rcases ba.mp hp with rfl|hp
  ·trivial
  ·exact z.1 p hp
 |.need q::tr,h=>by
  have h':TV.i 0::ij tr=TV.i 1::ik tr:=h;simp at h'
noncomputable def All (l:List Prop):Prop:=∀ p∈l,p
theorem jG:∀ {tr:Tr},Told tr→All (Jy tr)
 |[],_,p,hp=>nomatch hp
 |.need _::tr,h,p,hp=>jG (tr:=tr) (fun m hm=>h m (.tail _ hm)) p hp
 |.eq a b::tr,h,p,hp=>jG (tr:=tr) (fun m hm=>h m (.tail _ hm)) p hp
 |.tell q::tr,h,p,hp=>by
  rcases ba.mp (show p∈q::Jy tr from hp) with rfl|hp
  ·exact h _ (.head _)
  ·exact jG (tr:=tr) (fun m hm=>h m (.tail _ hm)) p hp
theorem Ar.around {n:Nat}{A:Around}(h:Ar (n+1) A){κ:K}(ok:κ.ok)(d:κ.dep≤45):Ar n (around A κ):=by
 have z:=gy (A:=A) κ;have:=h.dep;have:=h.un;exact⟨da h.hd ok,by omega,by omega⟩
structure Base (w:WW)(aa:Heap)(kt:KT):Prop where
 kt:kt.Holds aa 1 0
 lim:aa.NoLimit
section
variable {w:WW}{aa:Heap}{kt:KT}
def startT (kt:KT)(c:Code):Sem Fin:=match entryOf kt (.bL c) c with
 |some t=>t
 |none=>den c
theorem fA {V:V}{lv:Nat}(O:V.Ok lv){c:Code}{h:Heap}{g:Array GenState}{L:Ow}{size tok:Nat}(D:Rp V.aa h L size)(x:Go V (.bL c) (startT V.kt c) ⟨h,g,V.d,tok,V.os⟩):
  codeAny V.M V.A c V.R ⟨h,g,V.d,tok,V.os⟩:=by
 refine lp (V:=V) (κ:=.bL c) rfl rfl rfl ?_;unfold startT at x;split at x
 ·rename_i t e
  exact kF O e rfl D rfl x
 ·exact x
noncomputable def aT:Nat→Ow→Ow:=Nat.rec (fun _=>[]) (fun _ ih l=>match l with|[]=>[]|p::t=>p::ih t)
noncomputable def aR:Nat→Ow→Ow:=Nat.rec (fun l=>l) (fun _ ih l=>match l with|[]=>[]|_::t=>ih t)
theorem take_drop:∀ (k:Nat)(l:Ow),aT k l++aR k l=l
 |0,_=>rfl
 |k+1,[]=>rfl
 |k+1,p::t=>by
  show p::(aT k t++aR k t)=p::t;rw[take_drop k t]
def runC (prog:Program)(w:WW)(aa:Heap)(kt:KT)(lv n:Nat)(or:List (eV prog w aa))(c:Code)(L:Ow)(x:SV×Nat×Nat):Out:=
 run (aa:=aa) ⟨prog,w.params⟩ kt lv none n x.1 or (.bL c) (startT kt c) L x.2.1 x.2.2 []
theorem d3.mono {prog:Program}{lv rj:Nat}{c:Code}{rs:Ow}{P P':Result→Ow→Prop}(h:d3 prog w aa lv c rs P)(hl:lv≤rj)(hP:∀ r L,P r L→P' r L):d3 prog w aa rj c rs P':=
 fun A R Fr h' g d os tok size hA hD kk=>h A R Fr h' g d os tok size (hA.le hl) hD fun r L' h' g' t s p G D=>kk r L' h' g' t s (hP r L' p) G D
end
noncomputable def nV (v:Value):Value:=match v with
 |.str s _=> .str s 0
 |.int i _=> .int i 0
 |v=>v
noncomputable def aZ (t:Tok)(v:Value):Value:=match v with
 |.str s _=> .str s t
 |.int i _=> .int i t
 |v=>v
def pZ:LV→List Value:=List.rec [] fun v _ ih=>nV v::ih
def c7 (t:NT):LV→Nat→List Value:=List.rec (fun _=>[]) fun v _ ih i=>aZ (t i) v::ih (Nat.succ i)
def BP:List DictEntry→List DictEntry:=List.rec [] fun e _ ih=>⟨0,nV e.key,nV e.val⟩::ih
def jH (x:Tk):List DictEntry→Nat→List DictEntry:=List.rec (fun _=>[]) fun e _ ih i=>⟨x.h i,aZ (x.k i) e.key,aZ (x.v i) e.val⟩::ih (Nat.succ i)
noncomputable def yW (o:Obj):Array OV:=match o.data with
 |.dict _ _=>#[]
 |_=>o.slots
def nO (o:Obj):Obj:=⟨o.cls,o.dict,match o.data with
 |.seq xs _=> .seq ⟨pZ xs.toList⟩ 0
 |.dict es _=> .dict ⟨BP es.toList⟩ 0
 |.fields xs=> .fields ⟨pZ xs.toList⟩
 |.cell v=> .cell (match v with|some v=>some (nV v)|none=>none)
 |d=>d,yW o⟩
def bg (x:Tk)(o:Obj):Obj:=⟨o.cls,o.dict,match o.data with
 |.seq xs _=> .seq ⟨c7 x.v xs.toList 0⟩ x.e
 |.dict es _=> .dict ⟨jH x es.toList 0⟩ x.e
 |.fields xs=> .fields ⟨c7 x.v xs.toList 0⟩
 |.cell v=> .cell (match v with|some v=>some (aZ (x.v 0) v)|none=>none)
 |d=>d,o.slots⟩
theorem p6 (v:Value):∃ t,aZ t (nV v)=v:=by
 cases v with
 |str s t=>exact⟨t,rfl⟩
 |int s t=>exact⟨t,rfl⟩
 |_=>exact⟨0,rfl⟩
theorem jI:∀ (l:LV)(n:Nat),∃ t,c7 t (pZ l) n=l
 |[],_=>⟨fun _=>0,rfl⟩
 |v::l,n=>by
  obtain⟨t,ht⟩:=jI l (n+1);obtain⟨u,hu⟩:=p6 v;have key:∀ (l:LV)(m:Nat),n+1≤m→c7 (fun i=>if i=n then u else t i) l m=c7 t l m:=by
   intro l
   induction l with
   |nil=>intro _ _;rfl
   |cons w l ih=>
    intro m hm;show aZ (if m=n then u else t m) w::c7 _ l (m+1)=aZ (t m) w::c7 _ l (m+1);rw[if_neg (by omega),ih (m+1) (by omega)]
  refine⟨fun i=>if i=n then u else t i,?_⟩;show aZ (if n=n then u else t n) (nV v)::c7 _ (pZ l) (n+1)=v::l;rw[if_pos rfl,hu,key _ _ lr,ht]
theorem sF:∀ (l:List DictEntry)(n e:Nat),∃ x:Tk,x.e=e∧jH x (BP l) n=l
 |[],_,e=>⟨⟨fun _=>0,fun _=>0,fun _=>0,e⟩,rfl,rfl⟩
 |v::l,n,e=>by
  obtain⟨x,he,ht⟩:=sF l (n+1) e;obtain⟨u,hu⟩:=p6 v.key;obtain⟨u',Bc⟩:=p6 v.val;let y:Tk:=⟨fun i=>if i=n then v.hash else x.h i,fun i=>if i=n then u else x.k i,fun i=>if i=n then u' else x.v i,x.e⟩;have key:∀ (l:List DictEntry)(m:Nat),n+1≤m→jH y l m=jH x l m:=by
   intro l
   induction l with
   |nil=>intro _ _;rfl
   |cons w l ih=>
    intro m hm;show(⟨if m=n then v.hash else x.h m,aZ (if m=n then u else x.k m) w.key,aZ (if m=n then u' else x.v m) w.val⟩:DictEntry)::jH y l (m+1)=⟨x.h m,aZ (x.k m) w.key,aZ (x.v m) w.val⟩::jH x l (m+1);rw[if_neg (by omega),if_neg (by omega),if_neg (by omega),ih (m+1) (by omega)]
  refine⟨y,he,?_⟩;show(⟨if n=n then v.hash else x.h n,aZ (if n=n then u else x.k n) (nV v.key),aZ (if n=n then u' else x.v n) (nV v.val)⟩:DictEntry)::jH y (BP l) (n+1)=v::l;rw[if_pos rfl,if_pos rfl,if_pos rfl,hu,Bc,key _ _ lr,ht]
theorem BQ (o:Obj):∃ x,∀ s,wS o s=wS (bg x (nO o)) s:=by
 obtain⟨c,d,dt,s⟩:=o;cases dt with
 |seq xs e=>
  obtain⟨t,ht⟩:=jI xs.toList 0;exact⟨⟨fun _=>0,fun _=>0,t,e⟩,fun s=>by simp only[bg,nO,yW];rw[show c7 t (pZ xs.toList) 0=xs.toList from ht]⟩
 |dict es e=>
  obtain⟨x,he,ht⟩:=sF es.toList 0 e;exact⟨x,fun s=>by simp only[bg,nO,yW,wS];rw[ht,he]⟩
 |fields xs=>
  obtain⟨t,ht⟩:=jI xs.toList 0;exact⟨⟨fun _=>0,fun _=>0,t,0⟩,fun s=>by simp only[bg,nO,yW];rw[show c7 t (pZ xs.toList) 0=xs.toList from ht]⟩
 |cell v=>
  cases v with
  |none=>exact⟨⟨fun _=>0,fun _=>0,fun _=>0,0⟩,fun s=>rfl⟩
  |some v=>
   obtain⟨t,ht⟩:=p6 v;exact⟨⟨fun _=>0,fun _=>0,fun _=>t,0⟩,fun s=>by simp only[bg,nO,yW];rw[ht]⟩
 |_=>exact⟨⟨fun _=>0,fun _=>0,fun _=>0,0⟩,fun s=>rfl⟩
def nL:Ow→Ow:=List.rec [] fun p _ ih=>(p.1,nO p.2)::ih
def rt:Ow→(Nat→Tk)→Ow:=List.rec (fun _=>[]) fun p _ ih x=>(p.1,bg (x 0) p.2)::ih fun i=>x (Nat.succ i)
theorem il:∀ L:Ow,∃ x,kC L (rt (nL L) x)∧kC (rt (nL L) x) L
 |[]=>⟨fun _=>⟨fun _=>0,fun _=>0,fun _=>0,0⟩,⟨rfl,fun _ h=>nomatch h⟩,⟨rfl,fun _ h=>nomatch h⟩⟩
 |p::L=>by
  obtain⟨x,hx,jJ⟩:=il L;obtain⟨y,hy⟩:=BQ p.2;refine⟨fun i=>match i with|0=>y|i+1=>x i,?_,?_⟩
  ·refine⟨?_,fun p' hp=>?_⟩
   ·show p.1::L.map (·.1)=p.1::(rt (nL L) x).map (·.1)
    rw[hx.1]
   ·rcases ba.mp (show p'∈(p.1,bg y (nO p.2))::rt (nL L) x from hp) with rfl|hp
    ·exact⟨p,.head _,rfl,hy⟩
    ·obtain⟨q,h1,h2⟩:=hx.2 p' hp
     exact⟨q,.tail _ h1,h2⟩
  ·refine⟨?_,fun p' hp=>?_⟩
   ·show p.1::(rt (nL L) x).map (·.1)=p.1::L.map (·.1)
    rw[hx.1]
   ·rcases ba.mp hp with rfl|hp
    ·exact⟨(p'.1,bg y (nO p'.2)),.head _,rfl,fun s=>(hy s).symm⟩
    ·obtain⟨q,h1,h2⟩:=jJ.2 p' hp
     exact⟨q,.tail _ h1,h2⟩
def nR (r:Result):Result:=match r with
 |.ok f=> .ok (match f with|.ret v=> .ret (nV v)|f=>f)
 |.error e=> .error e
def vC (t:Tok)(r:Result):Result:=match r with
 |.ok f=> .ok (match f with|.ret v=> .ret (aZ t v)|f=>f)
 |.error e=> .error e
theorem vD (r:Result):∃ t,r=vC t (nR r):=by
 cases r with
 |error e=>exact⟨0,rfl⟩
 |ok f=>
  cases f with
  |ret v=>
   obtain⟨t,ht⟩:=p6 v;exact⟨t,by simp only[vC,nR,ht]⟩
  |_=>exact⟨0,rfl⟩
noncomputable def dO (cls:Value)(yX:List (Str×Value)):Obj:=⟨cls,none,.dict ⟨List.rec (motive:=fun _=>List DictEntry) [] (fun kv _ ih=>⟨0,.str kv.1 0,kv.2⟩::ih) yX⟩ 0,#[]⟩
abbrev ah (yX:List (Str×Value)):Obj:=dO (.type "frame") yX
abbrev ak (yX:List (Str×Value)):Obj:=dO (.type "dict") yX
noncomputable def aX (cls d:Nat):Obj:=⟨.ref cls,some d,.plain,#[]⟩
noncomputable def bK (n:Int)(xs:LV):Obj:=⟨.type "collections.deque",none,.fields ⟨.none::.int n 0::xs⟩,#[]⟩
noncomputable def S (l:LN):Str:=⟨⟨l⟩⟩
noncomputable def sV (l:LN):Value:=.str ⟨⟨l⟩⟩ 0
def i7:Str:=S [97,98,99,100,102,101,103,104,105,106,107,108,109,110,111,112,113,114,115,116,117,118,119,120,121,122,65,66,67,68,69,70,71,72,73,74,75,76,77,78,79,80,81,82,83,84,85,86,87,88,89,90,48,49,50,51,52,53,54,55,56,57,95,223,224,225,226,227,228,229,230,231,232,233,234,235,236,237,238,239,240,241,242,243,244,245,246,248,249,250,251,252,253,254,255,192,193,194,195,196,197,198,199,200,201,202,203,204,205,206,207,208,209,210,211,212,213,214,216,217,218,219,220,221,222]
def cM (aS aP aF:Nat)(st tk:Value):List (Str×Value):=[
 (S [105,110,115,116,114,101,97,109],.ref aS),
 (S [105,110,102,105,108,101],.none),
 (S [112,111,115,105,120],.bool true),
 (S [101,111,102],.none),
 (S [99,111,109,109,101,110,116,101,114,115],sV [35]),
 (S [119,111,114,100,99,104,97,114,115],sV [97,98,99,100,102,101,103,104,105,106,107,108,109,110,111,112,113,114,115,116,117,118,119,120,121,122,65,66,67,68,69,70,71,72,73,74,75,76,77,78,79,80,81,82,83,84,85,86,87,88,89,90,48,49,50,51,52,53,54,55,56,57,95,223,224,225,226,227,228,229,230,231,232,233,234,235,236,237,238,239,240,241,242,243,244,245,246,248,249,250,251,252,253,254,255,192,193,194,195,196,197,198,199,200,201,202,203,204,205,206,207,208,209,210,211,212,213,214,216,217,218,219,220,221,222]),
 (S [119,104,105,116,101,115,112,97,99,101],sV [32,9,13,10]),
 (S [119,104,105,116,101,115,112,97,99,101,95,115,112,108,105,116],.bool false),
 (S [113,117,111,116,101,115],sV [39,34]),
 (S [101,115,99,97,112,101],sV [92]),
 (S [101,115,99,97,112,101,100,113,117,111,116,101,115],sV [34]),
 (S [115,116,97,116,101],st),
 (S [112,117,115,104,98,97,99,107],.ref aP),
 (S [108,105,110,101,110,111],.int 1 0),
 (S [100,101,98,117,103],.int 0 0),
 (S [116,111,107,101,110],tk),
 (S [102,105,108,101,115,116,97,99,107],.ref aF),
 (S [115,111,117,114,99,101],.none),
 (S [95,112,117,110,99,116,117,97,116,105,111,110,95,99,104,97,114,115],sV [])]
def b5 (X:Str)(p:Int):List (Str×Value):=[
 (S [95,83,116,114,105,110,103,73,79,95,95,110,101,119,108,105,110,101],sV [10]),
 (S [95,83,116,114,105,110,103,73,79,95,95,98,117,102],.str X 0),
 (S [95,83,116,114,105,110,103,73,79,95,95,112,111,115],.int p 0)]
noncomputable def wd (w:WW)(b c:Bool):WW:=(w.withFollow "special-get-raises" b).withFollow "comprehension-iter-twice" c
theorem yY (w:WW):∃ b c,w=wd w b c:=⟨w.params.followText "special-get-raises",w.params.followText "comprehension-iter-twice",by
 unfold wd;rw[World.withFollow_self,World.withFollow_self]⟩
noncomputable abbrev pw:Program:=PySem.Challenge.pw_ij0189_01
abbrev P0 (w:WW):Setting:=⟨pw,w.params⟩
def lT (b:Bool):Value:=match b with|true=>sV [32]|false=> .none
noncomputable def cq (k:Int)(t:Tok)(vs:LV):Obj:=⟨.type "collections.deque",none,.fields ⟨.none::.int k t::vs⟩,#[]⟩
noncomputable def ab (vs:LV)(e:Nat):Obj:=⟨.type "list",none,.seq ⟨vs⟩ e,#[]⟩
theorem BR {a b:Bool}(h:a=true)(k:b=true):(a&&b)=true:=by subst h k;rfl
theorem Nh:Fast.tw8326940854005059898 {strict:=!R.allR (Fast.tw5923862056798008813 pw.main.body) (Fast.tw3471404346716756564 Fast.tw17691160309236699985),foot:=none,bare:=R.filterR (Fast.tw13343964577679436407 pw pw.main.body) [⟨⟨[118,97,114,115]⟩⟩,⟨⟨[100,105,114]⟩⟩,⟨⟨[108,111,99,97,108,115]⟩⟩]} pw.main.body=true:=by kernel_rfl
theorem Ni:Fast.tw12908688711261696721 pw=true:=BR (BR (by kernel_rfl) Nh) (by kernel_rfl)
theorem Ff:Fast.tw9446332074065402090 PySem.Challenge.rw_ij0189_01=true:=by
 iterate 33 refine BR ?_ (by kernel_rfl)
 exact Ni
theorem Fg:PySem.Challenge.rw_ij0189_01.wellSaid=true:=(congrFun Fast.te9446332074065402090 _).trans Ff
noncomputable def atS:List Stmt→Nat→Stmt
 |[],_=> .Pass default
 |s::_,0=>s
 |_::l,i+1=>atS l i
def Nj (i:Nat)(j:ON):Stmt:=match j with
 |none=>atS pw.main.body i
 |some j=>match atS pw.main.body i with
  |.ClassDef _ _ _ b _ _ _ _ _ _ _=>atS b j
  |s=>s
def fO (i:Nat)(j:ON)(q:LN)(d:Value)(m:LN)(t c:Nat):Obj:=match Nj i j with
 |.FunctionDef n a b _ _ _ sc _ _ _=>⟨.type "function",none,.func {name:=n,qualname:=S q,params:=a,body:=.stmts b,scope:=sc,globals:=3,closure:=[],defaults:=d,kwdefaults:=.none,pyModule:=.str (S m) t,code:=.ref c},#[]⟩
 |_=>default
def cO (m q:LN)(t l a b c d r n h x k u:Nat):Obj:=⟨.type "code",none,.fields #[.str (S m) t,.str (S q) (t+1),.str (S [47,99,108,97,105,109,47,99,117,116,46,112,121]) (t+2),.int l 0,.int a 0,.int b 0,.int c 0,.int d 0,.ref r,.bool true,.int n 0,.ref h,.none,.ref x,.ref (x+1),.ref (x+2),.int k 0,.int l 0,.str (S [47,99,108,97,105,109,47,99,117,116,46,112,121]) u],#[]⟩
def kE (P:Params)(k:LN)(t:Nat)(v:Value):DictEntry:=⟨PyData.keyHash P (S k),.str (S k) t,v⟩
noncomputable def Nk (P:Params):Obj:=boot_o_0 P
def Nl (P:Params):Obj:=⟨.none,none,.dict #[kE P [105,109,112,111,114,116,46,108,111,97,100,101,100,46,95,99,111,108,108,101,99,116,105,111,110,115] 185 (.bool true),kE P [99,108,97,115,115,46,95,102,114,111,122,101,110,95,105,109,112,111,114,116,108,105,98,46,66,117,105,108,116,105,110,73,109,112,111,114,116,101,114] 187 (.ref 15),kE P [119,97,116,99,104,101,100,46,105,109,112,111,114,116] 208 (.ref 19),kE P [99,108,97,115,115,46,95,102,114,111,122,101,110,95,105,109,112,111,114,116,108,105,98,46,77,111,100,117,108,101,83,112,101,99] 218 (.ref 23),kE P [115,121,115,46,109,111,100,117,108,101,115,46,98,111,111,107,101,100,45,101,112,111,99,104] 247 (.int 3 0),kE P [115,121,115,46,109,111,100,117,108,101,115,46,108,97,110,100,101,100,46,95,99,111,108,108,101,99,116,105,111,110,115] 248 (.bool true),kE P [105,109,112,111,114,116,46,108,97,116,101,114,45,108,97,105,100,46,95,99,111,108,108,101,99,116,105,111,110,115] 263 (.bool true),kE P [119,97,116,99,104,101,100,46,108,105,98,114,97,114,121] 265 (.ref 28),kE P [119,97,116,99,104,101,100,46,108,105,98,114,97,114,121,45,111,98,106,101,99,116,115] 0 (.str (S [13]) 0),kE P [119,97,116,99,104,101,100,46,108,105,98,114,97,114,121,45,100,101,101,112,46,95,99,111,108,108,101,99,116,105,111,110,115] 266 (.str (S [4,0,0,12,4,0,0,12,4,0,0,3,4,0,0,12,8,4,100,105,99,116,2]) 0),kE P [116,121,112,101,46,95,95,115,117,98,99,108,97,115,115,101,115,95,95,46,79,83,69,114,114,111,114,46,48] 548 (.int 221 0),kE P [116,121,112,101,46,95,95,115,117,98,99,108,97,115,115,101,115,95,95,46,79,83,69,114,114,111,114,46,110] 549 (.int 1 0)] 12,#[]⟩
def Nm (P:Params):Obj:=⟨.type "dict",none,.dict #[kE P [95,95,110,97,109,101,95,95] 165 (.str (S [108,97,119,95,105,106,48,49,56,57,95,48,49]) 1371),kE P [95,95,100,111,99,95,95] 166 (.none),kE P [95,95,112,97,99,107,97,103,101,95,95] 167 (.none),kE P [95,95,108,111,97,100,101,114,95,95] 168 (.builtin "__main__.__loader__#opaque"),kE P [95,95,115,112,101,99,95,95] 169 (.none),kE P [95,95,97,110,110,111,116,97,116,105,111,110,115,95,95] 170 (.ref 6),kE P [95,95,98,117,105,108,116,105,110,115,95,95] 171 (.ref 4),kE P [95,95,102,105,108,101,95,95] 173 (.str (S [47,99,108,97,105,109,47,99,117,116,46,112,121]) 172),kE P [95,95,99,97,99,104,101,100,95,95] 174 (.none),kE P [100,101,113,117,101] 272 (.type "collections.deque"),kE P [95,119,97,108,108] 285 (.ref 39),kE P [102,105,108,116,101,114,102,97,108,115,101] 337 (.ref 72),kE P [117,110,105,113,117,101,95,101,118,101,114,115,101,101,110] 351 (.ref 84),kE P [95,112,108,97,105,110,95,110,97,109,101] 362 (.ref 91),kE P [65,66,67,77,101,116,97] 388 (.ref 108),kE P [95,65,66,67,76,105,107,101] 431 (.ref 141),kE P [95,97,98,99,95,112,108,97,105,110,95,109,101,116,97] 438 (.ref 150),kE P [102,115,112,97,116,104] 450 (.ref 157),kE P [95,99,104,101,99,107,95,97,114,103,95,116,121,112,101,115] 463 (.ref 768),kE P [99,104,101,99,107,95,97,114,103,95,116,121,112,101,115,95,103,101,110,101,114,105,99,112,97,116,104] 464 (.ref 164),kE P [95,103,101,116,95,115,101,112] 473 (.ref 171),kE P [106,111,105,110] 484 (.ref 782),kE P [106,111,105,110,95,112,111,115,105,120,112,97,116,104] 485 (.ref 178),kE P [98,97,115,101,110,97,109,101] 494 (.ref 185),kE P [100,105,114,110,97,109,101] 504 (.ref 789),kE P [100,105,114,110,97,109,101,95,112,111,115,105,120,112,97,116,104] 505 (.ref 192),kE P [99,111,109,109,111,110,112,97,116,104] 511 (.ref 197),kE P [95,119,104,101,110,99,101] 521 (.ref 204),kE P [95,105,110,100,101,120] 529 (.ref 211),kE P [85,110,115,117,112,112,111,114,116,101,100,79,112,101,114,97,116,105,111,110] 551 (.ref 221),kE P [73,79,66,97,115,101] 583 (.ref 241),kE P [66,117,102,102,101,114,101,100,73,79,66,97,115,101] 601 (.ref 256),kE P [84,101,120,116,73,79,66,97,115,101] 619 (.ref 268),kE P [66,121,116,101,115,73,79] 881 (.ref 498),kE P [83,116,114,105,110,103,73,79] 1168 (.ref 745),kE P [95,107,105,110,100] 1179 (.ref 754),kE P [95,102,115,112,97,116,104] 1188 (.ref 761),kE P [99,104,101,99,107,95,97,114,103,95,116,121,112,101,115,95,112,97,116,104] 1199 (.ref 768),kE P [105,115,97,98,115] 1206 (.ref 775),kE P [106,111,105,110,95,112,97,116,104] 1218 (.ref 782),kE P [100,105,114,110,97,109,101,95,112,97,116,104] 1229 (.ref 789),kE P [115,104,108,101,120] 1370 (.ref 880),kE P [95,108,97,119,95,119,97,108,107] 1378 (.ref 889),kE P [95,108,97,119,95,100,117,101] 1384 (.ref 894),kE P [108,97,119] 1390 (.ref 899)] 45,#[]⟩
noncomputable def JA (P:Params):Obj:=⟨.type "tuple",none,.seq #[.none] 0,#[]⟩
def JB (P:Params):Obj:=cO [117,110,105,113,117,101,95,101,118,101,114,115,101,101,110] [117,110,105,113,117,101,95,101,118,101,114,115,101,101,110] 340 26 2 0 0 35 78 273 79 80 349 350
def JC (P:Params):Obj:=fO 5 none [117,110,105,113,117,101,95,101,118,101,114,115,101,101,110] (.ref 77) [99,112,121,51,49,51,46,105,109,112,111,114,116,108,105,98,46,109,101,116,97,100,97,116,97,46,95,105,116,101,114,116,111,111,108,115] 338 83
def Fh (P:Params):Obj:=cO [102,115,112,97,116,104] [102,115,112,97,116,104] 441 70 1 0 0 3 151 273 152 153 448 449
def Fi (P:Params):Obj:=fO 14 none [102,115,112,97,116,104] (.none) [111,115] 439 156
def Fj (P:Params):Obj:=cO [95,103,101,116,95,115,101,112] [95,103,101,116,95,115,101,112] 467 100 1 0 0 3 165 273 166 167 471 472
def Fl (P:Params):Obj:=fO 19 none [95,103,101,116,95,115,101,112] (.none) [99,112,121,51,49,51,46,112,111,115,105,120,112,97,116,104] 465 170
def Fm (P:Params):Obj:=cO [106,111,105,110] [106,111,105,110] 474 105 1 0 0 7 172 273 173 174 482 483
def Fn (P:Params):Obj:=fO 20 none [106,111,105,110] (.none) [99,112,121,51,49,51,46,112,111,115,105,120,112,97,116,104] 465 177
def Fo (P:Params):Obj:=cO [98,97,115,101,110,97,109,101] [98,97,115,101,110,97,109,101] 486 123 1 0 0 3 179 273 180 181 492 493
def Fp (P:Params):Obj:=fO 22 none [98,97,115,101,110,97,109,101] (.none) [99,112,121,51,49,51,46,112,111,115,105,120,112,97,116,104] 465 184
def Fq (P:Params):Obj:=cO [100,105,114,110,97,109,101] [100,105,114,110,97,109,101] 495 128 1 0 0 3 186 273 187 188 502 503
def Fs (P:Params):Obj:=fO 23 none [100,105,114,110,97,109,101] (.none) [99,112,121,51,49,51,46,112,111,115,105,120,112,97,116,104] 465 191
def Ft (P:Params):Obj:=⟨.type "code",none,.fields #[.str (S [99,111,109,109,111,110,112,97,116,104]) 506,.str (S [99,111,109,109,111,110,112,97,116,104]) 507,.str (S [47,99,108,97,105,109,47,99,117,116,46,112,121]) 508,.int 137 0,.int 1 0,.int 0 0,.int 0 0,.int 3 0,.ref 193,.bool true,.int 273 0,.ref 194,.none,.none,.none,.ref 195,.int 509 0,.int 137 0,.str (S [47,99,108,97,105,109,47,99,117,116,46,112,121]) 510],#[]⟩
def Fu (P:Params):Obj:=fO 25 none [99,111,109,109,111,110,112,97,116,104] (.none) [99,112,121,51,49,51,46,112,111,115,105,120,112,97,116,104] 465 196
def Fv (P:Params):Obj:=cO [95,105,110,100,101,120] [95,105,110,100,101,120] 522 172 2 0 0 3 205 273 206 207 527 528
def Fw (P:Params):Obj:=fO 28 none [95,105,110,100,101,120] (.none) [105,111] 512 210
def Fx (P:Params):Obj:=cO [95,95,110,101,119,95,95] [73,79,66,97,115,101,46,95,95,110,101,119,95,95] 566 184 1 1 0 15 232 273 233 234 572 573
def Fy (P:Params):Obj:=fO 30 (some 1) [73,79,66,97,115,101,46,95,95,110,101,119,95,95] (.none) [105,111] 512 237
def Fz (P:Params):Obj:=⟨.type "dict",none,.dict #[kE P [95,95,109,111,100,117,108,101,95,95] 559 (.str (S [105,111]) 564),kE P [95,95,102,105,114,115,116,108,105,110,101,110,111,95,95] 563 (.int 181 562),kE P [95,95,110,101,119,95,95] 574 (.ref 242),kE P [95,95,115,116,97,116,105,99,95,97,116,116,114,105,98,117,116,101,115,95,95] 575 (.ref 239),kE P [95,95,100,105,99,116,95,95] 578 (.ref 243),kE P [95,95,119,101,97,107,114,101,102,95,95] 580 (.ref 244),kE P [95,95,100,111,99,95,95] 581 (.none)] 4,#[]⟩
def FA (P:Params):Obj:=⟨.type "type",none,.cls {name:=S [73,79,66,97,115,101],bases:=[.type "object"],mro:=[.ref 241,.type "object"],ns:=240,qualname:=S [73,79,66,97,115,101],subclasses:=[.ref 256,.ref 268]},#[.none,.none,some (.str (S [73,79,66,97,115,101]) 552),some (.str (S [73,79,66,97,115,101]) 560),some (.none),some (.bool true)]⟩
noncomputable def FC (P:Params):Obj:=⟨.type "staticmethod",none,.fields #[.ref 238],#[]⟩
def FD (P:Params):Obj:=⟨.type "dict",none,.dict #[kE P [95,95,109,111,100,117,108,101,95,95] 609 (.str (S [105,111]) 614),kE P [95,95,102,105,114,115,116,108,105,110,101,110,111,95,95] 613 (.int 190 612),kE P [95,95,115,116,97,116,105,99,95,97,116,116,114,105,98,117,116,101,115,95,95] 616 (.ref 266),kE P [95,95,100,111,99,95,95] 617 (.none)] 2,#[]⟩
def FE (P:Params):Obj:=⟨.type "type",none,.cls {name:=S [84,101,120,116,73,79,66,97,115,101],bases:=[.ref 241],mro:=[.ref 268,.ref 241,.type "object"],ns:=267,qualname:=S [84,101,120,116,73,79,66,97,115,101],subclasses:=[.ref 745]},#[some (.ref 259),.none,some (.str (S [84,101,120,116,73,79,66,97,115,101]) 602),some (.str (S [84,101,120,116,73,79,66,97,115,101]) 610),some (.none),some (.bool true)]⟩
def FG (P:Params):Obj:=⟨.type "type",none,.cls {name:=S [66,121,116,101,115,73,79],bases:=[.ref 256],mro:=[.ref 498,.ref 256,.ref 241,.type "object"],ns:=497,qualname:=S [66,121,116,101,115,73,79],subclasses:=[]},#[some (.ref 271),.none,some (.str (S [66,121,116,101,115,73,79]) 620),some (.str (S [66,121,116,101,115,73,79]) 628),some (.none),some (.bool true)]⟩
def FH (P:Params):Obj:=⟨.type "tuple",none,.seq #[.str (S []) 896,.str (S [10]) 897] 0,#[]⟩
def FI (P:Params):Obj:=cO [95,95,105,110,105,116,95,95] [83,116,114,105,110,103,73,79,46,95,95,105,110,105,116,95,95] 898 365 3 0 0 3 509 273 510 511 904 905
def FJ (P:Params):Obj:=fO 34 (some 1) [83,116,114,105,110,103,73,79,46,95,95,105,110,105,116,95,95] (.ref 508) [105,111] 512 514
def FL (P:Params):Obj:=cO [95,95,116,114,97,110,115,108,97,116,101,100] [83,116,114,105,110,103,73,79,46,95,95,116,114,97,110,115,108,97,116,101,100] 907 378 2 0 0 3 516 273 517 518 913 914
def FN (P:Params):Obj:=fO 34 (some 2) [83,116,114,105,110,103,73,79,46,95,95,116,114,97,110,115,108,97,116,101,100] (.none) [105,111] 512 521
def FO (P:Params):Obj:=cO [95,95,99,104,101,99,107] [83,116,114,105,110,103,73,79,46,95,95,99,104,101,99,107] 916 386 1 0 0 3 523 273 524 525 920 921
def FP (P:Params):Obj:=fO 34 (some 3) [83,116,114,105,110,103,73,79,46,95,95,99,104,101,99,107] (.none) [105,111] 512 528
noncomputable def FQ (P:Params):Obj:=⟨.type "tuple",none,.seq #[.int (-1) 1089] 0,#[]⟩
def FT (P:Params):Obj:=cO [114,101,97,100] [83,116,114,105,110,103,73,79,46,114,101,97,100] 1090 508 2 2 0 3 685 273 686 687 1097 1098
def FU (P:Params):Obj:=fO 34 (some 25) [83,116,114,105,110,103,73,79,46,114,101,97,100] (.ref 684) [105,111] 512 690
def FV (P:Params):Obj:=⟨.type "dict",none,.dict #[kE P [95,95,109,111,100,117,108,101,95,95] 889 (.str (S [95,105,111]) 894),kE P [95,95,102,105,114,115,116,108,105,110,101,110,111,95,95] 893 (.int 362 892),kE P [95,95,105,110,105,116,95,95] 906 (.ref 515),kE P [95,83,116,114,105,110,103,73,79,95,95,116,114,97,110,115,108,97,116,101,100] 915 (.ref 522),kE P [95,83,116,114,105,110,103,73,79,95,95,99,104,101,99,107] 922 (.ref 529),kE P [95,83,116,114,105,110,103,73,79,95,95,99,104,101,99,107,95,100,111,116] 929 (.ref 536),kE P [95,83,116,114,105,110,103,73,79,95,95,108,105,110,101] 944 (.ref 543),kE P [99,108,111,115,101,100] 952 (.ref 551),kE P [108,105,110,101,95,98,117,102,102,101,114,105,110,103] 960 (.ref 559),kE P [110,101,119,108,105,110,101,115] 968 (.ref 567),kE P [101,110,99,111,100,105,110,103] 976 (.ref 575),kE P [101,114,114,111,114,115] 984 (.ref 583),kE P [99,108,111,115,101] 991 (.ref 590),kE P [95,95,101,110,116,101,114,95,95] 998 (.ref 597),kE P [95,95,101,120,105,116,95,95] 1006 (.ref 604),kE P [114,101,97,100,97,98,108,101] 1013 (.ref 611),kE P [119,114,105,116,97,98,108,101] 1020 (.ref 618),kE P [115,101,101,107,97,98,108,101] 1027 (.ref 625),kE P [105,115,97,116,116,121] 1034 (.ref 632),kE P [102,108,117,115,104] 1041 (.ref 639),kE P [102,105,108,101,110,111] 1048 (.ref 646),kE P [100,101,116,97,99,104] 1055 (.ref 653),kE P [103,101,116,118,97,108,117,101] 1062 (.ref 660),kE P [116,101,108,108] 1069 (.ref 667),kE P [115,101,101,107] 1079 (.ref 675),kE P [116,114,117,110,99,97,116,101] 1087 (.ref 683),kE P [114,101,97,100] 1099 (.ref 691),kE P [114,101,97,100,108,105,110,101] 1109 (.ref 699),kE P [114,101,97,100,108,105,110,101,115] 1119 (.ref 707),kE P [95,95,105,116,101,114,95,95] 1126 (.ref 714),kE P [95,95,110,101,120,116,95,95] 1134 (.ref 721),kE P [119,114,105,116,101] 1146 (.ref 728),kE P [119,114,105,116,101,108,105,110,101,115] 1154 (.ref 735),kE P [95,95,114,101,112,114,95,95] 1161 (.ref 742),kE P [95,95,115,116,97,116,105,99,95,97,116,116,114,105,98,117,116,101,115,95,95] 1165 (.ref 743),kE P [95,95,100,111,99,95,95] 1166 (.none)] 2,#[]⟩
def FW (P:Params):Obj:=⟨.type "type",none,.cls {name:=S [83,116,114,105,110,103,73,79],bases:=[.ref 268],mro:=[.ref 745,.ref 268,.ref 241,.type "object"],ns:=744,qualname:=S [83,116,114,105,110,103,73,79],subclasses:=[]},#[some (.ref 501),.none,some (.str (S [83,116,114,105,110,103,73,79]) 882),some (.str (S [83,116,114,105,110,103,73,79]) 890),some (.none),some (.bool true)]⟩
noncomputable def FX (P:Params):Obj:=⟨.type "tuple",none,.seq #[.none,.none,.bool false,.bool false] 0,#[]⟩
def FY (P:Params):Obj:=cO [95,95,105,110,105,116,95,95] [115,104,108,101,120,46,95,95,105,110,105,116,95,95] 1244 636 5 0 0 3 798 273 799 800 1253 1254
def FZ (P:Params):Obj:=fO 46 (some 0) [115,104,108,101,120,46,95,95,105,110,105,116,95,95] (.ref 797) [99,112,121,51,49,51,46,115,104,108,101,120] 1230 803
def F0 (P:Params):Obj:=cO [112,117,110,99,116,117,97,116,105,111,110,95,99,104,97,114,115] [115,104,108,101,120,46,112,117,110,99,116,117,97,116,105,111,110,95,99,104,97,114,115] 1256 677 1 0 0 3 805 273 806 807 1260 1261
def F1 (P:Params):Obj:=fO 46 (some 1) [115,104,108,101,120,46,112,117,110,99,116,117,97,116,105,111,110,95,99,104,97,114,115] (.none) [99,112,121,51,49,51,46,115,104,108,101,120] 1230 810
def F2 (P:Params):Obj:=⟨.type "property",none,.fields #[.ref 811,.none,.none,.none,.str (S [112,117,110,99,116,117,97,116,105,111,110,95,99,104,97,114,115]) 1263,.bool false],#[]⟩
def F3 (P:Params):Obj:=cO [112,117,115,104,95,116,111,107,101,110] [115,104,108,101,120,46,112,117,115,104,95,116,111,107,101,110] 1264 681 2 0 0 3 813 273 814 815 1269 1270
def F4 (P:Params):Obj:=fO 46 (some 2) [115,104,108,101,120,46,112,117,115,104,95,116,111,107,101,110] (.none) [99,112,121,51,49,51,46,115,104,108,101,120] 1230 818
def F5 (P:Params):Obj:=cO [103,101,116,95,116,111,107,101,110] [115,104,108,101,120,46,103,101,116,95,116,111,107,101,110] 1288 706 1 0 0 3 835 273 836 837 1297 1298
def F6 (P:Params):Obj:=fO 46 (some 5) [115,104,108,101,120,46,103,101,116,95,116,111,107,101,110] (.none) [99,112,121,51,49,51,46,115,104,108,101,120] 1230 840
def F7 (P:Params):Obj:=cO [114,101,97,100,95,116,111,107,101,110] [115,104,108,101,120,46,114,101,97,100,95,116,111,107,101,110] 1300 733 1 0 0 3 842 273 843 844 1308 1309
def F8 (P:Params):Obj:=fO 46 (some 6) [115,104,108,101,120,46,114,101,97,100,95,116,111,107,101,110] (.none) [99,112,121,51,49,51,46,115,104,108,101,120] 1230 847
def F9 (P:Params):Obj:=cO [95,95,105,116,101,114,95,95] [115,104,108,101,120,46,95,95,105,116,101,114,95,95] 1328 880 1 0 0 3 864 273 865 866 1332 1333
def F' (P:Params):Obj:=fO 46 (some 9) [115,104,108,101,120,46,95,95,105,116,101,114,95,95] (.none) [99,112,121,51,49,51,46,115,104,108,101,120] 1230 869
def Ga (P:Params):Obj:=cO [95,95,110,101,120,116,95,95] [115,104,108,101,120,46,95,95,110,101,120,116,95,95] 1335 883 1 0 0 3 871 273 872 873 1340 1341
def Gd (P:Params):Obj:=fO 46 (some 10) [115,104,108,101,120,46,95,95,110,101,120,116,95,95] (.none) [99,112,121,51,49,51,46,115,104,108,101,120] 1230 876
def Ge (P:Params):Obj:=⟨.type "dict",none,.dict #[kE P [95,95,109,111,100,117,108,101,95,95] 1239 (.str (S [99,112,121,51,49,51,46,115,104,108,101,120]) 1230),kE P [95,95,102,105,114,115,116,108,105,110,101,110,111,95,95] 1243 (.int 634 1242),kE P [95,95,105,110,105,116,95,95] 1255 (.ref 804),kE P [112,117,110,99,116,117,97,116,105,111,110,95,99,104,97,114,115] 1263 (.ref 812),kE P [112,117,115,104,95,116,111,107,101,110] 1271 (.ref 819),kE P [112,117,115,104,95,115,111,117,114,99,101] 1280 (.ref 827),kE P [112,111,112,95,115,111,117,114,99,101] 1287 (.ref 834),kE P [103,101,116,95,116,111,107,101,110] 1299 (.ref 841),kE P [114,101,97,100,95,116,111,107,101,110] 1310 (.ref 848),kE P [115,111,117,114,99,101,104,111,111,107] 1318 (.ref 855),kE P [101,114,114,111,114,95,108,101,97,100,101,114] 1327 (.ref 863),kE P [95,95,105,116,101,114,95,95] 1334 (.ref 870),kE P [95,95,110,101,120,116,95,95] 1342 (.ref 877),kE P [95,95,115,116,97,116,105,99,95,97,116,116,114,105,98,117,116,101,115,95,95] 1363 (.ref 878),kE P [95,95,100,105,99,116,95,95] 1365 (.ref 881),kE P [95,95,119,101,97,107,114,101,102,95,95] 1367 (.ref 882),kE P [95,95,100,111,99,95,95] 1368 (.none)] 4,#[]⟩
def Gf (P:Params):Obj:=⟨.type "type",none,.cls {name:=S [115,104,108,101,120],bases:=[.type "object"],mro:=[.ref 880,.type "object"],ns:=879,qualname:=S [115,104,108,101,120],subclasses:=[]},#[.none,.none,some (.str (S [115,104,108,101,120]) 1232),some (.str (S [115,104,108,101,120]) 1240),some (.builtin "object.__new__"),some (.bool true)]⟩
def Gg (P:Params):Obj:=⟨.type "code",none,.fields #[.str (S [95,108,97,119,95,119,97,108,107]) 1373,.str (S [95,108,97,119,95,119,97,108,107]) 1374,.str (S [47,99,108,97,105,109,47,99,117,116,46,112,121]) 1375,.int 889 0,.int 2 0,.int 0 0,.int 0 0,.int 3 0,.ref 885,.bool true,.int 273 0,.ref 886,.none,.none,.none,.ref 887,.int 1376 0,.int 889 0,.str (S [47,99,108,97,105,109,47,99,117,116,46,112,121]) 1377],#[]⟩
def Gh (P:Params):Obj:=fO 48 none [95,108,97,119,95,119,97,108,107] (.none) [108,97,119,95,105,106,48,49,56,57,95,48,49] 1371 888
def Gi (P:Params):Obj:=⟨.type "code",none,.fields #[.str (S [95,108,97,119,95,100,117,101]) 1379,.str (S [95,108,97,119,95,100,117,101]) 1380,.str (S [47,99,108,97,105,109,47,99,117,116,46,112,121]) 1381,.int 897 0,.int 2 0,.int 0 0,.int 0 0,.int 3 0,.ref 890,.bool true,.int 273 0,.ref 891,.none,.none,.none,.ref 892,.int 1382 0,.int 897 0,.str (S [47,99,108,97,105,109,47,99,117,116,46,112,121]) 1383],#[]⟩
def Gj (P:Params):Obj:=fO 49 none [95,108,97,119,95,100,117,101] (.none) [108,97,119,95,105,106,48,49,56,57,95,48,49] 1371 893
def Gk (P:Params):Obj:=⟨.type "code",none,.fields #[.str (S [108,97,119]) 1385,.str (S [108,97,119]) 1386,.str (S [47,99,108,97,105,109,47,99,117,116,46,112,121]) 1387,.int 913 0,.int 1 0,.int 0 0,.int 0 0,.int 3 0,.ref 895,.bool true,.int 273 0,.ref 896,.none,.none,.none,.ref 897,.int 1388 0,.int 913 0,.str (S [47,99,108,97,105,109,47,99,117,116,46,112,121]) 1389],#[]⟩
def Gl (P:Params):Obj:=fO 50 none [108,97,119] (.none) [108,97,119,95,105,106,48,49,56,57,95,48,49] 1371 898
def kh (P:Params):Frag:=[(0,Nk P),(2,Nl P),(3,Nm P),(77,JA P),(83,JB P),(84,JC P),(156,Fh P),(157,Fi P),(170,Fj P),(171,Fl P),(177,Fm P),(178,Fn P),(184,Fo P),(185,Fp P),(191,Fq P),(192,Fs P),(196,Ft P),(197,Fu P),(210,Fv P),(211,Fw P),(237,Fx P),(238,Fy P),(240,Fz P),(241,FA P),(242,FC P),(267,FD P),(268,FE P),(498,FG P),(508,FH P),(514,FI P),(515,FJ P),(521,FL P),(522,FN P),(528,FO P),(529,FP P),(684,FQ P),(690,FT P),(691,FU P),(744,FV P),(745,FW P),(797,FX P),(803,FY P),(804,FZ P),(810,F0 P),(811,F1 P),(812,F2 P),(818,F3 P),(819,F4 P),(840,F5 P),(841,F6 P),(847,F7 P),(848,F8 P),(869,F9 P),(870,F' P),(876,Ga P),(877,Gd P),(879,Ge P),(880,Gf P),(888,Gg P),(889,Gh P),(893,Gi P),(894,Gj P),(898,Gk P),(899,Gl P)]
def Nn (P:Params):KT:=KT.of (kh P)
noncomputable def ES:Program→WW→SharedT→Thread→Option (SharedT×Thread):=Fast.tw10156331382660048174 (Fast.tw11892475500146522536 Fast.tw14364793385576792824)
theorem vF:ES=stepT (denote treeTable):=by
 unfold ES;rw[←Fast.te10156331382660048174,←Fast.te11892475500146522536,←Fast.te14364793385576792824]
noncomputable def yZ:Nat→Option Value→Thread→Bool:=Fast.tw6613529449190102663
theorem y4:yZ=stepOk:=by unfold yZ;rw[←Fast.te6613529449190102663]
def lu (p:Program)(w:WW)(rA:Nat)(ann:OV):Nat→SharedT→Thread→Option SharedT:=
 Nat.rec (fun _ _=>none) fun _ ih s t=>match through t with
  |true=>some s
  |false=>match yZ rA ann t with
   |false=>none
   |true=>match ES p w s t with
    |some st=>ih st.1 st.2
    |none=>none
theorem i8 {p:Program}{w:WW}{rA:Nat}{ann:OV}:∀ {n:Nat}{s r:SharedT}{t:Thread},lu p w rA ann n s t=some r→topRun treeTable p w rA ann n s.abs t=some r.abs
 |0,_,_,_,h=>by cases h
 |n+1,s,r,t,h=>by
  have h':(match through t with
   |true=>some s
   |false=>match yZ rA ann t with
    |false=>none
    |true=>match ES p w s t with
     |some st=>lu p w rA ann n st.1 st.2
     |none=>none)=some r:=h
  rw[y4,vF] at h';unfold topRun;cases he:through t with
  |true=>rw[he] at h';cases h';rfl
  |false=>
   rw[he] at h';cases hk:stepOk rA ann t with
   |false=>rw[hk] at h';cases h'
   |true=>
    rw[hk] at h';cases hs:stepT (denote treeTable) p w s t with
    |none=>rw[hs] at h';cases h'
    |some q=>obtain⟨JD,JE⟩:=q;rw[hs] at h';rw[stepT_spec hs];exact i8 h'
def ly (p:Program)(w:WW):Nat→SharedT→Thread→Option SharedT:=
 Nat.rec (fun _ _=>none) fun _ ih s t=>match t.atExitBegin with
  |some l=>match l with
   |[]=>some s
   |_::_=>none
  |none=>match ES p w s t with
   |some st=>ih st.1 st.2
   |none=>none
theorem i9 {p:Program}{w:WW}:∀ {n:Nat}{s r:SharedT}{t:Thread},ly p w n s t=some r→importEnds treeTable p w n s.abs t=some r.abs
 |0,_,_,_,h=>by cases h
 |n+1,s,r,t,h=>by
  have h':(match t.atExitBegin with
   |some l=>match l with
    |[]=>some s
    |_::_=>none
   |none=>match ES p w s t with
    |some st=>ly p w n st.1 st.2
    |none=>none)=some r:=h
  rw[vF] at h';unfold importEnds;cases he:t.atExitBegin with
  |some l=>
   rw[he] at h';cases l with
   |nil=>cases h';rfl
   |cons _ _=>cases h'
  |none=>
   rw[he] at h';cases hs:stepT (denote treeTable) p w s t with
   |none=>rw[hs] at h';cases h'
   |some q=>obtain⟨JD,JE⟩:=q;rw[hs] at h';rw[stepT_spec hs];exact i9 h'
noncomputable def jK (l:List Obj):BT×Nat×Bool:=l.foldl (fun x o=>(x.1.ins x.2.1 o,x.2.1+1,x.2.2&&((x.1.ins x.2.1 o).get x.2.1).isSome)) (.nil,0,true)
theorem p7 (life:Life):∀ (l:List Obj)(t:BT)(n:Nat)(b:Bool)(r:BT×Nat×Bool),l.foldl (fun x o=>(x.1.ins x.2.1 o,x.2.1+1,x.2.2&&((x.1.ins x.2.1 o).get x.2.1).isSome)) (t,n,b)=r→r.2.2=true→b=true∧absHeap r.1 r.2.1 life=⟨(absHeap t n life).objs++l.toArray,life⟩
 |[],t,n,b,r,h,hr=>by
  subst h;exact⟨hr,by simp[absHeap]⟩
 |o::l,t,n,b,r,h,hr=>by
  rw[List.foldl_cons] at h;obtain⟨h1,h2⟩:=p7 life l _ _ _ r h hr;obtain⟨h3,h4⟩:=Bool.and_eq_true_iff.mp h1;refine⟨h3,h2.trans ?_⟩;rw[absHeap_ins h4];show(⟨(absHeap t n life).objs.push o++l.toArray,life⟩:Heap)=_;rw[Array.push_eq_append,Array.append_assoc];simp
theorem vG {h:Heap}(e:(jK h.objs.toList).2.2=true):absHeap (jK h.objs.toList).1 (jK h.objs.toList).2.1 h.life=h:=by
 obtain⟨_,z⟩:=p7 h.life h.objs.toList .nil 0 true _ rfl e;refine z.trans ?_;obtain⟨o,l⟩:=h;show(⟨_++o.toList.toArray,l⟩:Heap)=_;congr;simp[absHeap,BT.list]
def sT (s:Shared):SharedT:=⟨(jK s.heap.objs.toList).1,(jK s.heap.objs.toList).2.1,s.heap.life,s.gens,s.drawn,s.toks,s.os⟩
theorem vH {s:Shared}(e:(jK s.heap.objs.toList).2.2=true):(sT s).abs=s:=by
 unfold sT SharedT.abs;rw[vG e]
theorem p8 {p q:Program}{loose:List Str}{Xt:Shared→Bool}{α:Type}{Yf:Shared→α}{Ya:WW→α}{N M:Nat}(le:Nat.ble M N=true)(h0:(jK (start (opening p)).1.heap.objs.toList).2.2=true)
  (run:∀ w:WW,(ly (opening p) w N (sT (start (opening p)).1) (start (opening p)).2).bind (fun r=>(fenceModules? p r.abs).bind fun cQ=>(lu p w cQ.heap.objs.size (cQ.heap.nsMap mainGlobals "__annotations__") M (sT cQ) (topStub p)).map fun s=>
    ((jK cQ.heap.objs.toList).2.2&&(cQ.heap.isNs mainGlobals&&cQ.gens.size==0)&&(staticsOk (importedModules p.main.body) cQ.heap s.abs.heap&&namesBound p s.abs.heap&&gensDone s.abs&&laidKept cQ.heap s.abs.heap),Fast.tw4187177175401517315 q loose (importedModules p.main.body) Xt true s.abs,Yf s.abs))=
   some (true,openGood q loose,Ya w)):LeftO p q loose Xt Yf Ya N:=fun w=>by
 have run:=run w;rw[←Fast.te4187177175401517315] at run;obtain⟨r0,e0,r⟩:=Option.bind_eq_some_iff.mp run;obtain⟨cQ,e,r⟩:=Option.bind_eq_some_iff.mp r;obtain⟨s,r,l⟩:=Option.map_eq_some_iff.mp r;obtain⟨l1,l2,l3⟩:_∧_∧_:=by simpa only[Prod.mk.injEq] using l
 obtain⟨l1,l4⟩:=Bool.and_eq_true_iff.mp l1;obtain⟨l0,l1⟩:=Bool.and_eq_true_iff.mp l1;have e0:=i9 e0;rw[vH h0] at e0;have r:=i8 r;rw[vH l0] at r;have r:=topRun_mono (N-M) _ _ _ _ r;rw[show M+(N-M)=N by have:=Nat.le_of_ble_eq_true le;omega] at r;have t:topFrom treeTable p w N cQ=some s.abs:=by
  unfold topFrom;rw[l1,r];show(match staticsOk (importedModules p.main.body) cQ.heap s.abs.heap&&namesBound p s.abs.heap&&gensDone s.abs&&laidKept cQ.heap s.abs.heap with|true=>_|false=>_)=_;rw[l4]
 have f:fencedOpening treeTable p w N=some cQ:=by
  unfold fencedOpening;rw[e0];exact e
 unfold openEnds;rw[f];show(topFrom treeTable p w N _).map _=_;rw[t];exact congrArg some (Prod.ext l2 l3)
def q0:Program:=view pw [50]
def oO:List Str:=pw.boundNames.filter fun n=>n !="law"
noncomputable def JF:List Addr:=[0,2,3,77,83,84,156,157,170,171,177,178,184,185,191,192,196,197,210,211,237,238,240,241,242,267,268,498,508,514,515,521,522,528,529,684,690,691,744,745,797,803,804,810,811,812,818,819,840,841,847,848,869,870,876,877,879,880,888,889,893,894,898,899]
theorem BS (P:Params):JF=(kh P).map (·.1):=rfl
theorem JG (w:WW):(ly (opening pw) w 12222 (sT (start (opening pw)).1) (start (opening pw)).2).bind (fun r=>(fenceModules? pw r.abs).bind fun cQ=>(lu pw w cQ.heap.objs.size (cQ.heap.nsMap mainGlobals "__annotations__") 7000 (sT cQ) (topStub pw)).map fun s=>
    ((jK cQ.heap.objs.toList).2.2&&(cQ.heap.isNs mainGlobals&&cQ.gens.size==0)&&(staticsOk (importedModules pw.main.body) cQ.heap s.abs.heap&&namesBound pw s.abs.heap&&gensDone s.abs&&laidKept cQ.heap s.abs.heap),Fast.tw4187177175401517315 q0 oO (importedModules pw.main.body) (fun _=>true) true s.abs,obsZ JF s.abs))=
   some (true,openGood q0 oO,valZ kh 900 1391 w):=by kernel_rfl
theorem Gm:LeftO pw q0 oO (fun _=>true) (obsZ JF) (valZ kh 900 1391) 12222:=p8 rfl (by kernel_rfl) JG
structure RS (A:Ow) where
 l:List Ow
 h:l.flatten=A
namespace RS
noncomputable def n:RS []:=⟨[],rfl⟩
noncomputable def c {x:Nat×Obj}{A:Ow}(r:RS A):RS (x::A):=⟨[x]::r.l,congrArg (x::·) r.h⟩
noncomputable def p {A B:Ow}(r:RS A)(s:RS B):RS (A++B):=⟨r.l++s.l,by rw[List.flatten_append,r.h,s.h]⟩
noncomputable def a {A:Ow}:RS A:=⟨[A],ck A⟩
end RS
local macro_rules |`(tactic|ac_nf)=>`(tactic|repeat' first|exact RS.n|with_reducible refine RS.c ?_|with_reducible refine RS.p ?_ ?_|exact RS.a)
def I2 (is:LN)(n:Nat):Bool:=is.isPerm (List.range n)
noncomputable def ET (is:LN)(l:List Ow):List Ow:=is.map fun i=>l.getD i []
theorem lU {is:LN}{l:List Ow}(h:I2 is l.length=true):(ET is l).Perm l:=by
 have h1:is.Perm (List.range l.length):=List.isPerm_iff.mp h;have h2:=h1.map (fun i=>l.getD i []);have h3:(List.range l.length).map (fun i=>l.getD i [])=l:=by
  apply List.ext_getElem
  ·simp
  ·intro i h1 h2
   simp at h1;simp[h1]
 rw[h3] at h2;exact h2
theorem pm (is:LN){A B:Ow}(r:RS A:=by ac_nf)(s:RS B:=by ac_nf)
  (h:(I2 is r.l.length,ET is r.l)=(true,s.l):=by kernel_rfl):A.Perm B:=by
 obtain⟨h1,h2⟩:=Prod.mk.inj h;have z:=(lU h1).flatten;rw[h2,s.h,r.h] at z;exact z.symm
theorem i' (is js:LN){A B X Y:Ow}(f:X.Perm Y)(r:RS A:=by ac_nf)(s:RS B:=by ac_nf)
  (u:RS X:=by ac_nf) (v:RS Y:=by ac_nf)
  (h:(I2 is r.l.length,I2 js s.l.length,ET is r.l,ET js s.l)=(true,true,u.l++(ET is r.l).drop u.l.length,v.l++(ET is r.l).drop u.l.length):=by kernel_rfl):A.Perm B:=by
 obtain⟨h1,h2,h3,h4⟩:=yB h;have z:=(lU h1).flatten;have y:=(lU h2).flatten;rw[h3,List.flatten_append,u.h,r.h] at z;rw[h4,List.flatten_append,v.h,s.h] at y;exact z.symm.trans ((f.append_right _).trans y)
def nC (c:Code):Code:=match c with
 |.call f a=> .call f ⟨pZ a.pos,a.kw⟩
 |.builtin f a=> .builtin f ⟨pZ a.pos,a.kw⟩
 |c=>c
def vI (t:NT)(c:Code):Code:=match c with
 |.call f a=> .call f ⟨c7 t a.pos 0,a.kw⟩
 |.builtin f a=> .builtin f ⟨c7 t a.pos 0,a.kw⟩
 |c=>c
theorem vJ (c:Code):∃ t,c=vI t (nC c):=by
 cases c with
 |call f a=>
  obtain⟨t,ht⟩:=jI a.pos 0;exact⟨t,by simp only[vI,nC,ht]⟩
 |builtin f a=>
  obtain⟨t,ht⟩:=jI a.pos 0;exact⟨t,by simp only[vI,nC,ht]⟩
 |_=>exact⟨fun _=>0,rfl⟩
section
variable {prog:Program}{w:WW}{aa:Heap}
def fc (prog:Program)(w:WW)(aa:Heap)(lv:Nat)(c0:Code)(cA:Ow)(r0:(N2)→Result)(L0:(N2)→Ow):Prop:=
 ∀ t x,d3 prog w aa lv (vI t c0) (rt cA x) (fun r L=>∃ a,nR r=r0 a∧nL L=L0 a)
def fP (lv:Nat)(c0:Code)(cA:Ow)(r0:(N2)→Result)(L0:(N2)→Ow)(h:fc prog w aa lv c0 cA r0 L0):Ent prog w aa where
 lv:=lv
 f:=fun c rs u=>⟨vC (u.n 0) (r0 fun i=>u.n (Nat.succ i)),rt (L0 fun i=>u.n (Nat.succ i)) u.t⟩
 I:=fun _ _ _=>True
 vf:=fun c rs=>[.eq (.c (nC c)) (.c c0),.eq (.w (nL rs)) (.w cA)]
 quiet:=fun c rs m hm=>by
  rcases ba.mp hm with rfl|hm
  ·trivial
  ·rcases ba.mp hm with rfl|hm
   ·trivial
   ·nomatch hm
 ok:=fun c rs hf _=>by
  have h1:nC c=c0:=by
   have z:TV.c (nC c)=TV.c c0:=hf _ (.head _);injection z
  have h2:nL rs=cA:=by
   have z:TV.w (nL rs)=TV.w cA:=hf _ (.tail _ (.head _));injection z
  obtain⟨t,ht⟩:=vJ c;obtain⟨x,hx⟩:=il rs;rw[ht,h1];have hT:=h t x;rw[←h2] at hT;intro A R Fr hh g d os tok size hA _ hD kk;refine hT A R Fr hh g d os tok size hA (hD.same hx.1.append) fun r L h' g' aN aC hP G D'=>?_;obtain⟨a,ha,hL⟩:=hP;obtain⟨t',tD⟩:=vD r;obtain⟨x',jJ⟩:=il L;refine kk r (rt (nL L) x') h' g' aN aC ⟨⟨fun i=>match i with|0=>t'|i+1=>a i,x',fun _=>[],fun _ _=>0,fun _=>default⟩,trivial,?_⟩ G (D'.same jJ.1.append);show(⟨vC t' (r0 a),rt (L0 a) x'⟩:BN)=⟨r,rt (nL L) x'⟩;rw[←ha,←hL,←tD]
noncomputable def ix:LN→Nat→Nat
 |[],_=>0
 |x::_,0=>x
 |_::l,n+1=>ix l n
noncomputable def fe (l:List (Nat×Nat))(s:SV)(i:Nat):Nat:=match l[i]? with
 |some p=>(s p.1).u.n p.2
 |none=>0
noncomputable def oP (l:List (Nat×Nat))(s:SV)(i:Nat):N2:=match l[i]? with
 |some p=>(s p.1).u.f p.2
 |none=>fun _=>0
def adr (rs:Ow)(k:Nat):Nat:=match sy k rs with
 |some p=>p.1
 |none=>0
def BU (lv:Nat)(c0:(N2)→Code)(cA:(N2)→Ow)(r0:(N2)→(N2)→Result)(L0:(N2)→(N2)→Ow)(h:∀ a,fc prog w aa lv (c0 a) (cA a) (r0 a) (L0 a)):Ent prog w aa where
 lv:=lv
 f:=fun c rs u=>(fP lv (c0 (adr rs)) (cA (adr rs)) (r0 (adr rs)) (L0 (adr rs)) (h (adr rs))).f c rs u
 I:=fun _ _ _=>True
 vf:=fun c rs=>(fP lv (c0 (adr rs)) (cA (adr rs)) (r0 (adr rs)) (L0 (adr rs)) (h (adr rs))).vf c rs
 quiet:=fun c rs=>(fP lv (c0 (adr rs)) (cA (adr rs)) (r0 (adr rs)) (L0 (adr rs)) (h (adr rs))).quiet c rs
 ok:=fun c rs=>(fP lv (c0 (adr rs)) (cA (adr rs)) (r0 (adr rs)) (L0 (adr rs)) (h (adr rs))).ok c rs
noncomputable def Made.Bd:Made→Prop
 |.val _=>True
 |.int _=>True
 |.str x=>x.length≤sizeLine
 |_=>False
def Made.nv:Made→Value
 |.val v=>nV v
 |.int i=> .int i 0
 |.str x=> .str x 0
 |_=> .none
theorem p9 {m:Made}(hm:Made.Bd m){Q:Value→Shared→Prop}{s:Shared}(h:∀ v aN,nV v=Made.nv m→Q v {s with toks:=aN}):m.post Q s:=by
 cases m with
 |val v=>exact h v s.toks rfl
 |int i=>exact h _ _ rfl
 |str x=>exact⟨hm,h _ _ rfl⟩
 |_=>exact hm.elim
theorem gA {T:String}{name:Str}{id:String}{B:Builtin}{self:Value}{rest:LV}{m:Made}{rs:Ow}{S:PySem.Spec}(slot:Slot T name id)(hT:∀ (s:Shared) size Fr,Rp aa s.heap (rs++Fr) size→s.TypeIs self T)(entry:entryFor table id=some B)(args:argsOk id ⟨self::rest,[]⟩)
  (g:Meets (B ⟨self::rest,[]⟩) S) (hS:∀ A R h size Fr (s:Shared),s.heap=h→Rp aa h (rs++Fr) size→m.post (fun v s'=>R (.ok (.ret v)) s') s→S A R s) (hm:Made.Bd m):
  d3 prog w aa 0 (.call (.builtin id) ⟨self::rest,[]⟩) rs (fun r L=>(∃ v,r=.ok (.ret v)∧nV v=Made.nv m)∧L=rs):=by
 intro A R Fr h g' d os tok size hA hD kk;refine codeAny_call_builtin slot.plain entry (slot.check _ _ _ _ _ _ _ _ (hT _ size Fr hD) args (g prog w A R _ (hS A R h size Fr _ rfl hD ?_)));refine p9 hm fun v aN hv=>?_;exact kk (.ok (.ret v)) rs h g' aN size ⟨⟨v,rfl,hv⟩,rfl⟩ (bh.refl _) hD
theorem bB {T:String}{name:Str}{id:String}{B:Builtin}{self:Value}{rest:LV}{m:Made}(slot:Slot T name id)(hT:∀ s:Shared,s.TypeIs self T)(entry:entryFor table id=some B)(args:argsOk id ⟨self::rest,[]⟩)
  (g:Gives (B ⟨self::rest,[]⟩) m) (hm:Made.Bd m):
  d3 prog w aa 0 (.call (.builtin id) ⟨self::rest,[]⟩) [] (fun r L=>(∃ v,r=.ok (.ret v)∧nV v=Made.nv m)∧L=[]):=
 gA slot (fun s _ _ _=>hT s) entry args g.meets (fun A R h size Fr s _ _ hp=>hp) hm
theorem bM {lv:Nat}{c:Code}{rs:Ow}{v0:Value}{L0:Ow}(h:d3 prog w aa lv c rs (fun r L=>(∃ v,r=.ok (.ret v)∧nV v=v0)∧L=rs))(hL:nL rs=L0):
  d3 prog w aa lv c rs (fun r L=>∃ a:N2,nR r=.ok (.ret v0)∧nL L=L0):=
 h.mono lr fun r L hP=>by
  obtain⟨⟨v,rfl,hv⟩,rfl⟩:=hP;exact⟨fun _=>0,by simp only[nR,hv],hL⟩
theorem Gn (a b c:Int)(hc:a+b=c):fc prog w aa 0 (.call (.builtin "int.__add__") ⟨[.int a 0,.int b 0],[]⟩) [] (fun _=> .ok (.ret (.int c 0))) (fun _=>[]):=fun t x=>by
 subst hc;exact bM (v0:=.int (a+b) 0) (bB F.slot_int_add (fun s=>typeIs_int s a (t 0)) F.entry_int_add (F.args_int_add_2 _ _) (gives_int_add a b (t 0) (t 1)) trivial) rfl
theorem JH (a b:Int)(v:Bool)(hv:decide (a≥b)=v):fc prog w aa 0 (.call (.builtin "int.__ge__") ⟨[.int a 0,.int b 0],[]⟩) [] (fun _=> .ok (.ret (.bool v))) (fun _=>[]):=fun t x=>by
 subst hv;exact bM (v0:=.bool (decide (a≥b))) (bB F.slot_int_ge (fun s=>typeIs_int s a (t 0)) F.entry_int_ge (F.args_int_ge_2 _ _) (gives_int_ge a b (t 0) (t 1)) trivial) rfl
theorem JI (a b:Int)(v:Bool)(hv:decide (a<b)=v):fc prog w aa 0 (.call (.builtin "int.__lt__") ⟨[.int a 0,.int b 0],[]⟩) [] (fun _=> .ok (.ret (.bool v))) (fun _=>[]):=fun t x=>by
 subst hv;exact bM (v0:=.bool (decide (a<b))) (bB F.slot_int_lt (fun s=>typeIs_int s a (t 0)) F.entry_int_lt (F.args_int_lt_2 _ _) (gives_int_lt a b (t 0) (t 1)) trivial) rfl
theorem Gp (x:Str)(hx:¬ (x.length:Int)≥2^63):fc prog w aa 0 (.call (.builtin "len") ⟨[.str x 0],[]⟩) [] (fun _=> .ok (.ret (.int x.length 0))) (fun _=>[]):=fun t y=>by
 refine bM (v0:=.int x.length 0) ?_ rfl;intro A R Fr h g' d os tok size hA hD kk;have hc:=wpAny_mono (M:=model prog w) (A:=A.in1) (E:=fun e s'=>R (.error e) s') (t:=Builtin.«len» ⟨[.str x (t 0)],[]⟩) (s:=⟨h,g',d,tok,os⟩)
  (Q:=fun(fin:Fin) s'=>∃ v,fin=.done (.ret v)∧R (.ok (.ret v)) s') (Q':=fun(fin:Fin) s'=>match fin with
   |.done f=>R (.ok f) s'
   |.again c'=>c'.quiet=true∧codeAny (model prog w) A c' R s') (E':=fun e s'=>R (.error e) s') ?_
  (fun fin s' h'=>by obtain⟨v,rfl,hv⟩:=h';exact hv) fun _ _ h'=>h'
 ·refine codeAny_call_builtin plain_len entry_len ?_
  simp only[checkBuiltinCall,kind_len];have ha:=args_len1 (.str x (t 0));cases JJ:Manifest.signature? "len" with
  |none=>exact aG hc
  |some sig=>
   simp only[argsOk,JJ] at ha;show wpAny _ A.in1 (Bind.checkArgs "len" sig ⟨[.str x (t 0)],[]⟩) _ _ _;rw[ha];exact aG hc
 ·unfold Builtin.«len»
  refine aw (m:=oneArg "len" _) (aG ?_);refine aw (m:=callSpecial? _ (Str.ofString "__len__")) (wpAny_callSpecial?_slot (name:=Str.ofString "__len__") (typeIs_str _ x _) F.slot_str_len (call_gives F.slot_str_len (typeIs_str _ x _) F.entry_str_len (F.args_str_len_1 _) (gives_str_len x (t 0)) ?_));show wpAny _ _ _ _ _ (⟨h,g',d,tok+1,os⟩:Shared);refine aw (wpAny_holding (aG ?_));refine aw (wpAny_letGo ?_);show wpAny _ _ (if(x.length:Int)<0 then _ else _) _ _ _;rw[if_neg (by omega)];show wpAny _ _ (if(x.length:Int)≥2^63 then _ else _) _ _ _;rw[if_neg hx];refine aw (wpAny_mkInt (aG ⟨_,rfl,?_⟩));exact kk (.ok (.ret (.int x.length _))) [] h g' _ size ⟨⟨_,rfl,rfl⟩,rfl⟩ (bh.refl _) hD
end
noncomputable def oQ (l u:Value):Obj:=⟨.type "slice",none,.fields ⟨[l,u,.none]⟩,#[]⟩
theorem kY (X:Str)(p:Nat)(hp:p<X.length)(t u:Tok):slicePicked X (some ((p:Int),t)) (some (((p+1:Nat):Int),u)) none=[p]:=by
 unfold slicePicked Builtin.Str.strSliceIndices;simp only[Option.map,Option.getD];have h1:¬ ((p:Int)<0):=by omega
 have h2:¬ (((p+1:Nat):Int)<0):=by omega
 rw[if_neg h1,if_neg h2,if_pos (by decide),if_pos (by decide)];have e1:max 0 (min (p:Int) X.length)=p:=by omega
 have e2:max 0 (min ((p+1:Nat):Int) X.length)=(p+1:Nat):=by omega
 rw[e1,e2,sliceRange_one];simp
theorem y5 {prog:Program}{w:WW}{aa:Heap}(X:Str)(p c:Nat)(a:Nat)(hc:X.cps[p]?=some c):fc prog w aa 0 (.call (.builtin "str.__getitem__") ⟨[.str X 0,.ref a],[]⟩) [(a,oQ (.int p 0) (.int (p+1:Nat) 0))]
  (fun _=> .ok (.ret (.str (S [c]) 0))) (fun _=>[(a,oQ (.int p 0) (.int (p+1:Nat) 0))]):=fun t x=>by
 have hp:p<X.length:=by
  rw[Array.getElem?_eq_some_iff] at hc;exact hc.1
 have hm:∃ m,sliceMade X (t 0) (some ((p:Int),(x 0).v 0)) (some (((p+1:Nat):Int),(x 0).v 1)) none=m∧Made.Bd m∧Made.nv m=.str (S [c]) 0:=by
  unfold sliceMade;rw[kY X p hp];split
  ·rename_i h
   refine⟨_,rfl,trivial,?_⟩;have h1:X.cps.size=1:=by
    have:=h;simp only[Option.map,Option.getD,dS,List.length_nil] at this;simp[Str.length] at this;exact this.symm
   have h0:p=0:=by
    have:p<X.cps.size:=hp;omega
   subst h0;obtain⟨⟨l⟩⟩:=X
   match l,h1,hc with
   |[y],_,hc=>
    simp at hc;subst hc;rfl
  ·refine⟨_,rfl,?_,?_⟩
   ·show Str.length _≤_
    simp[Str.length,hc,sizeLine]
   ·simp[Made.nv,hc,S]
 obtain⟨m,Np,Nq,Nr⟩:=hm;rw[←Nr];refine bM ?_ rfl;refine gA (T:="str") (self:=.str X (t 0)) (rest:=[.ref a]) F.slot_str_getitem (fun s _ _ _=>typeIs_str s X (t 0)) F.entry_str_getitem (F.args_str_getitem_2 _ _) (meets_str_getitem_slice X (t 0) a (some ((p:Int),(x 0).v 0)) (some (((p+1:Nat):Int),(x 0).v 1)) none rfl) ?_ Nq;intro A R h size Fr s hs D vK;rw[Np];subst hs;exact⟨⟨_,D.get (.head _) (fun _=>rfl),rfl,rfl⟩,vK⟩
section
variable {prog:Program}{w:WW}{aa:Heap}
theorem BV (x:Str)(n:Nat)(hn:x.length=n)(hx:n<2^60):fc prog w aa 0 (.call (.builtin "len") ⟨[.str x 0],[]⟩) [] (fun _=> .ok (.ret (.int n 0))) (fun _=>[]):=by
 subst hn;exact Gp x (by omega)
theorem rB (y x:Str)(v:Bool)(hv:(!(Builtin.Str.occurrences y x 0 y.length 1).isEmpty)=v):fc prog w aa 0 (.call (.builtin "str.__contains__") ⟨[.str y 0,.str x 0],[]⟩) [] (fun _=> .ok (.ret (.bool v))) (fun _=>[]):=fun t z=>by
 subst hv;exact bM (v0:=.bool _) (bB F.slot_str_contains (fun s=>typeIs_str s y (t 0)) F.entry_str_contains (F.args_str_contains_2 _ _) (gives_str_contains y x (t 0) (t 1)) trivial) rfl
theorem y6 (y x:Str)(v:Bool)(hv:(y.cps.toList==x.cps.toList)=v):fc prog w aa 0 (.call (.builtin "str.__eq__") ⟨[.str y 0,.str x 0],[]⟩) [] (fun _=> .ok (.ret (.bool v))) (fun _=>[]):=fun t z=>by
 subst hv;exact bM (v0:=.bool _) (bB F.slot_str_eq (fun s=>typeIs_str s y (t 0)) F.entry_str_eq (F.args_str_eq_2 _ _) (gives_str_eq y x (t 0) (t 1)) trivial) rfl
def m9 (a b c:Int)(hc:a+b=c):Ent prog w aa:=fP 0 _ _ _ _ (Gn a b c hc)
def JK (a b:Int)(v:Bool)(hv:decide (a≥b)=v):Ent prog w aa:=fP 0 _ _ _ _ (JH a b v hv)
def I3 (a b:Int)(v:Bool)(hv:decide (a<b)=v):Ent prog w aa:=fP 0 _ _ _ _ (JI a b v hv)
def BW (x:Str)(n:Nat)(hn:x.length=n)(hx:n<2^60):Ent prog w aa:=fP 0 _ _ _ _ (BV x n hn hx)
def MH (X:Str)(p c:Nat)(hc:X.cps[p]?=some c):Ent prog w aa:=BU 0 _ _ _ _ fun a=>y5 X p c (a 0) hc
def vg (y x:Str)(v:Bool)(hv:(!(Builtin.Str.occurrences y x 0 y.length 1).isEmpty)=v):Ent prog w aa:=fP 0 _ _ _ _ (rB y x v hv)
def vL (y x:Str)(v:Bool)(hv:(y.cps.toList==x.cps.toList)=v):Ent prog w aa:=fP 0 _ _ _ _ (y6 y x v hv)
theorem nT {Q:Nat→Prop}(h0:Q 0)(h1:Q 1)(h2:Q 2)(h3:Q 3)(h4:Q 4)(e:Nat)(he:e<5):Q e:=by
 match e,he with
 |0,_=>exact h0
 |1,_=>exact h1
 |2,_=>exact h2
 |3,_=>exact h3
 |4,_=>exact h4
theorem sG (e:Nat)(he:e<5):(!(Builtin.Str.occurrences (S [92]) (S [e+48]) 0 (S [92]).length 1).isEmpty)=false:=
 nT (Q:=fun e=>(!(Builtin.Str.occurrences (S [92]) (S [e+48]) 0 (S [92]).length 1).isEmpty)=false) (by decide+kernel) (by decide+kernel) (by decide+kernel) (by decide+kernel) (by decide+kernel) e he
theorem qa (e:Nat)(he:e<5):(!(Builtin.Str.occurrences i7 (S [e+48]) 0 i7.length 1).isEmpty)=true:=
 nT (Q:=fun e=>(!(Builtin.Str.occurrences i7 (S [e+48]) 0 i7.length 1).isEmpty)=true) (by decide+kernel) (by decide+kernel) (by decide+kernel) (by decide+kernel) (by decide+kernel) e he
noncomputable def BX (xs:LV):Obj:=⟨.type "tuple",none,.seq ⟨xs⟩ 0,#[]⟩
noncomputable def eqv (y x:Value):Bool:=match y,x with
 |.str a _,.str b _=>a==b
 |.int a _,.int b _=>a==b
 |_,_=>false
noncomputable def alike (y x:Value):Bool:=match y,x with
 |.str _ _,.str _ _=>true
 |.int _ _,.int _ _=>true
 |_,_=>false
theorem ja {y x:Value}(h:alike y x=true):MeetsSeq.EqGives y x (eqv y x):=by
 cases y with
 |int=>cases x<;>first|exact MeetsSeq.EqGives.int _ _ _ _|cases h
 |str=>cases x<;>first|exact eqGives_str _ _ _ _|cases h
 |_=>cases h
theorem tE (y x:Value)(t u:Tok):alike (aZ t y) (aZ u x)=alike y x:=by
 cases y with
 |int=>cases x<;>rfl
 |str=>cases x<;>rfl
 |_=>rfl
theorem y7 (y x:Value)(t u:Tok):eqv (aZ t y) (aZ u x)=eqv y x:=by
 cases y with
 |int=>cases x<;>rfl
 |str=>cases x<;>rfl
 |_=>rfl
theorem jb (x:Value)(u:Tok)(t:NT):∀ (xs:LV)(n:Nat),(∀ y∈xs,alike y x=true)→∀ y∈c7 t xs n,alike y (aZ u x)=true
 |[],_,_,y,hy=>nomatch hy
 |z::xs,n,h,y,hy=>by
  rcases ba.mp (show y∈aZ (t n) z::c7 t xs (n+1) from hy) with rfl|hy
  ·rw[tE];exact h _ (.head _)
  ·exact jb x u t xs (n+1) (fun y hy=>h y (.tail _ hy)) y hy
theorem sH (x:Value)(u:Tok)(t:NT):∀ (xs:LV)(n:Nat),(c7 t xs n).any (fun y=>eqv y (aZ u x))=xs.any (fun y=>eqv y x)
 |[],_=>rfl
 |z::xs,n=>by
  show((aZ (t n) z::c7 t xs (n+1)).any _)=_;rw[List.any_cons,List.any_cons,y7,sH x u t xs (n+1)]
theorem y8 (a:Nat)(xs:LV)(x:Value)(v:Bool)(ha:(xs.all fun y=>alike y x)=true)(hv:xs.any (fun y=>eqv y x)=v):
  fc prog w aa 0 (.call (.builtin "tuple.__contains__") ⟨[.ref a,x],[]⟩) [(a,BX xs)] (fun _=> .ok (.ret (.bool v))) (fun _=>[(a,⟨.type "tuple",none,.seq ⟨pZ xs⟩ 0,#[]⟩)]):=fun t z=>by
 subst hv;have h1:∀ y∈(⟨c7 (z 0).v xs 0⟩:Array Value),alike y (aZ (t 1) x)=true:=fun y hy=>jb x (t 1) (z 0).v xs 0 (List.all_eq_true.mp ha) y (Array.mem_def.mp hy);have hn:∀ (xs:LV)(f:NT)(n:Nat),pZ (c7 f xs n)=pZ xs:=by
  intro xs f
  induction xs with
  |nil=>intro _;rfl
  |cons v xs ih=>
   intro n;show nV (aZ (f n) v)::pZ (c7 f xs (n+1))=nV v::pZ xs;rw[ih (n+1)];congr 1;cases v<;>rfl
 refine bM (v0:=.bool (xs.any fun y=>eqv y x)) ?_ (by
  show[(a,nO (bg (z 0) (BX xs)))]=_;simp only[nO,bg,BX,hn,yW])
 refine gA (T:="tuple") (m:=.val (.bool (xs.any fun y=>eqv y x))) (self:=.ref a) (rest:=[aZ (t 1) x]) F.slot_tuple_contains ?_ F.entry_tuple_contains (F.args_tuple_contains_2 _ _)
  (MeetsSeq2.tuple_contains a ⟨c7 (z 0).v xs 0⟩ (z 0).e (aZ (t 1) x) (fun y=>eqv y (aZ (t 1) x)) fun y hy=>ja (h1 y hy)) ?_ trivial
 ·intro s size Fr D
  exact⟨_,D.get (.head _) (fun _=>rfl),rfl⟩
 ·intro A R h size Fr s hs D vK
  subst hs;have hr:=sH x (t 1) (z 0).v xs 0;refine⟨D.get (.head _) (fun _=>rfl),?_⟩;show R (.ok (.ret (.bool (Array.any ⟨c7 (z 0).v xs 0⟩ fun y=>eqv y (aZ (t 1) x))))) s;have e:Array.any ⟨c7 (z 0).v xs 0⟩ (fun y=>eqv y (aZ (t 1) x))=xs.any (fun y=>eqv y x):=by
   rw[←hr,List.any_toArray]
  rw[e];exact vK
def rC (xs:LV)(x:Value)(v:Bool)(ha:(xs.all fun y=>alike y x)=true)(hv:xs.any (fun y=>eqv y x)=v):Ent prog w aa:=BU 0 _ _ _ _ fun a=>y8 (a 0) xs x v ha hv
end
@[irreducible] def dF (w:WW):KT:=Nn w.params
def yF (b:Bool)(c:Code):Code:=match b with|true=>c|false=>nC c
def bV (b:Bool)(t:NT)(c:Code):Code:=match b with|true=>c|false=>vI t c
theorem oR (b:Bool)(c:Code):∃ t,c=bV b t (yF b c):=by
 cases b with
 |true=>exact⟨fun _=>0,rfl⟩
 |false=>exact vJ c
def nU (b:Bool)(r:Result):Result:=match b with|true=>r|false=>nR r
def lV (b:Bool)(t:Tok)(r:Result):Result:=match b with|true=>r|false=>vC t r
theorem lA (b:Bool)(r:Result):∃ t,r=lV b t (nU b r):=by
 cases b with
 |true=>exact⟨0,rfl⟩
 |false=>exact vD r
def vM (ps:LN)(l:Ow):Ow×Ow:=match pull ps l with
 |some x=>x
 |none=>([],[])
theorem nW:∀ (k:Nat)(l:Ow),(aR k l).Sublist l
 |0,l=>List.Sublist.refl l
 |k+1,[]=>List.Sublist.refl _
 |k+1,p::t=>(nW k t).cons p
section
variable {prog:Program}{w:WW}{aa:Heap}{kt:KT}
def Out.get (ps:LN)(o:Out):Ow:=(vM ps o.own).1
def Out.rest (ps:LN)(g:Nat)(o:Out):Ow:=aR g (vM ps o.own).2
theorem Rp.out {h:Heap}{o:Out}{size:Nat}(D:Rp aa h o.own size)(ps:LN)(g:Nat):Rp aa h (o.get ps++o.rest ps g) size:=by
 unfold Out.get Out.rest vM;cases e:pull ps o.own with
 |none=>exact⟨D.sz,D.keep,fun p hp=>by cases g<;>exact(nomatch hp),by cases g<;>exact List.nodup_nil,D.le⟩
 |some x=>exact(D.perm (j8 e)).sub ((List.Sublist.refl _).append (nW g x.2))
def cI (prog:Program)(w:WW)(aa:Heap)(kt:KT)(lv:Nat)(fr:OE)(n:Nat)(or:List (eV prog w aa))(c:Code)(L:Ow)(x:SV×Nat×Nat):Out:=
 run (aa:=aa) ⟨prog,w.params⟩ kt lv fr n x.1 or (.bL c) (startT kt c) L x.2.1 x.2.2 []
noncomputable def aO (fr fr':OE):Prop:=∀ l,fr=some l→fr'=some l
theorem aO.none {fr:OE}:aO none fr:=fun _ h=>nomatch h
theorem aO.refl {fr:OE}:aO fr fr:=fun _ h=>h
theorem aJ.mono {lv rj:Nat}{fr:OE}{c:Code}{rs:Ow}{P P':Result→Ow→Prop}(h:aJ prog w aa lv fr c rs P)(hl:lv≤rj)(hP:∀ r L,P r L→P' r L):aJ prog w aa rj fr c rs P':=
 fun A R Fr h' g d os tok size hA hf hD kk=>h A R Fr h' g d os tok size (hA.le hl) hf hD fun r L' h' g' t s p G D=>kk r L' h' g' t s (hP r L' p) G D
theorem aJ.perm {lv:Nat}{fr:OE}{c:Code}{rs Gq:Ow}{P:Result→Ow→Prop}(h:aJ prog w aa lv fr c rs P)(hl:Gq.Perm rs):aJ prog w aa lv fr c Gq P:=
 fun A R Fr h' g d os tok size hA hf hD kk=>h A R Fr h' g d os tok size hA hf (hD.perm (hl.append_right Fr)) kk
theorem aJ.frame {lv:Nat}{fr:OE}{c:Code}{rs:Ow}{P:Result→Ow→Prop}(h:aJ prog w aa lv fr c rs P)(X:Ow):aJ prog w aa lv fr c (rs++X) fun r L=>∃ L',L=L'++X∧P r L':=
 fun A R Fr h' g d os tok size hA hf hD kk=>h A R (X++Fr) h' g d os tok size hA hf (by rw[←a5];exact hD) fun r L' h' g' t s p G D=>kk r (L'++X) h' g' t s ⟨L',rfl,p⟩ G (by rw[a5];exact D)
theorem vN (B:Base w aa kt){lv:Nat}{fr fr':OE}(iY:aO fr fr')(n:Nat)(or:List (eV prog w aa))(ps:LN)(gn:Nat){c:Code}{rs:Ow}{P:Result→Ow→Prop}{α:Type}(view:Result→Ow→α)(v:SV×Nat×Nat→Ow→α)
  (e:∀ x Fr,((cI prog w aa kt lv fr n or c (rs++Fr) x).kind,ij (cI prog w aa kt lv fr n or c (rs++Fr) x).tr,(cI prog w aa kt lv fr n or c (rs++Fr) x).rest ps gn,view (cI prog w aa kt lv fr n or c (rs++Fr) x).res ((cI prog w aa kt lv fr n or c (rs++Fr) x).get ps))=
   (1,ik (cI prog w aa kt lv fr n or c (rs++Fr) x).tr,Fr,v x ((cI prog w aa kt lv fr n or c (rs++Fr) x).get ps)))
  (hP:∀ x r L',view r L'=v x L'→P r L'):aJ prog w aa (lv+1) fr' c rs P:=by
 intro A R Fr h g d os tok size hA hf hD kk;let V:V:=⟨prog,w,aa,kt,A,fr,R,fun _ _=>True,g,d,os⟩;have O:V.Ok lv:=⟨B.kt,B.lim,hA,fun l z=>hf l (iY l z)⟩;have z:=cL O n or (.bL c) (startT kt c) (rs++Fr) size tok [] trivial fun sv=>by
  have e:=e (sv,size,tok) Fr;show W V (cI prog w aa kt lv fr n or c (rs++Fr) (sv,size,tok));generalize cI prog w aa kt lv fr n or c (rs++Fr) (sv,size,tok)=o at e;obtain⟨e1,e2,e4,e5⟩:=yB e;cases o with
  |fin r L' aC aN tr=>
   refine⟨bt e2,fun T h' g' G D'=>⟨?_,trivial⟩⟩;refine kk r _ h' g' aN aC (hP _ _ _ e5) G ?_;have y:=Rp.out (o:=.fin r L' aC aN tr) D' ps gn;rw[e4] at y;exact y
  |stop=>obtain⟨_,z⟩|z:=nS e1<;>cases z
  |d5=>obtain⟨_,z⟩|z:=nS e1<;>cases z
  |_=>cases e1
 exact fA (V:=V) O hD (z.2 (fun _ h=>nomatch h) h g (bh.refl g) hD)
theorem tF (B:Base w aa kt){lv:Nat}{fr fr':OE}(iY:aO fr fr')(n:Nat)(or:List (eV prog w aa))(ps:LN)(gn:Nat){c:Code}{rs:Ow}{P:Result→Ow→Prop}{α:Type}(view:Code→Ow→α)(v:SV×Nat×Nat→Ow→α)
  (e:∀ x Fr,((cI prog w aa kt lv fr n or c (rs++Fr) x).kind,ij (cI prog w aa kt lv fr n or c (rs++Fr) x).tr,(cI prog w aa kt lv fr n or c (rs++Fr) x).rest ps gn,view (cI prog w aa kt lv fr n or c (rs++Fr) x).code ((cI prog w aa kt lv fr n or c (rs++Fr) x).get ps))=
   (5,ik (cI prog w aa kt lv fr n or c (rs++Fr) x).tr,Fr,v x ((cI prog w aa kt lv fr n or c (rs++Fr) x).get ps)))
  {rj:Nat} (eh:lv+1≤rj) (Y:Ow) (hP:∀ x c' L',view c' L'=v x L'→aJ prog w aa rj fr' c' (L'++Y) P):aJ prog w aa rj fr' c (rs++Y) P:=by
 intro A R Fr h g d os tok size hA hf hD kk;rw[a5] at hD;let V:V:=⟨prog,w,aa,kt,A,fr,R,fun _ _=>True,g,d,os⟩;have O:V.Ok lv:=⟨B.kt,B.lim,hA.le eh,fun l z=>hf l (iY l z)⟩;have z:=cL O n or (.bL c) (startT kt c) (rs++(Y++Fr)) size tok [] trivial fun sv=>by
  have e:=e (sv,size,tok) (Y++Fr);show W V (cI prog w aa kt lv fr n or c (rs++(Y++Fr)) (sv,size,tok));generalize cI prog w aa kt lv fr n or c (rs++(Y++Fr)) (sv,size,tok)=o at e;obtain⟨e1,e2,e4,e5⟩:=yB e;cases o with
  |tail c' L' aC aN tr=>
   refine⟨bt e2,fun T h' g' G D'=>?_⟩;refine hP _ _ _ e5 A R Fr h' g' d os aN aC hA hf ?_ fun r rk jM nc Nt MI p G' tG=>kk r rk jM nc Nt MI p (G.trans G') tG;have y:=Rp.out (o:=.tail c' L' aC aN tr) D' ps gn;rw[e4] at y;rw[a5];exact y
  |stop=>obtain⟨_,z⟩|z:=nS e1<;>cases z
  |d5=>obtain⟨_,z⟩|z:=nS e1<;>cases z
  |_=>cases e1
 exact fA (V:=V) O hD (z.2 (fun _ h=>nomatch h) h g (bh.refl g) hD)
def bJ (tk:SV→Nat→Nat)(X:SV×Nat×Nat)(L:Ow)(i:Nat):Nat:=match Nat.ble 1000 i with
 |true=>tk X.1 (Nat.sub i 1000)
 |false=>adr L i
def tH (prog:Program)(w:WW)(aa:Heap)(lv:Nat)(bc br:Bool)(c0:Code)(cA ra:Ow)(r0:(N2)→Result)(L0 ey:(N2)→Ow):Prop:=
 ∀ t x,d3 prog w aa lv (bV bc t c0) (rt cA x++ra) (fun r L=>∃ b L1,L=L1++ey b∧nU br r=r0 b∧nL L1=L0 b)
def fB (lv:Nat)(bc br:Bool)(k:Nat)(c0:Code→Ow→Code)(cA ra:Code→Ow→Ow)(r0:Code→Ow→(N2)→Result)(L0 ey:Code→Ow→(N2)→Ow)(h:∀ c rs,tH prog w aa lv bc br (c0 c rs) (cA c rs) (ra c rs) (r0 c rs) (L0 c rs) (ey c rs)):Ent prog w aa where
 lv:=lv
 f:=fun c rs u=>⟨lV br (u.n 0) (r0 c rs fun i=>u.n (Nat.succ i)),rt (L0 c rs fun i=>u.n (Nat.succ i)) u.t++ey c rs fun i=>u.n (Nat.succ i)⟩
 I:=fun _ _ _=>True
 vf:=fun c rs=>[.eq (.c (yF bc c)) (.c (c0 c rs)),.eq (.w (nL (aT k rs))) (.w (cA c rs)),.eq (.w (aR k rs)) (.w (ra c rs))]
 quiet:=fun c rs m hm=>by
  rcases ba.mp hm with rfl|hm
  ·trivial
  ·rcases ba.mp hm with rfl|hm
   ·trivial
   ·rcases ba.mp hm with rfl|hm
    ·trivial
    ·nomatch hm
 ok:=fun c rs hf _=>by
  have h1:yF bc c=c0 c rs:=by
   have z:TV.c (yF bc c)=TV.c (c0 c rs):=hf _ (.head _);injection z
  have h2:nL (aT k rs)=cA c rs:=by
   have z:TV.w (nL (aT k rs))=TV.w (cA c rs):=hf _ (.tail _ (.head _));injection z
  have h3:aR k rs=ra c rs:=by
   have z:TV.w (aR k rs)=TV.w (ra c rs):=hf _ (.tail _ (.tail _ (.head _)));injection z
  obtain⟨t,ht⟩:=oR bc c;obtain⟨x,hx⟩:=il (aT k rs);have hT:=h c rs t x;rw[←h1,←h2,←h3,←ht] at hT;intro A R Fr hh g d os tok size hA _ hD kk;have gZ:Rp aa hh (rt (nL (aT k rs)) x++aR k rs++Fr) size:=by
   rw[←take_drop k rs] at hD;exact hD.same hx.1.append.append
  refine hT A R Fr hh g d os tok size hA gZ fun r L h' g' aN aC hP G D'=>?_;obtain⟨b,L1,rfl,hb,hL⟩:=hP;obtain⟨t',tD⟩:=lA br r;obtain⟨x',jJ⟩:=il L1;refine kk r (rt (nL L1) x'++ey c rs b) h' g' aN aC ⟨⟨fun i=>match i with|0=>t'|i+1=>b i,x',fun _=>[],fun _ _=>0,fun _=>default⟩,trivial,?_⟩ G (D'.same jJ.1.append.append);show(⟨lV br t' (r0 c rs b),rt (L0 c rs b) x'++ey c rs b⟩:BN)=⟨r,rt (nL L1) x'++ey c rs b⟩;rw[←hb,←hL,←tD]
end
noncomputable def gB (c:Code)(i:Nat):Value:=match c with
 |.call _ a=>match a.pos[i]? with
  |some v=>v
  |none=> .none
 |.builtin _ a=>match a.pos[i]? with
  |some v=>v
  |none=> .none
 |_=> .none
theorem oS:entryFor table "collections.deque.popleft"=some Builtin.«collections.deque.popleft»:=entryFor_of_fast (by kernel_rfl)
theorem nf:entryFor table "collections.deque.appendleft"=some Builtin.«collections.deque.appendleft»:=entryFor_of_fast (by kernel_rfl)
section
variable {prog:Program}{w:WW}{aa:Heap}
theorem Rp.upd {h:Heap}{Fr:Ow}{size:Nat}{a:Nat}{o o':Obj}{f:Obj→Obj}(D:Rp aa h ([(a,o)]++Fr) size)(ho:∀ s,wS o s=o)(hf:f o=o')(hn:o'.isFreed=false):Rp aa (h.update a f) ([(a,o')]++Fr) size:=by
 have y:=Rp.update (f:=f) (sl:=#[]) D (n:=0) (x:=(a,o)) rfl (by rw[ho];exact D.get (.head _) ho) (by rw[ho,hf];exact hn);rw[ho,hf] at y;exact y
theorem tI (a:Nat)(k:Int)(t:Tok)(v:Value)(vs:LV)(hb:vs.length≤1000):d3 prog w aa 0 (.builtin "collections.deque.popleft" ⟨[.ref a],[]⟩) [(a,cq k t (v::vs))] (fun r L=>r=.ok (.ret v)∧L=[(a,cq (k+1) 0 vs)]):=by
 intro A R Fr h g d os tok size hA hD kk;have hl:h.get? a=some (cq k t (v::vs)):=hD.get (.head _) (fun _=>rfl);refine dw oS ?_;unfold Builtin.«collections.deque.popleft»;refine aw (m:=selfOnly "deque.popleft" _) (aG ?_);refine aw (m:=Builtin.Deque.items (.ref a)) (aw (wpAny_fieldsOf hl rfl (aG ?_)));have e0:(({toList:=Value.none::Value.int k t::v::vs}:Array Value).extract 2)[0]?=some v:=by simp
 rw[e0];refine aw (m:=Builtin.Deque.change (.ref a) _ true) ?_;show wpAny _ _ (do let s←Builtin.Deque.state (.ref a);updateFields a fun vs=>#[vs.getD 0 .none,rawInt (s+1)]++(vs.extract 2 vs.size).eraseIdxIfInBounds 0) _ _ _;refine aw (m:=Builtin.Deque.state (.ref a)) (aw (wpAny_field hl rfl rfl (aG ?_)));have e1:#[({toList:=Value.none::Value.int k t::v::vs}:Array Value).getD 0 .none,rawInt (k+1)]++(({toList:=Value.none::Value.int k t::v::vs}:Array Value).extract 2 ({toList:=Value.none::Value.int k t::v::vs}:Array Value).size).eraseIdxIfInBounds 0=⟨.none::.int (k+1) 0::vs⟩:=by
  simp[rawInt,Array.eraseIdxIfInBounds]
 refine wpAny_updateFields hl rfl (aG ?_) (by rw[e1];simp[sizeLine];omega);refine kk (.ok (.ret v)) [(a,cq (k+1) 0 vs)] _ g tok size ⟨rfl,rfl⟩ (bh.refl _) (hD.upd (fun _=>rfl) ?_ rfl);exact congrArg (fun xs=>(⟨.type "collections.deque",none,.fields xs,#[]⟩:Obj)) e1
theorem oT (a:Nat)(k:Int)(t:Tok)(v:Value)(vs:LV)(hb:vs.length≤1000):d3 prog w aa 0 (.builtin "collections.deque.appendleft" ⟨[.ref a,v],[]⟩) [(a,cq k t vs)] (fun r L=>r=.ok (.ret .none)∧L=[(a,cq (k+1) 0 (v::vs))]):=by
 intro A R Fr h g d os tok size hA hD kk;have hl:h.get? a=some (cq k t vs):=hD.get (.head _) (fun _=>rfl);refine dw nf ?_;unfold Builtin.«collections.deque.appendleft»;refine aw (m:=selfAndOne "deque.appendleft" _) (aG ?_);refine aw (m:=Builtin.Deque.pushLeft (.ref a) v) ?_;unfold Builtin.Deque.pushLeft;refine aw (m:=Builtin.Deque.change (.ref a) _ true) ?_;show wpAny _ _ (do let s←Builtin.Deque.state (.ref a);updateFields a fun vs=>#[vs.getD 0 .none,rawInt (s+1)]++(#[v]++(vs.extract 2 vs.size))) _ _ _;refine aw (m:=Builtin.Deque.state (.ref a)) (aw (wpAny_field hl rfl rfl (aG ?_)));have e1:#[({toList:=Value.none::Value.int k t::vs}:Array Value).getD 0 .none,rawInt (k+1)]++(#[v]++(({toList:=Value.none::Value.int k t::vs}:Array Value).extract 2 ({toList:=Value.none::Value.int k t::vs}:Array Value).size))=⟨.none::.int (k+1) 0::v::vs⟩:=by
  simp[rawInt]
 refine wpAny_updateFields hl rfl ?_ (by rw[e1];simp[sizeLine];omega);have ho:Obj.mapFields (fun vs=>#[vs.getD 0 Value.none,rawInt (k+1)]++(#[v]++vs.extract 2)) (cq k t vs)=cq (k+1) 0 (v::vs):=by
  exact congrArg (fun xs=>(⟨.type "collections.deque",none,.fields xs,#[]⟩:Obj)) e1
 have D':=hD.upd (f:=Obj.mapFields (fun vs=>#[vs.getD 0 Value.none,rawInt (k+1)]++(#[v]++vs.extract 2))) (fun _=>rfl) ho rfl;have yE:=D'.get (.head _) (fun _=>rfl);refine aw (m:=Builtin.Deque.maxlen (.ref a)) (aw (wpAny_field yE rfl rfl (aG ?_)));refine aG (aG ?_);exact kk (.ok (.ret .none)) [(a,cq (k+1) 0 (v::vs))] _ g tok size ⟨rfl,rfl⟩ (bh.refl _) D'
theorem oU:entryFor table "collections.deque.__len__"=some Builtin.«collections.deque.__len__»:=entryFor_of_fast (by kernel_rfl)
theorem ip:Slot "collections.deque" "__len__" "collections.deque.__len__":=
 .of (owner:="collections.deque") (n:="__len__") (by rw[typeLookup_type,builtinLookup_eq_fast];kernel_rfl) (by decide+kernel) (by decide+kernel) (by decide+kernel)
  (by first|exact .inl (by decide+kernel)|exact .inr (by decide+kernel)) (by rw[isSubtype_type];kernel_rfl)
theorem qb (a:Value):argsOk "collections.deque.__len__" ⟨[a],[]⟩:=by unfold argsOk;kernel_rfl
theorem y9 (a:Nat)(k:Int)(t:Tok)(vs:LV)(hb:vs.length≤1000):d3 prog w aa 0 (.builtin "len" ⟨[.ref a],[]⟩) [(a,cq k t vs)] (fun r L=>nR r=.ok (.ret (.int vs.length 0))∧L=[(a,cq k t vs)]):=by
 intro A R Fr h g d os tok size hA hD kk;have hl:h.get? a=some (cq k t vs):=hD.get (.head _) (fun _=>rfl);refine dw entry_len ?_;unfold Builtin.«len»;refine aw (m:=oneArg "len" _) (aG ?_);refine aw (m:=callSpecial? (.ref a) (Str.ofString "__len__")) (wpAny_callSpecial?_slot (name:=Str.ofString "__len__") ⟨_,hl,rfl⟩ ip
  (wpAny_call (codeAny_call_builtin ip.plain oU (ip.check _ _ _ _ _ _ _ _ ⟨_,hl,rfl⟩ (qb _) ?_))))
 unfold Builtin.«collections.deque.__len__»;refine aw (m:=slotArgs "__len__" 0 _) (aG ?_);refine aw (m:=Builtin.Deque.size (.ref a)) (aw (wpAny_fieldsOf hl rfl (aG ?_)));have e1:({toList:=Value.none::Value.int k t::vs}:Array Value).size-2=vs.length:=by simp
 rw[e1];refine aw (m:=mkInt (vs.length:Int)) (wpAny_mkInt (aG ?_));refine aw (wpAny_holding (aG ?_));refine aw (wpAny_letGo ?_);show wpAny _ _ (if(vs.length:Int)<0 then _ else _) _ _ _;rw[if_neg (by omega)];show wpAny _ _ (if(vs.length:Int)≥2^63 then _ else _) _ _ _;rw[if_neg (by omega)];refine aw (wpAny_mkInt (aG ?_));exact kk (.ok (.ret (.int vs.length _))) [(a,cq k t vs)] h g _ size ⟨rfl,rfl⟩ (bh.refl _) hD
def bx (rs:Ow)(i j:Nat):Value:=match sy i rs with
 |some p=>match p.2.data with
  |.fields xs=>match xs[j]? with
   |some v=>v
   |none=> .none
  |_=> .none
 |none=> .none
noncomputable def eN (v:Value):Int:=match v with|.int i _=>i|_=>0
def strN (v:Value):Str:=match v with|.str s _=>s|_=>S []
noncomputable def cD (v:Value):Tok:=match v with|.int _ t=>t|.str _ t=>t|_=>0
theorem fU {lv:Nat}{c:Code}{rs L:Ow}{r:Result}{br:Bool}(h:d3 prog w aa lv c rs (fun r' L'=>nU br r'=r∧L'=L)):tH prog w aa lv true br c [] rs (fun _=>r) (fun _=>[]) (fun _=>L):=fun t x=>
 h.mono lr fun r' L' hP=>⟨fun _=>0,[],hP.2,hP.1,rfl⟩
def BY (vs:LV)(hb:vs.length≤1000):Ent prog w aa:=fB 0 true false 0 (fun c rs=> .builtin "len" ⟨[.ref (adr rs 0)],[]⟩) (fun _ _=>[]) (fun c rs=>[(adr rs 0,cq (eN (bx rs 0 1)) (cD (bx rs 0 1)) vs)])
 (fun _ _ _=> .ok (.ret (.int vs.length 0))) (fun _ _ _=>[]) (fun c rs _=>[(adr rs 0,cq (eN (bx rs 0 1)) (cD (bx rs 0 1)) vs)]) fun c rs=>fU (y9 _ _ _ vs hb)
def JL (vs:LV)(hb:vs.length≤1000):Ent prog w aa:=fB 0 true true 0 (fun c rs=> .builtin "collections.deque.popleft" ⟨[.ref (adr rs 0)],[]⟩) (fun _ _=>[]) (fun c rs=>[(adr rs 0,cq (eN (bx rs 0 1)) (cD (bx rs 0 1)) (bx rs 0 2::vs))])
 (fun c rs _=> .ok (.ret (bx rs 0 2))) (fun _ _ _=>[]) (fun c rs _=>[(adr rs 0,cq (eN (bx rs 0 1)+1) 0 vs)]) fun c rs=>fU (tI _ _ _ _ vs hb)
def Gr (vs:LV)(hb:vs.length≤1000):Ent prog w aa:=fB 0 true true 0 (fun c rs=> .builtin "collections.deque.appendleft" ⟨[.ref (adr rs 0),gB c 1],[]⟩) (fun _ _=>[]) (fun c rs=>[(adr rs 0,cq (eN (bx rs 0 1)) (cD (bx rs 0 1)) vs)])
 (fun c rs _=> .ok (.ret .none)) (fun _ _ _=>[]) (fun c rs _=>[(adr rs 0,cq (eN (bx rs 0 1)+1) 0 (gB c 1::vs))]) fun c rs=>fU (oT _ _ _ _ vs hb)
end
section
variable {prog:Program}{w:WW}{aa:Heap}
theorem ze (x y:Str)(i:Int)(h:(match Builtin.Str.lastOccurrence x y 0 x.length with|some i=>(i:Int)|none=> -1)=i):
  fc prog w aa 0 (.call (.builtin "str.rfind") ⟨[.str x 0,.str y 0],[]⟩) [] (fun _=> .ok (.ret (.int i 0))) (fun _=>[]):=fun t z=>by
 subst h;exact bM (v0:=.int _ 0) (bB F.slot_str_rfind (fun s=>typeIs_str s x (t 0)) F.entry_str_rfind (F.args_str_rfind_2 _ _) (gives_str_rfind x y (t 0) (t 1)) trivial) rfl
theorem rD (x y:Str)(v:Bool)(h:(0+y.length≤x.length&&Builtin.Str.subAt x y (x.length-y.length))=v):
  fc prog w aa 0 (.call (.builtin "str.endswith") ⟨[.str x 0,.str y 0],[]⟩) [] (fun _=> .ok (.ret (.bool v))) (fun _=>[]):=fun t z=>by
 subst h;exact bM (v0:=.bool _) (bB F.slot_str_endswith (fun s=>typeIs_str s x (t 0)) F.entry_str_endswith (F.args_str_endswith_2 _ _) (gives_str_endswith x y (t 0) (t 1)) trivial) rfl
theorem oV (x y:Str)(v:Bool)(h:(0+y.length≤x.length&&Builtin.Str.subAt x y 0)=v):
  fc prog w aa 0 (.call (.builtin "str.startswith") ⟨[.str x 0,.str y 0],[]⟩) [] (fun _=> .ok (.ret (.bool v))) (fun _=>[]):=fun t z=>by
 subst h;exact bM (v0:=.bool _) (bB F.slot_str_startswith (fun s=>typeIs_str s x (t 0)) F.entry_str_startswith (F.args_str_startswith_2 _ _) (gives_str_startswith x y (t 0) (t 1)) trivial) rfl
noncomputable def ng (x y:Str):Str:=if x.length==0 then y else if y.length==0 then x else x++y
theorem BZ (x y z:Str)(h:ng x y=z)(hz:z.length≤1000):
  fc prog w aa 0 (.call (.builtin "str.__add__") ⟨[.str x 0,.str y 0],[]⟩) [] (fun _=> .ok (.ret (.str z 0))) (fun _=>[]):=fun t u=>by
 subst h;have hf:∀ m:Made,m=(if x.length==0 then .val (.str y (t 1)) else if y.length==0 then .val (.str x (t 0)) else .str (x++y))→Made.Bd m∧Made.nv m=.str (ng x y) 0:=by
  intro m hm;subst hm;revert hz;unfold ng;split
  ·intro _;exact⟨trivial,rfl⟩
  ·split
   ·intro _;exact⟨trivial,rfl⟩
   ·intro hz;exact⟨Nat.le_trans hz (by decide),rfl⟩
 obtain⟨h1,h2⟩:=hf _ rfl;rw[←h2];exact bM (bB F.slot_str_add (fun s=>typeIs_str s x (t 0)) F.entry_str_add (F.args_str_add_2 _ _) (gives_str_add x y (t 0) (t 1)) h1) rfl
noncomputable def iq (p:Option Int):Value:=match p with
 |some i=> .int i 0
 |none=> .none
noncomputable def cu (x:Str)(l u:Option Int):Str:=if((Builtin.Str.strSliceIndices l u 1 x.length).length==x.length)=true then x else⟨((Builtin.Str.strSliceIndices l u 1 x.length).filterMap (x.cps[·]?)).toArray⟩
theorem vO (x y:Str)(l u:Option Int)(a:Nat)(h:cu x l u=y)(hy:y.length≤1000):fc prog w aa 0 (.call (.builtin "str.__getitem__") ⟨[.str x 0,.ref a],[]⟩) [(a,oQ (iq l) (iq u))]
  (fun _=> .ok (.ret (.str y 0))) (fun _=>[(a,oQ (iq l) (iq u))]):=fun t z=>by
 subst h;let l':Option (Int×Tok):=l.map fun i=>(i,(z 0).v 0);let u':Option (Int×Tok):=u.map fun i=>(i,(z 0).v 1);have el:l'.map (·.1)=l:=by cases l<;>rfl
 have eu:u'.map (·.1)=u:=by cases u<;>rfl
 have hm:Made.Bd (sliceMade x (t 0) l' u' none)∧Made.nv (sliceMade x (t 0) l' u' none)=.str (cu x l u) 0:=by
  revert hy;unfold sliceMade cu slicePicked;rw[el,eu];show _→Made.Bd (if(true&&(Builtin.Str.strSliceIndices l u 1 x.length).length==x.length)=true then _ else _)∧Made.nv (if(true&&(Builtin.Str.strSliceIndices l u 1 x.length).length==x.length)=true then _ else _)=_;rw[Bool.true_and];split
  ·intro _;exact⟨trivial,rfl⟩
  ·intro hy;exact⟨Nat.le_trans hy (by decide),rfl⟩
 rw[←hm.2];refine bM ?_ (by cases l<;>cases u<;>rfl);refine gA (T:="str") (self:=.str x (t 0)) (rest:=[.ref a]) F.slot_str_getitem (fun s _ _ _=>typeIs_str s x (t 0)) F.entry_str_getitem (F.args_str_getitem_2 _ _) (meets_str_getitem_slice x (t 0) a l' u' none rfl) ?_ hm.1;intro A R h size Fr s hs D vK;subst hs;refine⟨⟨_,D.get (.head _) (fun _=>rfl),rfl,?_⟩,vK⟩;cases l<;>cases u<;>rfl
theorem vP (x:Str)(t:Tok)(n:Nat)(hn:x.length=n)(hx:n<2^60):d3 prog w aa 0 (.builtin "len" ⟨[.str x t],[]⟩) [] (fun r L=>nR r=.ok (.ret (.int n 0))∧L=[]):=by
 subst hn;intro A R Fr h g' d os tok size hA hD kk;refine dw entry_len ?_;unfold Builtin.«len»;refine aw (m:=oneArg "len" _) (aG ?_);refine aw (m:=callSpecial? _ (Str.ofString "__len__")) (wpAny_callSpecial?_slot (name:=Str.ofString "__len__") (typeIs_str _ x _) F.slot_str_len (call_gives F.slot_str_len (typeIs_str _ x _) F.entry_str_len (F.args_str_len_1 _) (gives_str_len x t) ?_));show wpAny _ _ _ _ _ (⟨h,g',d,tok+1,os⟩:Shared);refine aw (wpAny_holding (aG ?_));refine aw (wpAny_letGo ?_);show wpAny _ _ (if(x.length:Int)<0 then _ else _) _ _ _;rw[if_neg (by omega)];show wpAny _ _ (if(x.length:Int)≥2^63 then _ else _) _ _ _;rw[if_neg (by omega)];refine aw (wpAny_mkInt (aG ?_));exact kk (.ok (.ret (.int x.length _))) [] h g' _ size ⟨rfl,rfl⟩ (bh.refl _) hD
def ka (x y:Str)(i:Int)(h:(match Builtin.Str.lastOccurrence x y 0 x.length with|some i=>(i:Int)|none=> -1)=i):Ent prog w aa:=fP 0 _ _ _ _ (ze x y i h)
def B0 (x y:Str)(v:Bool)(h:(0+y.length≤x.length&&Builtin.Str.subAt x y (x.length-y.length))=v):Ent prog w aa:=fP 0 _ _ _ _ (rD x y v h)
def bC (x y:Str)(v:Bool)(h:(0+y.length≤x.length&&Builtin.Str.subAt x y 0)=v):Ent prog w aa:=fP 0 _ _ _ _ (oV x y v h)
def Gs (x y z:Str)(h:ng x y=z)(hz:z.length≤1000):Ent prog w aa:=fP 0 _ _ _ _ (BZ x y z h hz)
def tJ (x y:Str)(l u:Option Int)(h:cu x l u=y)(hy:y.length≤1000):Ent prog w aa:=BU 0 _ _ _ _ fun a=>vO x y l u (a 0) h hy
def jN (x:Str)(n:Nat)(hn:x.length=n)(hx:n<2^60):Ent prog w aa:=fB 0 true false 0 (fun c rs=> .builtin "len" ⟨[.str x (cD (gB c 0))],[]⟩) (fun _ _=>[]) (fun _ _=>[])
 (fun _ _ _=> .ok (.ret (.int n 0))) (fun _ _ _=>[]) (fun _ _ _=>[]) fun c rs=>fU (vP x _ n hn hx)
end
section
variable {prog:Program}{w:WW}{aa:Heap}
theorem rE {T:String}{name:Str}{id:String}{B:Builtin}{self:Value}{rest:LV}{rs:Ow}{S:PySem.Spec}{v:Value}(slot:Slot T name id)(hT:∀ (s:Shared) size Fr,Rp aa s.heap (rs++Fr) size→s.TypeIs self T)
  (entry:entryFor table id=some B) (args:argsOk id ⟨self::rest,[]⟩) (g:Meets (B ⟨self::rest,[]⟩) S)
  (hS:∀ A R size Fr (s:Shared),Rp aa s.heap (rs++Fr) size→R (.ok (.ret v)) s→S A R s):
  d3 prog w aa 0 (.call (.builtin id) ⟨self::rest,[]⟩) rs (fun r L=>r=.ok (.ret v)∧L=rs):=by
 intro A R Fr h g' d os tok size hA hD kk;refine codeAny_call_builtin slot.plain entry (slot.check _ _ _ _ _ _ _ _ (hT _ size Fr hD) args (g prog w A R _ (hS A R size Fr _ hD ?_)));exact kk (.ok (.ret v)) rs h g' tok size ⟨rfl,rfl⟩ (bh.refl _) hD
theorem B1 (a:Nat)(vs:LV)(e:Nat)(x:Value)(v:Bool)(ha:∀ y∈vs,alike y x=true)(hv:vs.any (fun y=>eqv y x)=v):
  d3 prog w aa 0 (.call (.builtin "list.__contains__") ⟨[.ref a,x],[]⟩) [(a,ab vs e)] (fun r L=>r=.ok (.ret (.bool v))∧L=[(a,ab vs e)]):=by
 subst hv;refine rE (T:="list") (self:=.ref a) (rest:=[x]) F.slot_list_contains (fun s size Fr D=>⟨_,D.get (.head _) (fun _=>rfl),rfl⟩) F.entry_list_contains (F.args_list_contains_2 _ _)
  (MeetsSeq.list_contains a ⟨vs⟩ e x (fun y=>eqv y x) fun y hy=>ja (ha y (Array.mem_def.mp hy))) ?_
 intro A R size Fr s D hR;refine⟨D.get (.head _) (fun _=>rfl),?_⟩;have e:Array.any ⟨vs⟩ (fun y=>eqv y x)=vs.any (fun y=>eqv y x):=by rw[List.any_toArray]
 rw[e];exact hR
theorem sI {id:String}{args:Args}{B:Builtin}{rs:Ow}{S:PySem.Spec}{P:Result→Ow→Prop}(plain:plainId id=true)(entry:entryFor table id=some B)(g:Meets (B args) S)
  (hS:∀ A R Fr h gs d os tok size,Rp aa h (rs++Fr) size→(∀ r L' h' g' aN aC,P r L'→bh gs g'→Rp aa h' (L'++Fr) aC→R r ⟨h',g',d,aN,os⟩)→S A R ⟨h,gs,d,tok,os⟩):d3 prog w aa 0 (.builtin id args) rs P:=by
 intro A R Fr h gs d os tok size hA hD kk;refine dw entry ?_;rw[Around.under_plainId plain];exact g prog w A R _ (hS A R Fr h gs d os tok size hD kk)
theorem Rp.fC {h:Heap}{L Fr:Ow}{size:Nat}{a:Nat}{o o':Obj}{f:Obj→Obj}(D:Rp aa h ((a,o)::L++Fr) size)(ho:∀ s,wS o s=o)(hf:f o=o')(hn:o'.isFreed=false):Rp aa (h.update a f) ((a,o')::L++Fr) size:=by
 have y:=Rp.update (f:=f) (sl:=#[]) D (n:=0) (x:=(a,o)) rfl (by rw[ho];exact D.get (.head _) ho) (by rw[ho,hf];exact hn);rw[ho,hf] at y;exact y
theorem kZ:plainId "list.append"=true:=by decide+kernel
theorem vQ (a:Nat)(vs:LV)(e:Nat)(x:Value)(hb:vs.length≤1000):
  d3 prog w aa 0 (.builtin "list.append" ⟨[.ref a,x],[]⟩) [(a,ab vs e)] (fun r L=>r=.ok (.ret .none)∧L=[(a,ab (vs++[x]) (e+1))]):=by
 refine sI kZ PySem.entry_list_append (AutoListH.list_append_list_val_0 a ⟨vs⟩ e x (by simp[sizeLine];omega)) ?_;intro A R Fr h gs d os tok size D kk;refine⟨D.get (.head _) (fun _=>rfl),?_⟩;refine kk (.ok (.ret .none)) [(a,ab (vs++[x]) (e+1))] _ gs tok size ⟨rfl,rfl⟩ (bh.refl _) (D.fC (fun _=>rfl) ?_ rfl);simp[Obj.mapSeq,ab]
noncomputable def aq (l:Nat)(i:Nat):Obj:=⟨.type "list_iterator",none,.fields ⟨[.ref l,.int i 0]⟩,#[]⟩
noncomputable def nX (i:Nat):Obj:=⟨.type "list_iterator",none,.fields ⟨[.none,.int i 0]⟩,#[]⟩
noncomputable def cZ (t:Nat):Obj:=⟨.type "StopIteration",none,.fields ⟨[.ref t,.none,.none,.none,.bool false,.none]⟩,#[]⟩
theorem B2 (it l:Nat)(i:Nat)(vs:LV)(e:Nat)(x:Value)(hx:vs[i]?=some x):
  d3 prog w aa 0 (.builtin "list_iterator.__next__" ⟨[.ref it],[]⟩) [(it,aq l i),(l,ab vs e)] (fun r L=>r=.ok (.ret x)∧L=[(it,aq l (i+1)),(l,ab vs e)]):=by
 intro A R Fr h g d os tok size hA hD kk;have ho:h.get? it=some (aq l i):=hD.get (.head _) (fun _=>rfl);have hl:h.get? l=some (ab vs e):=hD.get (.tail _ (.head _)) (fun _=>rfl);refine dw PySem.entry_listiter_next ?_;show wpAny _ _ (field (.ref it) 0>>=_) _ _ _;refine aw (wpAny_field ho rfl (x:=.ref l) rfl ?_);show wpAny _ _ (if(Value.ref l==Value.none)=true then _ else _) _ _ _;rw[if_neg (show ¬ ((Value.ref l==Value.none)=true) from Bool.false_ne_true)];show wpAny _ _ (field (.ref it) 1>>=_) _ _ _;refine aw (wpAny_field ho rfl (x:=.int i 0) rfl ?_);show wpAny _ _ (seqItems? (.ref l)>>=_) _ _ _;refine aw (wpAny_seqItems hl rfl ?_);have jJ:(⟨vs⟩:Array Value)[(i:Int).toNat]?=some x:=by simpa using hx
 simp only[jJ];refine aw (wpAny_setField ho rfl (by simp) (aG ?_));exact kk (.ok (.ret x)) [(it,aq l (i+1)),(l,ab vs e)] _ g tok size ⟨rfl,rfl⟩ (bh.refl _) (hD.fC (fun _=>rfl) (by simp[Obj.mapFields,aq,rawInt]) rfl)
theorem tK (it l:Nat)(i:Nat)(vs:LV)(e:Nat)(hx:vs[i]?=none):
  d3 prog w aa 0 (.builtin "list_iterator.__next__" ⟨[.ref it],[]⟩) [(it,aq l i),(l,ab vs e)] (fun r L=>∃ b t,r=.error (.ref b)∧L=[(b,cZ t),(it,nX i),(l,ab vs e)]):=by
 intro A R Fr h g d os tok size hA hD kk;have ho:h.get? it=some (aq l i):=hD.get (.head _) (fun _=>rfl);have hl:h.get? l=some (ab vs e):=hD.get (.tail _ (.head _)) (fun _=>rfl);refine dw PySem.entry_listiter_next ?_;show wpAny _ _ (field (.ref it) 0>>=_) _ _ _;refine aw (wpAny_field ho rfl (x:=.ref l) rfl ?_);show wpAny _ _ (if(Value.ref l==Value.none)=true then _ else _) _ _ _;rw[if_neg (show ¬ ((Value.ref l==Value.none)=true) from Bool.false_ne_true)];show wpAny _ _ (field (.ref it) 1>>=_) _ _ _;refine aw (wpAny_field ho rfl (x:=.int i 0) rfl ?_);show wpAny _ _ (seqItems? (.ref l)>>=_) _ _ _;refine aw (wpAny_seqItems hl rfl ?_);have jJ:(⟨vs⟩:Array Value)[(i:Int).toNat]?=none:=by simpa using hx
 simp only[jJ];refine aw (wpAny_rule (aw (wpAny_setField ho rfl (by simp) ?_)));have D1:=hD.fC (f:=Obj.mapFields (·.setIfInBounds 0 .none)) (o':=nX i) (fun _=>rfl) (by simp[Obj.mapFields,aq,nX]) rfl;show wpAny _ _ (newExc (.type "StopIteration") []>>=_) _ _ _;refine aw ?_;simp only[newExc,newTuple];refine aw (wpAny_newObj_type ?_ (by size_fits));have D2:=D1.alloc (o:=⟨.type "tuple",none,.seq #[] 0,#[]⟩) rfl;refine aw (m:=firstArgMember _ _) (wpAny_of_eq (a:=Value.none) (by first|rfl|(simp only[firstArgMember];rfl)) ?_);refine wpAny_newObj_type ?_ (by size_fits);have D3:=D2.alloc (o:=cZ size) rfl;have es:(h.update it (Obj.mapFields (·.setIfInBounds 0 .none))).objs.size=size:=D1.sz;refine wpAny_raiseNew_none (show(A.under _).handled=none from hA.hd) ?_;have key:=kk (.error (.ref (size+1))) [(size+1,cZ size),(it,nX i),(l,ab vs e)] _ g tok (size+1+1) ⟨size+1,size,rfl,rfl⟩ (bh.refl _) (D3.sub ((List.Sublist.refl [_]).append (List.sublist_cons_self _ _)));simp only[Heap.size_push,es];exact key
theorem zf (a:Nat)(vs:LV)(e:Nat)(hb:vs.length≤1000):d3 prog w aa 0 (.builtin "len" ⟨[.ref a],[]⟩) [(a,ab vs e)] (fun r L=>nR r=.ok (.ret (.int vs.length 0))∧L=[(a,ab vs e)]):=by
 intro A R Fr h g d os tok size hA hD kk;have hl:h.get? a=some (ab vs e):=hD.get (.head _) (fun _=>rfl);refine dw entry_len (wpAny_mono (Q:=fun(fin:PySem.Fin) s'=>∃ r,fin=.done (.ret r)∧R (.ok (.ret r)) s') (wpAny_len_body_list (items:=⟨vs⟩) ⟨_,hl,rfl,e,rfl⟩ (by simp;omega) ?_) (fun fin s' hf=>by obtain⟨r,rfl,hr⟩:=hf;exact hr) fun _ _ z=>z);exact kk (.ok (.ret (.int vs.length _))) [(a,ab vs e)] h g _ size ⟨rfl,rfl⟩ (bh.refl _) hD
def aH (rs:Ow)(i:Nat):Nat:=match sy i rs with
 |some p=>match p.2.data with
  |.seq _ e=>e
  |_=>0
 |none=>0
def JM (rs:Ow)(i:Nat):LV:=match sy i rs with
 |some p=>match p.2.data with
  |.seq xs _=>xs.toList
  |_=>[]
 |none=>[]
def lW (vs:LV)(hb:vs.length≤1000):Ent prog w aa:=fB 0 true false 0 (fun c rs=> .builtin "len" ⟨[.ref (adr rs 0)],[]⟩) (fun _ _=>[]) (fun c rs=>[(adr rs 0,ab vs (aH rs 0))])
 (fun _ _ _=> .ok (.ret (.int vs.length 0))) (fun _ _ _=>[]) (fun c rs _=>[(adr rs 0,ab vs (aH rs 0))]) fun c rs=>fU (zf _ vs _ hb)
def bD (vs:LV)(hb:vs.length≤1000):Ent prog w aa:=fB 0 true true 0 (fun c rs=> .builtin "list.append" ⟨[.ref (adr rs 0),gB c 1],[]⟩) (fun _ _=>[]) (fun c rs=>[(adr rs 0,ab vs (aH rs 0))])
 (fun _ _ _=> .ok (.ret .none)) (fun _ _ _=>[]) (fun c rs _=>[(adr rs 0,ab (vs++[gB c 1]) (aH rs 0+1))]) fun c rs=>fU (vQ _ vs _ _ hb)
def bQ (vs:LV)(i:Nat)(x:Value)(hx:vs[i]?=some x):Ent prog w aa:=fB 0 true true 0 (fun c rs=> .builtin "list_iterator.__next__" ⟨[.ref (adr rs 0)],[]⟩) (fun _ _=>[]) (fun c rs=>[(adr rs 0,aq (adr rs 1) i),(adr rs 1,ab vs (aH rs 1))])
 (fun _ _ _=> .ok (.ret x)) (fun _ _ _=>[]) (fun c rs _=>[(adr rs 0,aq (adr rs 1) (i+1)),(adr rs 1,ab vs (aH rs 1))]) fun c rs=>fU (B2 _ _ i vs _ x hx)
theorem tL (it l:Nat)(i:Nat)(vs:LV)(e:Nat)(hx:vs[i]?=none):tH prog w aa 0 true true (.builtin "list_iterator.__next__" ⟨[.ref it],[]⟩) [] [(it,aq l i),(l,ab vs e)] (fun b=> .error (.ref (b 0))) (fun _=>[]) (fun b=>[(b 0,cZ (b 1)),(it,nX i),(l,ab vs e)]):=fun t x=>
 (tK it l i vs e hx).mono lr fun r L hP=>by
  obtain⟨b,t,rfl,rfl⟩:=hP;exact⟨fun i=>match i with|0=>b|_=>t,[],rfl,rfl,rfl⟩
def bA (vs:LV)(i:Nat)(hx:vs[i]?=none):Ent prog w aa:=fB 0 true true 0 (fun c rs=> .builtin "list_iterator.__next__" ⟨[.ref (adr rs 0)],[]⟩) (fun _ _=>[]) (fun c rs=>[(adr rs 0,aq (adr rs 1) i),(adr rs 1,ab vs (aH rs 1))])
 (fun _ _ b=> .error (.ref (b 0))) (fun _ _ _=>[]) (fun c rs b=>[(b 0,cZ (b 1)),(adr rs 0,nX i),(adr rs 1,ab vs (aH rs 1))]) fun c rs=>tL _ _ i vs _ hx
def jO (vs:LV)(x:Value)(v:Bool)(ha:∀ t,∀ y∈vs,alike y (aZ t x)=true)(hv:∀ t,vs.any (fun y=>eqv y (aZ t x))=v):Ent prog w aa:=fB 0 true true 0 (fun c rs=> .call (.builtin "list.__contains__") ⟨[.ref (adr rs 0),aZ (cD (gB c 1)) x],[]⟩) (fun _ _=>[]) (fun c rs=>[(adr rs 0,ab vs (aH rs 0))])
 (fun _ _ _=> .ok (.ret (.bool v))) (fun _ _ _=>[]) (fun c rs _=>[(adr rs 0,ab vs (aH rs 0))]) fun c rs=>fU (B1 _ vs _ _ v (ha _) (hv _))
end
def jq (rs:Ow)(i j:Nat):Value:=match sy i rs with
 |some p=>match p.2.data with
  |.dict es _=>match es[j]? with
   |some e=>e.val
   |none=> .none
  |_=> .none
 |none=> .none
def gD (v:Value):Nat:=match v with|.ref a=>a|_=>0
def B3 (rs:Ow)(i:Nat):Obj:=match sy i rs with
 |some p=>p.2
 |none=>default
noncomputable def oW (S:LN)(i:Nat)(o:Obj):Obj:=if i∈S then⟨o.cls,o.dict,.freed,o.slots⟩ else o
noncomputable def hide (S:LN)(h:Heap):Heap:=⟨h.objs.mapIdx (oW S),h.life⟩
theorem oX {S:LN}{h:Heap}{a:Nat}(ha:a∈S):(hide S h).get? a=none:=by
 unfold hide Heap.get?;simp only[Array.getElem?_mapIdx];cases e:h.objs[a]? with
 |none=>rfl
 |some o=>simp[oW,ha]
theorem lX {S:LN}{h:Heap}{a:Nat}(ha:a∉S):(hide S h).get? a=h.get? a:=by
 unfold hide Heap.get?;simp only[Array.getElem?_mapIdx];cases e:h.objs[a]? with
 |none=>rfl
 |some o=>simp[oW,ha]
theorem rF (S:LN)(h:Heap):(hide S h).StaysIn h:=fun b o e=>by
 by_cases hb:b∈S
 ·rw[oX hb] at e;cases e
 ·rw[lX hb] at e;exact e
def qc (l:List Env)(L:Ow):Prop:=∀ env∈l,env.scope.kind≠.module∧∃ a o,env.frame=some a∧(a,o)∈L∧∃ es n,o.data=.dict es n
theorem jP {h base:Heap}:∀ {l:List Env},(∀ env∈l,env.scope.kind≠.module∧(∃ L o,env.frame=some L∧base.get? L=none∧h.get? L=some o∧∀ vs,o.data≠.fields vs))→h.FunFrames base l
 |[],_=>trivial
 |env::l,H=>⟨(H env (.head _)).1,(H env (.head _)).2,jP fun x hx=>H x (.tail _ hx)⟩
theorem lB {o:Obj}{es n}(h:o.data=.dict es n)(s:Array OV):wS o s={o with slots:=s}:=by
 unfold wS;obtain⟨c,d,dt,sl⟩:=o;simp only at h;subst h;rfl
def bu:List Stmt→Env→Sem Flow:=PySem.W.ZFast.zw12563942051412417395
theorem kb:bu=execs:=by
 unfold bu;rw[←PySem.W.ZFast.ze12563942051412417395]
def toF (t:Sem Flow):Sem Fin:=PySem.W.R.bindR t fun f=> .pure (.done f)
theorem B4 (t:Sem Flow):toF t=t.bind fun f=> .pure (.done f):=by
 unfold toF;rw[←PySem.W.R.bindR_eq]
theorem jQ {M:Model}{A:Around}{t:Sem Flow}{Q:Fin→Shared→Prop}{E:Value→Shared→Prop}{s:Shared}(h:wpAny M A (toF t) Q E s):wpAny M A t (fun f s'=>Q (.done f) s') E s:=by
 rw[B4] at h;intro Γ p iX;have z:=h Γ p iX;rw[Sem.wp_bind] at z;exact z
def oY (prog:Program)(w:WW)(aa:Heap)(kt:KT)(lv n:Nat)(or:List (eV prog w aa))(body:List Stmt)(env:Env)(L:Ow)(x:SV×Nat×Nat):Out:=
 run (aa:=aa) ⟨prog,w.params⟩ kt lv none n x.1 or .base (toF (bu body env)) L x.2.1 x.2.2 []
noncomputable def lY (cls:String)(d:ON)(vs:Array Value)(sl:Array OV):Obj:=⟨.type cls,d,.fields vs,sl⟩
noncomputable def rG (cls:String)(vs:Array Value):Obj:=⟨.type cls,none,.fields vs,#[]⟩
section
variable {prog:Program}{w:WW}{aa:Heap}{kt:KT}
theorem rH (B:Base w aa kt){lv:Nat}(n:Nat)(or:List (eV prog w aa))(ps:LN)(gn:Nat){body:List Stmt}{env:Env}{outer:List Env}{rs X:Ow}{P:Result→Ow→Prop}{α:Type}(view:Result→Ow→α)(v:SV×Nat×Nat→Ow→α)
  (Qm:(Code.func body env).weight≤10)
  (e:∀ x Fr,((oY prog w aa kt lv n or body env (rs++Fr) x).kind,ij (oY prog w aa kt lv n or body env (rs++Fr) x).tr,(oY prog w aa kt lv n or body env (rs++Fr) x).rest ps gn,view (oY prog w aa kt lv n or body env (rs++Fr) x).res ((oY prog w aa kt lv n or body env (rs++Fr) x).get ps))=
   (1,ik (oY prog w aa kt lv n or body env (rs++Fr) x).tr,Fr,v x ((oY prog w aa kt lv n or body env (rs++Fr) x).get ps)))
  (hP:∀ x r L',view r L'=v x L'→∃ ea cls vs a0 L1,r=.error (.ref ea)∧L'=(ea,rG cls vs)::L1∧vs[1]?=some .none∧vs[0]?=some a0∧qc (env::outer) (L1++X)∧
   ∀ dd yG sl,P (.error (.ref ea)) ((ea,lY cls dd yG sl)::(L1++X))):
  aJ prog w aa (lv+2) (some outer) (.func body env) (rs++X) P:=by
 intro A R Fr h g d os tok size hA iY hD kk;rw[a5] at hD;have hF:=iY outer rfl;let A':Around:=A.under (.func body env);have zg:A'.frames=some (env::outer):=by
  show pushEnvs (Code.func body env).envs A.frames=_;rw[hF,pushEnvs_eq];rfl
 have Nu:Ar (lv+1) A':=by
  have:=hA.dep;have:=hA.un;have u:=ei (Code.func body env);refine⟨hA.hd,?_,?_⟩
  ·show A.depth+(Code.func body env).weight+50*(lv+1)<_
   omega
  ·show A.units+(Code.func body env).cUnits+300*(lv+1)<_
   omega
 let R':Result→Shared→Prop:=fun r s=>∃ ea cls vs a0 L1 aC,r=.error (.ref ea)∧Rp aa s.heap ((ea,rG cls vs)::(L1++X)++Fr) aC∧bh g s.gens∧s.drawn=d∧s.os=os∧vs[1]?=some .none∧vs[0]?=some a0∧qc (env::outer) (L1++X)∧
   ∀ dd yG sl,P (.error (.ref ea)) ((ea,lY cls dd yG sl)::(L1++X))
 let V:V:=⟨prog,w,aa,kt,A',none,R',fun _ _=>True,g,d,os⟩;have O:V.Ok lv:=⟨B.kt,B.lim,Nu,fun _ z=>nomatch z⟩;have z:=cL O n or .base (toF (bu body env)) (rs++(X++Fr)) size tok [] trivial fun sv=>by
  have e:=e (sv,size,tok) (X++Fr);show W V (oY prog w aa kt lv n or body env (rs++(X++Fr)) (sv,size,tok));generalize oY prog w aa kt lv n or body env (rs++(X++Fr)) (sv,size,tok)=o at e;obtain⟨e1,e2,e4,e5⟩:=yB e;cases o with
  |fin r L' aC aN tr=>
   refine⟨bt e2,fun T h' g' G D'=>⟨?_,trivial⟩⟩;obtain⟨ea,cls,vs,a0,L1,rfl,hL,h1,h0,nY,hp⟩:=hP _ _ _ e5;refine⟨ea,cls,vs,a0,L1,aC,rfl,?_,G,rfl,rfl,h1,h0,nY,hp⟩;have y:=Rp.out (o:=.fin (.error (.ref ea)) L' aC aN tr) D' ps gn;rw[e4] at y;change Rp aa h' ((Out.fin (.error (.ref ea)) L' aC aN tr).get ps++(X++Fr)) aC at y;have vR:(Out.fin (.error (.ref ea)) L' aC aN tr).get ps=(ea,rG cls vs)::L1:=hL;rw[vR] at y;rw[show(ea,rG cls vs)::(L1++X)++Fr=(ea,rG cls vs)::L1++(X++Fr) from congrArg (List.cons _) (a5 _ _ _)];exact y
  |stop=>obtain⟨_,z⟩|z:=nS e1<;>cases z
  |d5=>obtain⟨_,z⟩|z:=nS e1<;>cases z
  |_=>cases e1
 have z':wpAny (model prog w) A' (toF (bu body env)) (fun fin s'=>match fin with|.done f=>R' (.ok f) s'|.again c'=>_) (fun e s'=>R' (.error e) s') ⟨h,g,d,tok,os⟩:=z.2 (fun _ h=>nomatch h) h g (bh.refl g) hD;rw[kb] at z';have z2:=jQ z';refine codeAny_of_tree ?_;show wpAny (model prog w) A' (do
  point
  match←(execs body env).onRaise (leaving env) with
  |.ret v=>ret v
  |_=>ret .none) _ _ _
 refine aw (wpAny_point (aw (wpAny_onRaise (wpAny_mono z2 (fun f s' hf=>?_) fun ev s' he=>?_))))
 ·obtain⟨_,_,_,_,_,_,hh,_⟩:=hf
  cases hh
 ·obtain⟨ea,cls,vs,a0,L1,aC,hh,gZ,hG,hd,ho,h1,h0,nY,hp⟩:=he
  cases hh;obtain⟨vK,Gu,Qn,Nv,os'⟩:=s';simp only at gZ hG hd ho;subst hd ho;let S:LN:=ea::(env::outer).filterMap (·.frame);obtain⟨fa,JN⟩:∃ a,env.frame=some a:=let⟨_,a,_,h,_⟩:=nY env (.head _);⟨a,h⟩;have B5:∀ a∈S,aa.objs.size≤a:=fun a ha=>by
   rcases ba.mp ha with rfl|ha
   ·exact(gZ.own (a,rG cls vs) (.head _)).2
   ·obtain⟨oZ,EU,zh⟩:=List.mem_filterMap.mp ha
    obtain⟨_,a',o,h1,h2,_⟩:=nY oZ EU;rw[h1] at zh;injection zh with zh
    subst zh;exact(gZ.own (a',o) (.tail _ (List.mem_append_left _ h2))).2
  have JO:vK.get? ea=some (rG cls vs):=gZ.get (.head _) (fun _=>rfl);refine wpAny_leaving_firstW (base:=hide S vK) (env:=env) (outer:=outer) (L:=fa) zg (jP fun oZ EU=>?_) JN JO (rF _ _) (oX (.head _)) rfl h1 h0 fun jM hL=>?_
  ·obtain⟨hk,a,o,h1,h2,es,n,h3⟩:=nY oZ EU
   obtain⟨⟨sl,hs⟩,_⟩:=gZ.own (a,o) (.tail _ (List.mem_append_left _ h2));refine⟨hk,a,_,h1,oX (.tail _ (List.mem_filterMap.mpr ⟨oZ,EU,h1⟩)),hs,fun yG hv=>?_⟩;rw[lB h3] at hv;rw[h3] at hv;cases hv
  ·obtain⟨k1,_,⟨oe,yG,T,_,_,Nw,⟨MJ,_⟩,MK,_⟩,k4⟩:=hL
   have Be:jM.get? ea=some (lY cls oe.dict yG oe.slots):=by
    rw[Nw];obtain⟨c,dd,dt,sl⟩:=oe;simp only at MJ MK;subst MK;rw[MJ];rfl
   have gM:aa.objs.size≤jM.objs.size:=Nat.le_trans (B5 ea (.head _)) (Nat.le_of_lt (Heap.lt_size Be));have zj:=gZ.nd;refine kk (.error (.ref ea)) ((ea,lY cls oe.dict yG oe.slots)::(L1++X)) jM Gu Nv jM.objs.size (hp _ _ _) hG ⟨rfl,fun b o hb=>?_,fun p I4=>?_,?_,gM⟩
   ·have Nx:b∉S:=fun hm=>by
     have q1:=B5 b hm;have q2:=Heap.lt_size hb;exact Nat.lt_irrefl _ (Nat.lt_of_lt_of_le q2 q1)
    exact k1 b o (by rw[lX Nx];exact gZ.keep b o hb)
   ·rcases ba.mp I4 with rfl|I4
    ·exact⟨⟨oe.slots,Be⟩,B5 ea (.head _)⟩
    ·have hold:=gZ.own p (.tail _ I4)
     refine⟨?_,hold.2⟩;obtain⟨sl,hs⟩:=hold.1;have bq:p.1≠ea:=fun q=>by
      rw[List.cons_append,List.map_cons,List.nodup_cons] at zj;exact zj.1 (List.mem_map.mpr ⟨p,I4,q⟩)
     by_cases hm:p.1∈S
     ·rcases ba.mp hm with hm|hm
      ·exact(bq hm).elim
      ·obtain⟨oZ,EU,zh⟩:=List.mem_filterMap.mp hm
       obtain⟨_,a',o,zk,rI,es,n,EV⟩:=nY oZ EU;rw[zk] at zh;injection zh with zh
       obtain⟨⟨Ny,Gv⟩,_⟩:=gZ.own (a',o) (.tail _ (List.mem_append_left _ rI));have zm:vK.get? p.1=some (wS o Ny):=by rw[←zh];exact Gv
       rw[hs] at zm;injection zm with zm
       have jr:(wS p.2 sl).data=.dict es n:=by rw[zm,lB EV];exact EV
       have Gw:p.2.data=.dict es n:=by
        obtain⟨pa,c,dd,dt,Qo⟩:=p;cases dt<;>first|exact jr|cases jr
       obtain⟨Nz,NA⟩:=k4 p.1 _ hs (fun vs hv=>by rw[jr] at hv;cases hv);exact⟨Nz,by rw[NA,lB Gw,lB Gw]⟩
     ·exact⟨sl,k1 p.1 _ (by rw[lX hm];exact hs)⟩
   ·exact zj
end
section
variable {prog:Program}{w:WW}{aa:Heap}
theorem vT:d3 prog w aa 0 (.builtin "Exception.__new__" ⟨[.type "StopIteration"],[]⟩) [] (fun r L=>∃ b t,r=.ok (.ret (.ref b))∧L=[(b,cZ t)]):=by
 intro A R Fr h g d os tok size hA hD kk;refine owsi_new owsi_facts ?_;have D2:=hD.alloc (o:=⟨.type "tuple",none,.seq #[] 0,#[]⟩) rfl;have D3:=D2.alloc (o:=cZ size) rfl;have key:=kk (.ok (.ret (.ref (size+1)))) [(size+1,cZ size)] _ g tok (size+1+1) ⟨size+1,size,rfl,rfl⟩ (bh.refl _) (D3.sub ((List.Sublist.refl [_]).append (List.sublist_cons_self _ _)));have es:h.objs.size=size:=hD.sz;simp only[es];exact key
theorem vU:tH prog w aa 0 true true (.builtin "Exception.__new__" ⟨[.type "StopIteration"],[]⟩) [] [] (fun b=> .ok (.ret (.ref (b 0)))) (fun _=>[]) (fun b=>[(b 0,cZ (b 1))]):=fun t x=>
 vT.mono lr fun r L hP=>by
  obtain⟨b,t,rfl,rfl⟩:=hP;exact⟨fun i=>match i with|0=>b|_=>t,[],rfl,rfl,rfl⟩
def zo:Ent prog w aa:=fB 0 true true 0 (fun _ _=> .builtin "Exception.__new__" ⟨[.type "StopIteration"],[]⟩) (fun _ _=>[]) (fun _ _=>[])
 (fun _ _ b=> .ok (.ret (.ref (b 0)))) (fun _ _ _=>[]) (fun _ _ b=>[(b 0,cZ (b 1))]) fun _ _=>vU
end
section
variable {prog:Program}{w:WW}{aa:Heap}{kt:KT}
noncomputable abbrev VV (prog:Program)(w:WW)(aa:Heap)(kt:KT)(A:Around)(R:Result→Shared→Prop)(fr:OE)(g:Array GenState)(d:Drawn)(os:OsState):V:=⟨prog,w,aa,kt,A,fr,R,fun _ _=>True,g,d,os⟩
theorem lZ {A:Around}{R:Result→Shared→Prop}{fr fr':OE}{g g':Array GenState}{d d':Drawn}{os os':OsState}:∀ κ:K,gz (VV prog w aa kt A R fr g d os) κ=gz (VV prog w aa kt A R fr' g' d' os') κ
 |.base=>rfl
 |.bL _=>rfl
 |.ret c k κ=>by
  funext r s;have ih:=lZ (A:=A) (R:=R) (fr:=fr) (fr':=fr') (g:=g) (g':=g') (d:=d) (d':=d') (os:=os) (os':=os') κ;show vq _ κ (gz _ κ) (k r) s=vq _ κ (gz _ κ) (k r) s;rw[ih];cases κ<;>rfl
 |.seg c fs=>rfl
theorem eG {A:Around}{R:Result→Shared→Prop}{fr fr':OE}{g g':Array GenState}{d d':Drawn}{os os':OsState}{κ:K}{t:Sem Fin}{s:Shared}(h:Go (VV prog w aa kt A R fr' g' d' os') κ t s):Go (VV prog w aa kt A R fr g d os) κ t s:=by
 unfold Go at h ⊢;rw[lZ (fr':=fr') (g':=g') (d':=d') (os':=os') κ];cases κ<;>exact h
theorem nZ {o:Out}(h:o.kind=2):∃ L size tok tr,o=.stop o.c8 o.code o.k L size tok tr∧o.c8.dep≤45:=by
 cases o with
 |stop κ c k L size tok tr=>
  refine⟨L,size,tok,tr,rfl,?_⟩;obtain⟨q,_⟩|q:=nS h
  ·exact Nat.le_of_ble_eq_true q
  ·cases q
 |d5=>obtain⟨_,z⟩|z:=nS h<;>cases z
 |_=>cases h
theorem rJ {o:Out}(h:o.kind=8):∃ κ t L size tok tr,o=.d5 κ t L size tok tr∧κ.dep≤45:=by
 cases o with
 |d5 κ t L size tok tr=>
  refine⟨κ,t,L,size,tok,tr,rfl,?_⟩;obtain⟨q,_⟩|q:=nS h
  ·exact Nat.le_of_ble_eq_true q
  ·cases q
 |stop=>obtain⟨_,z⟩|z:=nS h<;>cases z
 |_=>cases h
def runK (prog:Program)(w:WW)(aa:Heap)(kt:KT)(lv:Nat)(fr:OE)(n:Nat)(or:List (eV prog w aa))(κ:K)(t:Sem Fin)(L:Ow)(x:SV×Nat×Nat):Out:=
 run (aa:=aa) ⟨prog,w.params⟩ kt lv fr n x.1 or κ t L x.2.1 x.2.2 []
theorem sJ (B:Base w aa kt){lv:Nat}{fr fr':OE}(n:Nat)(or:List (eV prog w aa))(ps:LN)(gn:Nat){κ:K}{t:Sem Fin}{rs:Ow}{α:Type}(view:Out→Ow→α)(v:SV×Nat×Nat→Ow→α)
  (e:∀ x Fr,((runK prog w aa kt lv fr n or κ t (rs++Fr) x).kind,ij (runK prog w aa kt lv fr n or κ t (rs++Fr) x).tr,(runK prog w aa kt lv fr n or κ t (rs++Fr) x).rest ps gn,view (runK prog w aa kt lv fr n or κ t (rs++Fr) x) ((runK prog w aa kt lv fr n or κ t (rs++Fr) x).get ps))=
   (2,ik (runK prog w aa kt lv fr n or κ t (rs++Fr) x).tr,Fr,v x ((runK prog w aa kt lv fr n or κ t (rs++Fr) x).get ps)))
  (ok:κ.ok) {A:Around} {R:Result→Shared→Prop} {Fr:Ow} {h:Heap} {g g0:Array GenState} {d d0:Drawn} {os qf:OsState} {tok size:Nat} (hA:Ar (lv+1) A) (hf:∀ l,fr=some l→A.frames=some l) (hD:Rp aa h (rs++Fr) size)
  (kk:∀ x L' h' g' aN aC,view (runK prog w aa kt lv fr n or κ t (rs++Fr) x) L'=v x L'→bh g g'→(runK prog w aa kt lv fr n or κ t (rs++Fr) x).c8.ok→(runK prog w aa kt lv fr n or κ t (rs++Fr) x).c8.dep≤45→Rp aa h' (L'++Fr) aC→
   codeAny (model prog w) (around A (runK prog w aa kt lv fr n or κ t (rs++Fr) x).c8) (runK prog w aa kt lv fr n or κ t (rs++Fr) x).code
    (fun r s=>Go (VV prog w aa kt A R fr' g0 d0 qf) (runK prog w aa kt lv fr n or κ t (rs++Fr) x).c8 ((runK prog w aa kt lv fr n or κ t (rs++Fr) x).k r) s) ⟨h',g',d,aN,os⟩):
  Go (VV prog w aa kt A R fr' g0 d0 qf) κ t ⟨h,g,d,tok,os⟩:=by
 have O:(VV prog w aa kt A R fr g d os).Ok lv:=⟨B.kt,B.lim,hA,hf⟩;refine eG (g':=g) (d':=d) (os':=os) ((cL O n or κ t (rs++Fr) size tok [] ok fun sv=>?_).2 (fun _ h=>nomatch h) h g (bh.refl g) hD);have e:=e (sv,size,tok) Fr;have kk:=fun L' h' g' aN aC=>kk (sv,size,tok) L' h' g' aN aC;show W _ (runK prog w aa kt lv fr n or κ t (rs++Fr) (sv,size,tok));generalize runK prog w aa kt lv fr n or κ t (rs++Fr) (sv,size,tok)=o at e kk;obtain⟨e1,e2,e4,e5⟩:=yB e;obtain⟨L,sz,tk,tr,ho,vz⟩:=nZ e1;have y0:∀ {h':Heap}{aC:Nat},Rp aa h' o.own aC→Rp aa h' (o.get ps++Fr) aC:=fun D'=>by
  have y:=Rp.out (o:=o) D' ps gn;rw[e4] at y;exact y
 rw[ho] at e2 y0 ⊢;rw[ho];refine⟨bt e2,fun T h' g' G EW D'=>?_⟩;have z:=kk _ h' g' tk sz (ho▸e5) G (by rw[ho];exact EW) vz (y0 D');rw[ho] at z;refine codeAny_mono z fun r s hr=>?_;exact eG hr
theorem jS (B:Base w aa kt){lv:Nat}{fr fr':OE}(n:Nat)(or:List (eV prog w aa))(ps:LN)(gn:Nat){κ:K}{t:Sem Fin}{rs:Ow}{α:Type}(view:Code→Ow→α)(v:SV×Nat×Nat→Ow→α)
  (e:∀ x Fr,((runK prog w aa kt lv fr n or κ t (rs++Fr) x).kind,ij (runK prog w aa kt lv fr n or κ t (rs++Fr) x).tr,(runK prog w aa kt lv fr n or κ t (rs++Fr) x).rest ps gn,view (runK prog w aa kt lv fr n or κ t (rs++Fr) x).code ((runK prog w aa kt lv fr n or κ t (rs++Fr) x).get ps))=
   (5,ik (runK prog w aa kt lv fr n or κ t (rs++Fr) x).tr,Fr,v x ((runK prog w aa kt lv fr n or κ t (rs++Fr) x).get ps)))
  (ok:κ.ok) {A:Around} {R:Result→Shared→Prop} {Fr:Ow} {h:Heap} {g g0:Array GenState} {d d0:Drawn} {os qf:OsState} {tok size:Nat} (hA:Ar (lv+1) A) (hf:∀ l,fr=some l→A.frames=some l) (hD:Rp aa h (rs++Fr) size)
  (kk:∀ x c' L' h' g' aN aC,view c' L'=v x L'→bh g g'→Rp aa h' (L'++Fr) aC→codeAny (model prog w) A c' R ⟨h',g',d,aN,os⟩):
  Go (VV prog w aa kt A R fr' g0 d0 qf) κ t ⟨h,g,d,tok,os⟩:=by
 have O:(VV prog w aa kt A R fr g d os).Ok lv:=⟨B.kt,B.lim,hA,hf⟩;refine eG (g':=g) (d':=d) (os':=os) ((cL O n or κ t (rs++Fr) size tok [] ok fun sv=>?_).2 (fun _ h=>nomatch h) h g (bh.refl g) hD);have e:=e (sv,size,tok) Fr;have kk:=fun c' L' h' g' aN aC=>kk (sv,size,tok) c' L' h' g' aN aC;show W _ (runK prog w aa kt lv fr n or κ t (rs++Fr) (sv,size,tok));generalize runK prog w aa kt lv fr n or κ t (rs++Fr) (sv,size,tok)=o at e kk;obtain⟨e1,e2,e4,e5⟩:=yB e;cases o with
 |tail c' L' aC aN tr=>
  refine⟨bt e2,fun T h' g' G D'=>kk c' _ h' g' aN aC e5 G ?_⟩;have y:=Rp.out (o:=.tail c' L' aC aN tr) D' ps gn;rw[e4] at y;exact y
 |stop=>obtain⟨_,z⟩|z:=nS e1<;>cases z
 |d5=>obtain⟨_,z⟩|z:=nS e1<;>cases z
 |_=>cases e1
theorem l5 (B:Base w aa kt){lv:Nat}{fr fr':OE}(n:Nat)(or:List (eV prog w aa))(ps:LN)(gn:Nat){κ:K}{t:Sem Fin}{rs:Ow}{α:Type}(view:Result→Ow→α)(v:SV×Nat×Nat→Ow→α)
  (e:∀ x Fr,((runK prog w aa kt lv fr n or κ t (rs++Fr) x).kind,ij (runK prog w aa kt lv fr n or κ t (rs++Fr) x).tr,(runK prog w aa kt lv fr n or κ t (rs++Fr) x).rest ps gn,view (runK prog w aa kt lv fr n or κ t (rs++Fr) x).res ((runK prog w aa kt lv fr n or κ t (rs++Fr) x).get ps))=
   (1,ik (runK prog w aa kt lv fr n or κ t (rs++Fr) x).tr,Fr,v x ((runK prog w aa kt lv fr n or κ t (rs++Fr) x).get ps)))
  (ok:κ.ok) {A:Around} {R:Result→Shared→Prop} {Fr:Ow} {h:Heap} {g g0:Array GenState} {d d0:Drawn} {os qf:OsState} {tok size:Nat} (hA:Ar (lv+1) A) (hf:∀ l,fr=some l→A.frames=some l) (hD:Rp aa h (rs++Fr) size)
  (kk:∀ x r L' h' g' aN aC,view r L'=v x L'→bh g g'→Rp aa h' (L'++Fr) aC→R r ⟨h',g',d,aN,os⟩):
  Go (VV prog w aa kt A R fr' g0 d0 qf) κ t ⟨h,g,d,tok,os⟩:=by
 have O:(VV prog w aa kt A R fr g d os).Ok lv:=⟨B.kt,B.lim,hA,hf⟩;refine eG (g':=g) (d':=d) (os':=os) ((cL O n or κ t (rs++Fr) size tok [] ok fun sv=>?_).2 (fun _ h=>nomatch h) h g (bh.refl g) hD);have e:=e (sv,size,tok) Fr;have kk:=fun r L' h' g' aN aC=>kk (sv,size,tok) r L' h' g' aN aC;show W _ (runK prog w aa kt lv fr n or κ t (rs++Fr) (sv,size,tok));generalize runK prog w aa kt lv fr n or κ t (rs++Fr) (sv,size,tok)=o at e kk;obtain⟨e1,e2,e4,e5⟩:=yB e;cases o with
 |fin r L' aC aN tr=>
  refine⟨bt e2,fun T h' g' G D'=>⟨kk r _ h' g' aN aC e5 G ?_,trivial⟩⟩;have y:=Rp.out (o:=.fin r L' aC aN tr) D' ps gn;rw[e4] at y;exact y
 |stop=>obtain⟨_,z⟩|z:=nS e1<;>cases z
 |d5=>obtain⟨_,z⟩|z:=nS e1<;>cases z
 |_=>cases e1
theorem tM (B:Base w aa kt){lv:Nat}{fr fr':OE}(n:Nat)(or:List (eV prog w aa))(ps:LN)(gn:Nat){κ:K}{t:Sem Fin}{rs:Ow}{α:Type}(view:Out→Ow→α)(v:SV×Nat×Nat→Ow→α)
  (hG:∀ x Fr,(runK prog w aa kt lv fr n or κ t (rs++Fr) x).Jz=true)
  (e:∀ x Fr,((runK prog w aa kt lv fr n or κ t (rs++Fr) x).kind,ij (runK prog w aa kt lv fr n or κ t (rs++Fr) x).tr,(runK prog w aa kt lv fr n or κ t (rs++Fr) x).rest ps gn,view (runK prog w aa kt lv fr n or κ t (rs++Fr) x) ((runK prog w aa kt lv fr n or κ t (rs++Fr) x).get ps))=
   (8,ik (runK prog w aa kt lv fr n or κ t (rs++Fr) x).tr,Fr,v x ((runK prog w aa kt lv fr n or κ t (rs++Fr) x).get ps)))
  (ok:κ.ok) {A:Around} {R:Result→Shared→Prop} {Fr:Ow} {h:Heap} {g g0:Array GenState} {d d0:Drawn} {os qf:OsState} {tok size:Nat} (hA:Ar (lv+1) A) (hf:∀ l,fr=some l→A.frames=some l) (hD:Rp aa h (rs++Fr) size)
  (kk:∀ x L' h' g' aN aC,L'=(runK prog w aa kt lv fr n or κ t (rs++Fr) x).get ps→view (runK prog w aa kt lv fr n or κ t (rs++Fr) x) L'=v x L'→bh g g'→(runK prog w aa kt lv fr n or κ t (rs++Fr) x).c8.ok→Rp aa h' (L'++Fr) aC→
   Go (VV prog w aa kt A R fr' g0 d0 qf) (runK prog w aa kt lv fr n or κ t (rs++Fr) x).c8 ((runK prog w aa kt lv fr n or κ t (rs++Fr) x).gk g'.size) ⟨h',g'.push (.fresh (runK prog w aa kt lv fr n or κ t (rs++Fr) x).gc),d,aN,os⟩):
  Go (VV prog w aa kt A R fr' g0 d0 qf) κ t ⟨h,g,d,tok,os⟩:=by
 have O:(VV prog w aa kt A R fr g d os).Ok lv:=⟨B.kt,B.lim,hA,hf⟩;refine eG (g':=g) (d':=d) (os':=os) ((cL O n or κ t (rs++Fr) size tok [] ok fun sv=>?_).2 (fun _ h=>nomatch h) h g (bh.refl g) hD);have e:=e (sv,size,tok) Fr;have hG:=hG (sv,size,tok) Fr;have kk:=fun L' h' g' aN aC=>kk (sv,size,tok) L' h' g' aN aC;show W _ (runK prog w aa kt lv fr n or κ t (rs++Fr) (sv,size,tok));generalize runK prog w aa kt lv fr n or κ t (rs++Fr) (sv,size,tok)=o at e kk hG;obtain⟨e1,e2,e4,e5⟩:=yB e;obtain⟨ML,t1,L,sz,tk,tr,ho,vz⟩:=rJ e1;have y0:∀ {h':Heap}{aC:Nat},Rp aa h' o.own aC→Rp aa h' (o.get ps++Fr) aC:=fun D'=>by
  have y:=Rp.out (o:=o) D' ps gn;rw[e4] at y;exact y
 subst ho;refine⟨bt e2,fun T h' g' G EW D'=>?_⟩;cases t1 with
 |newGen c1 k1=>
  have z:=kk _ h' g' tk sz rfl e5 G EW (y0 D');have z2:Go (VV prog w aa kt A R fr g d os) ML (k1 g'.size) ⟨h',g'.push (.fresh c1),d,tk,os⟩:=eG z;cases ML with
  |seg c fs=>exact s_newGen prog w A c fs _ h' g' d tk os c1 k1 z2
  |_=>exact fun Γ p iX=>z2 Γ p iX
 |_=>cases hG
end
def eW:Expr→Env→Sem Value:=PySem.W.ZFast.zw14044960220447912780
theorem vV:eW=eval:=by
 unfold eW;rw[←PySem.W.ZFast.ze14044960220447912780]
def ir (t:Sem Value):Sem Fin:=PySem.W.R.bindR t fun v=> .pure (.done (.ret v))
theorem zp (t:Sem Value):ir t=t.bind fun f=> .pure (.done (.ret f)):=by
 unfold ir;rw[←PySem.W.R.bindR_eq]
theorem nh {M:Model}{A:Around}{t:Sem Value}{Q:Fin→Shared→Prop}{E:Value→Shared→Prop}{s:Shared}(h:wpAny M A (ir t) Q E s):wpAny M A t (fun f s'=>Q (.done (.ret f)) s') E s:=by
 rw[zp] at h;intro Γ p iX;have z:=h Γ p iX;rw[Sem.wp_bind] at z;exact z
def aM (prog:Program)(w:WW)(aa:Heap)(lv:Nat)(fr:OE){α:Type}(m:Sem α)(rs:Ow)(P:α→Ow→Prop):Prop:=
 ∀ (A:Around)(Q:α→Shared→Prop)(E:Value→Shared→Prop)(Fr:Ow)(h:Heap)(g:Array GenState)(d:Drawn)(os:OsState)(tok size:Nat),Ar lv A→(∀ l,fr=some l→A.frames=some l)→Rp aa h (rs++Fr) size→
  (∀ v L' h' g' aN aC,P v L'→bh g g'→Rp aa h' (L'++Fr) aC→Q v ⟨h',g',d,aN,os⟩)→wpAny (model prog w) A m Q E ⟨h,g,d,tok,os⟩
def dx (prog:Program)(w:WW)(aa:Heap)(kt:KT)(lv:Nat)(fr:OE)(n:Nat)(or:List (eV prog w aa))(t:Sem Fin)(L:Ow)(x:SV×Nat×Nat):Out:=
 run (aa:=aa) ⟨prog,w.params⟩ kt lv fr n x.1 or .base t L x.2.1 x.2.2 []
section
variable {prog:Program}{w:WW}{aa:Heap}{kt:KT}
theorem aM.mono {α:Type}{lv rj:Nat}{fr:OE}{m:Sem α}{rs:Ow}{P P':α→Ow→Prop}(h:aM prog w aa lv fr m rs P)(hl:lv≤rj)(hP:∀ v L,P v L→P' v L):aM prog w aa rj fr m rs P':=
 fun A Q E Fr h' g d os tok size hA hf hD kk=>h A Q E Fr h' g d os tok size (hA.le hl) hf hD fun v L' h' g' t s p G D=>kk v L' h' g' t s (hP v L' p) G D
theorem aM.perm {α:Type}{lv:Nat}{fr:OE}{m:Sem α}{rs Gq:Ow}{P:α→Ow→Prop}(h:aM prog w aa lv fr m rs P)(hl:Gq.Perm rs):aM prog w aa lv fr m Gq P:=
 fun A Q E Fr h' g d os tok size hA hf hD kk=>h A Q E Fr h' g d os tok size hA hf (hD.perm (hl.append_right Fr)) kk
theorem aM.frame {α:Type}{lv:Nat}{fr:OE}{m:Sem α}{rs:Ow}{P:α→Ow→Prop}(h:aM prog w aa lv fr m rs P)(X:Ow):aM prog w aa lv fr m (rs++X) fun v L=>∃ L',L=L'++X∧P v L':=
 fun A Q E Fr h' g d os tok size hA hf hD kk=>h A Q E (X++Fr) h' g d os tok size hA hf (by rw[←a5];exact hD) fun v L' h' g' t s p G D=>kk v (L'++X) h' g' t s ⟨L',rfl,p⟩ G (by rw[a5];exact D)
theorem vW (B:Base w aa kt){lv:Nat}{fr fr':OE}(iY:aO fr fr')(n:Nat)(or:List (eV prog w aa))(ps:LN)(gn:Nat){t:Sem Fin}{rs:Ow}{P:Fin→Ow→Prop}{α:Type}(view:Result→Ow→α)(v:SV×Nat×Nat→Ow→α)
  (e:∀ x Fr,((dx prog w aa kt lv fr n or t (rs++Fr) x).kind,ij (dx prog w aa kt lv fr n or t (rs++Fr) x).tr,(dx prog w aa kt lv fr n or t (rs++Fr) x).rest ps gn,view (dx prog w aa kt lv fr n or t (rs++Fr) x).res ((dx prog w aa kt lv fr n or t (rs++Fr) x).get ps))=
   (1,ik (dx prog w aa kt lv fr n or t (rs++Fr) x).tr,Fr,v x ((dx prog w aa kt lv fr n or t (rs++Fr) x).get ps)))
  (hP:∀ x r L',view r L'=v x L'→∃ f,r=.ok f∧P (.done f) L'):aM prog w aa (lv+1) fr' t rs P:=by
 intro A Q E Fr h g d os tok size hA hf hD kk;let V:V:=⟨prog,w,aa,kt,A,fr,fun r s=>∃ f,r=.ok f∧Q (.done f) s,fun _ _=>True,g,d,os⟩;have O:V.Ok lv:=⟨B.kt,B.lim,hA,fun l z=>hf l (iY l z)⟩;have z:=cL O n or .base t (rs++Fr) size tok [] trivial fun sv=>by
  have e:=e (sv,size,tok) Fr;show W V (dx prog w aa kt lv fr n or t (rs++Fr) (sv,size,tok));generalize dx prog w aa kt lv fr n or t (rs++Fr) (sv,size,tok)=o at e;obtain⟨e1,e2,e4,e5⟩:=yB e;cases o with
  |fin r L' aC aN tr=>
   refine⟨bt e2,fun T h' g' G D'=>⟨?_,trivial⟩⟩;obtain⟨f,rfl,hp⟩:=hP _ _ _ e5;refine⟨f,rfl,kk _ _ h' g' aN aC hp G ?_⟩;have y:=Rp.out (o:=.fin (.ok f) L' aC aN tr) D' ps gn;rw[e4] at y;exact y
  |stop=>obtain⟨_,z⟩|z:=nS e1<;>cases z
  |d5=>obtain⟨_,z⟩|z:=nS e1<;>cases z
  |_=>cases e1
 have z':wpAny (model prog w) A t (nM V.M A true V.R) (fun e s'=>V.R (.error e) s') ⟨h,g,d,tok,os⟩:=z.2 (fun _ h=>nomatch h) h g (bh.refl g) hD;refine wpAny_mono z' (fun fin s' hf=>?_) fun ev s' he=>?_
 ·cases fin with
  |done f=>obtain⟨f',B6,hq⟩:=hf;cases B6;exact hq
  |again c=>cases hf.1
 ·obtain⟨f',B6,_⟩:=he;cases B6
theorem dc (h:aM prog w aa lv fr (toF (bu stmts env)) rs P):aM prog w aa lv fr (execs stmts env) rs (fun f=>P (.done f)):=fun A Q E Fr h' g d os tok size hA hf hD kk=>by
 have z:=h A (fun fin s=>∀ f,fin=.done f→Q f s) E Fr h' g d os tok size hA hf hD fun v L' h' g' t s p G D f hf=>by subst hf;exact kk f L' h' g' t s p G D
 rw[kb] at z;exact wpAny_mono (jQ z) (fun f s' hf=>hf f rfl) fun _ _ he=>he
theorem ft (h:aM prog w aa lv fr (ir (eW ex env)) rs P):aM prog w aa lv fr (eval ex env) rs (fun v=>P (.done (.ret v))):=fun A Q E Fr h' g d os tok size hA hf hD kk=>by
 have z:=h A (fun fin s=>∀ f,fin=.done (.ret f)→Q f s) E Fr h' g d os tok size hA hf hD fun v L' h' g' t s p G D f hf=>by subst hf;exact kk f L' h' g' t s p G D
 rw[vV] at z;exact wpAny_mono (nh z) (fun f s' hf=>hf f rfl) fun _ _ he=>he
theorem fD {lv:Nat}{fr:OE}{env:Env}{rs:Ow}{P:Flow→Ow→Prop}(h:P .next rs):aM prog w aa lv fr (execs [] env) rs P:=fun A Q E Fr h' g d os tok size hA hf hD kk=>
 wpAny_execs_nil (kk _ _ _ _ _ _ h (bh.refl _) hD)
theorem bF {lv:Nat}{fr:OE}{st:Stmt}{rest:List Stmt}{env:Env}{rs:Ow}{P P':Flow→Ow→Prop}(h:aM prog w aa lv fr (exec st env) rs P)
  (h2:∀ f L,P f L→(match f with|.next=>aM prog w aa lv fr (execs rest env) L P'|f=>P' f L)):aM prog w aa lv fr (execs (st::rest) env) rs P':=fun A Q E Fr h' g d os tok size hA hf hD kk=>by
 refine wpAny_execs_cons (h A _ E Fr h' g d os tok size hA hf hD fun f L' h' g' t s p G D=>?_);have z:=h2 f L' p;cases f with
 |next=>exact z A Q E Fr h' g' d os t s hA hf D fun v rk jM nc t' s' p' G' D'=>kk v rk jM nc t' s' p' (G.trans G') D'
 |brk=>exact kk _ _ _ _ _ _ z G D
 |cont=>exact kk _ _ _ _ _ _ z G D
 |ret v=>exact kk _ _ _ _ _ _ z G D
theorem de {lv:Nat}{fr:OE}{st:Stmt}{env:Env}{rs:Ow}{P:Flow→Ow→Prop}(h:aM prog w aa lv fr (execs [st] env) rs P):aM prog w aa lv fr (exec st env) rs P:=fun A Q E Fr h' g d os tok size hA hf hD kk=>by
 have z:=h A Q E Fr h' g d os tok size hA hf hD kk;intro Γ p iX;have y:=z Γ p iX;rw[execs_cons,Sem.wp_bind'] at y;refine Sem.wp_mono _ Γ _ (fun f p' s' h'=>?_) (fun _ _ _ h'=>h') _ _ y;cases f<;>exact h'
theorem jT {lv:Nat}{fr:OE}{test:Expr}{body orelse:List Stmt}{pos:Pos}{env:Env}{rs:Ow}{P1:Bool→Ow→Prop}{P:Flow→Ow→Prop}(h:aM prog w aa lv fr (isTrue test env (eval test env)) rs P1)
  (h1:∀ L,P1 true L→aM prog w aa lv fr (execs body env) L P) (h2:∀ L,P1 false L→aM prog w aa lv fr (execs orelse env) L P):aM prog w aa lv fr (exec (.If test body orelse pos) env) rs P:=fun A Q E Fr h' g d os tok size hA hf hD kk=>by
 refine wpAny_If (h A _ E Fr h' g d os tok size hA hf hD fun b L' h' g' t s p G D=>?_);cases b with
 |false=>exact h2 L' p A Q E Fr h' g' d os t s hA hf D fun v rk jM nc t' s' p' G' D'=>kk v rk jM nc t' s' p' (G.trans G') D'
 |true=>exact h1 L' p A Q E Fr h' g' d os t s hA hf D fun v rk jM nc t' s' p' G' D'=>kk v rk jM nc t' s' p' (G.trans G') D'
theorem iu {lv:Nat}{fr:OE}{op:CmpOp}{l r:Expr}{pos:Pos}{env:Env}{whole:Sem Value}{rs:Ow}{P1:Value→Ow→Prop}{P2:Value→Value→Ow→Prop}{v:Bool}(hm:behindInMarks op r=false)
  (hl:aM prog w aa lv fr (eval l env) rs P1) (hr:∀ a L,P1 a L→aM prog w aa lv fr (eval r env) L (P2 a))
  (hc:∀ a b L,P2 a b L→∀ (A:Around)(s:Shared)(Fr:Ow)(size:Nat),Ar lv A→Rp aa s.heap (L++Fr) size→∀ (E:Value→Shared→Prop)(Q:Value→Shared→Prop),Q (.bool v) s→wpAny (model prog w) A (compareOp op a b) Q E s):
  aM prog w aa lv fr (isTrue (.Compare l [op] [r] pos) env whole) rs (fun b L=>b=v∧∃ x y,P2 x y L):=fun A Q E Fr h' g d os tok size hA hf hD kk=>by
 refine wpAny_isTrue_Compare1 (hl A _ E Fr h' g d os tok size hA hf hD fun a L' h' g' t s p G D=>?_) hm;refine hr a L' p A _ E Fr h' g' d os t s hA hf D fun b rk jM nc t' s' p' G' D'=>?_;refine hc a b rk p' A _ Fr s' hA D' E _ (wpAny_truthy_bool ?_);exact kk v rk jM nc t' s' ⟨rfl,a,b,p'⟩ (G.trans G') D'
theorem vX {A:Around}{s:Shared}{la lb:Nat}{xs:LV}{e1 e2:Nat}(h1:s.heap.get? la=some (ab xs e1))(h2:s.heap.get? lb=some (ab [] e2))(hu:A.units<cLine){E:Value→Shared→Prop}{Q:Value→Shared→Prop}(hQ:Q (.bool (!xs.isEmpty)) s):wpAny (model prog w) A (compareOp .NotEq (.ref la) (.ref lb)) Q E s:=by
 have i1:s.heap.IsList la ⟨xs⟩:=⟨_,h1,rfl,e1,rfl⟩;have i2:s.heap.IsList lb ⟨[]⟩:=⟨_,h2,rfl,e2,rfl⟩;cases xs with
 |nil=>exact PySem.SeqAt.RcNeAt.lists (e:=fun _=>true) i1 i2 rfl hu (fun j h1=>absurd h1 (by simp)) prog w E Q hQ
 |cons x xs=>exact PySem.SeqAt.RcNeAt.lists_lengths i1 i2 (by simp) hu prog w E Q hQ
theorem qg {A:Around}{s:Shared}{la lb:Nat}{xs:LV}{e1 e2:Nat}(h1:s.heap.get? la=some (ab xs e1))(h2:s.heap.get? lb=some (ab [] e2))(hu:A.units<cLine){E:Value→Shared→Prop}{Q:Value→Shared→Prop}(hQ:Q (.bool xs.isEmpty) s):wpAny (model prog w) A (compareOp .Eq (.ref la) (.ref lb)) Q E s:=by
 have i1:s.heap.IsList la ⟨xs⟩:=⟨_,h1,rfl,e1,rfl⟩;have i2:s.heap.IsList lb ⟨[]⟩:=⟨_,h2,rfl,e2,rfl⟩;cases xs with
 |nil=>exact PySem.SeqAt.RcAt.lists (e:=fun _=>true) i1 i2 rfl hu (fun j h1=>absurd h1 (by simp)) prog w E Q hQ
 |cons x xs=>exact PySem.SeqAt.RcAt.lists_lengths i1 i2 (by simp) hu prog w E Q hQ
theorem kc {lv:Nat}{fr:OE}{test:Expr}{body orelse:List Stmt}{env:Env}{rs:Ow}{P1:Bool→Ow→Prop}{P2:Ow→Prop}{P:Result→Ow→Prop}
  (hT:aM prog w aa lv fr (isTrue test env (eval test env)) rs P1)
  (hB:∀ L,P1 true L→aM prog w aa lv fr (execs body env) L (fun f L'=>f=.next∧P2 L'))
  (hE:∀ L,P1 false L→aM prog w aa lv fr (execs orelse env) L (fun f L'=>P (.ok f) L'))
  (hN:∀ L',P2 L'→aJ prog w aa lv fr (.whileLoop test body orelse env) L' P):aJ prog w aa lv fr (.whileLoop test body orelse env) rs P:=by
 intro A R Fr h g d os tok size hA hf hD kk;refine codeAny_of_tree ?_;show wpAny _ A ((whileTurn test body orelse env).onRaise (fun x=>do noteFrame x env;theTreesLotGoes x)) _ _ _;refine wpAny_noted ?_;simp only[whileTurn];refine aw (hT A _ _ Fr h g d os tok size hA hf hD fun b L' h' g' t s p G D=>?_);cases b with
 |false=>
  simp only[Bool.false_eq_true,if_false];exact aw (hE L' p A _ _ Fr h' g' d os t s hA hf D fun f rk jM nc t' s' p' G' D'=>aG (kk _ _ _ _ _ _ p' (G.trans G') D'))
 |true=>
  simp only[if_true];refine aw (hB L' p A _ _ Fr h' g' d os t s hA hf D fun f rk jM nc t' s' p' G' D'=>?_);obtain⟨rfl,p2⟩:=p';exact aG ⟨rfl,hN _ p2 A R Fr jM nc d os t' s' hA hf D' fun r L3 h3 g3 t3 s3 p3 G3 D3=>kk r L3 h3 g3 t3 s3 p3 ((G.trans G').trans G3) D3⟩
theorem sL {lv:Nat}{fr:OE}{t:Sem Fin}{rs:Ow}{P:Fin→Ow→Prop}
  (H:∀ (A:Around)(R:Result→Shared→Prop)(Fr:Ow)(h:Heap)(g:Array GenState)(d:Drawn)(os:OsState)(tok size:Nat),Ar lv A→(∀ l,fr=some l→A.frames=some l)→Rp aa h (rs++Fr) size→
   (∀ f L' h' g' aN aC,P (.done f) L'→bh g g'→Rp aa h' (L'++Fr) aC→R (.ok f) ⟨h',g',d,aN,os⟩)→Go (VV prog w aa kt A R fr g d os) .base t ⟨h,g,d,tok,os⟩):aM prog w aa lv fr t rs P:=by
 intro A Q E Fr h g d os tok size hA hf hD kk;have z':wpAny (model prog w) A t (nM (model prog w) A true (fun r s=>∃ f,r=.ok f∧Q (.done f) s)) (fun e s'=>∃ f,(Except.error e:Result)=.ok f∧Q (.done f) s') ⟨h,g,d,tok,os⟩:=
  H A (fun r s=>∃ f,r=.ok f∧Q (.done f) s) Fr h g d os tok size hA hf hD fun f L' h' g' t' s' p G D=>⟨f,rfl,kk _ _ _ _ _ _ p G D⟩
 refine wpAny_mono z' (fun fin s' hf=>?_) fun ev s' he=>?_
 ·cases fin with
  |done f=>obtain⟨f',B6,hq⟩:=hf;cases B6;exact hq
  |again c=>cases hf.1
 ·obtain⟨f',B6,_⟩:=he;cases B6
theorem lC (B:Base w aa kt){lv:Nat}{fr:OE}{c:Code}{rs:Ow}{P:Result→Ow→Prop}
  (H:∀ (A:Around)(R:Result→Shared→Prop)(Fr:Ow)(h:Heap)(g:Array GenState)(d:Drawn)(os:OsState)(tok size:Nat),Ar (lv+1) A→(∀ l,fr=some l→A.frames=some l)→Rp aa h (rs++Fr) size→
   (∀ r L' h' g' aN aC,P r L'→bh g g'→Rp aa h' (L'++Fr) aC→R r ⟨h',g',d,aN,os⟩)→Go (VV prog w aa kt A R fr g d os) (.bL c) (startT kt c) ⟨h,g,d,tok,os⟩):aJ prog w aa (lv+1) fr c rs P:=by
 intro A R Fr h g d os tok size hA hf hD kk;have O:(VV prog w aa kt A R fr g d os).Ok lv:=⟨B.kt,B.lim,hA,hf⟩;exact fA (V:=VV prog w aa kt A R fr g d os) O hD (H A R Fr h g d os tok size hA hf hD kk)
theorem fh (B:Base w aa kt){lv:Nat}{fr fr':OE}(n:Nat)(or:List (eV prog w aa))(ps:LN)(gn:Nat){κ:K}{t:Sem Fin}{rs:Ow}
  (e:∀ x Fr,((runK prog w aa kt lv fr n or κ t (rs++Fr) x).kind,ij (runK prog w aa kt lv fr n or κ t (rs++Fr) x).tr,(runK prog w aa kt lv fr n or κ t (rs++Fr) x).rest ps gn)=(2,ik (runK prog w aa kt lv fr n or κ t (rs++Fr) x).tr,Fr))
  (ok:κ.ok) {A:Around} {R:Result→Shared→Prop} {Y Fr:Ow} {h:Heap} {g g0:Array GenState} {d d0:Drawn} {os qf:OsState} {tok size:Nat} (hA:Ar (lv+1) A) (hf:∀ l,fr=some l→A.frames=some l) (hD:Rp aa h (rs++(Y++Fr)) size)
  (Pm:SV×Nat×Nat→Result→Ow→Prop)
  (mid:∀ x,aJ prog w aa lv none (runK prog w aa kt lv fr n or κ t (rs++(Y++Fr)) x).code ((runK prog w aa kt lv fr n or κ t (rs++(Y++Fr)) x).get ps++Y) (Pm x))
  (kk:∀ x r L2 h' g' aN aC,Pm x r L2→bh g g'→(runK prog w aa kt lv fr n or κ t (rs++(Y++Fr)) x).c8.ok→Rp aa h' (L2++Fr) aC→
   Go (VV prog w aa kt A R fr' g0 d0 qf) (runK prog w aa kt lv fr n or κ t (rs++(Y++Fr)) x).c8 ((runK prog w aa kt lv fr n or κ t (rs++(Y++Fr)) x).k r) ⟨h',g',d,aN,os⟩):
  Go (VV prog w aa kt A R fr' g0 d0 qf) κ t ⟨h,g,d,tok,os⟩:=by
 have O:(VV prog w aa kt A R fr g d os).Ok lv:=⟨B.kt,B.lim,hA,hf⟩;refine eG (g':=g) (d':=d) (os':=os) ((cL O n or κ t (rs++(Y++Fr)) size tok [] ok fun sv=>?_).2 (fun _ h=>nomatch h) h g (bh.refl g) hD);have e:=e (sv,size,tok) (Y++Fr);have kk:=kk (sv,size,tok);have mid:=mid (sv,size,tok);generalize Qp:Pm (sv,size,tok)=Qq at mid kk;show W _ (runK prog w aa kt lv fr n or κ t (rs++(Y++Fr)) (sv,size,tok));generalize runK prog w aa kt lv fr n or κ t (rs++(Y++Fr)) (sv,size,tok)=o at e kk mid;obtain⟨e1,e2,e4⟩:=pS e;obtain⟨L,sz,tk,tr,ho,vz⟩:=nZ e1;have y0:∀ {h':Heap}{aC:Nat},Rp aa h' o.own aC→Rp aa h' (o.get ps++(Y++Fr)) aC:=fun D'=>by
  have y:=Rp.out (o:=o) D' ps gn;rw[e4] at y;exact y
 rw[ho] at e2 y0 ⊢;refine⟨bt e2,fun T h' g' G EW D'=>?_⟩;have yD:=y0 D';rw[←a5] at yD;rw[←ho] at yD;refine codeAny_mono (mid (around A o.c8) (fun r s=>Go (VV prog w aa kt A R fr' g0 d0 qf) o.c8 (o.k r) s) Fr h' g' d os tk sz (hA.around EW vz) (fun _ z=>nomatch z) yD fun r L2 h2 g2 t2 s2 p G2 D2=>kk r L2 h2 g2 t2 s2 p (G.trans G2) EW D2) fun r s hr=>?_;exact eG hr
end
section
variable {prog:Program}{w:WW}{aa:Heap}{kt:KT}
def vY (prog:Program)(w:WW)(aa:Heap)(lv:Nat)(fr:OE)(bc br:Bool)(c0:Code)(cA ra:Ow)(r0:(N2)→(Nat→Nat→Nat)→Result)(L0 ey:(N2)→(Nat→Nat→Nat)→Ow):Prop:=
 ∀ t x,aJ prog w aa lv fr (bV bc t c0) (rt cA x++ra) (fun r L=>∃ b f L1,L=L1++ey b f∧nU br r=r0 b f∧nL L1=L0 b f)
def g5 (prog:Program)(w:WW)(aa:Heap)(lv:Nat)(fr:OE)(br:Bool)(t0:Sem Fin)(cA ra:Ow)(r0:(N2)→(Nat→Nat→Nat)→Result)(L0 ey:(N2)→(Nat→Nat→Nat)→Ow):Prop:=
 ∀ x,aM prog w aa lv fr t0 (rt cA x++ra) (fun fin L=>∃ r b f L1,fin=.done r∧L=L1++ey b f∧nU br (.ok r)=r0 b f∧nL L1=L0 b f)
theorem qh (B:Base w aa kt){lv:Nat}{fr fr':OE}(iY:aO fr fr')(n:Nat)(or:List (eV prog w aa))(tk:SV→Nat→Nat)(fk:SV→Nat→Nat→Nat)(ps:LN)(gn k:Nat){bc br:Bool}{c0:Code}{cA ra:Ow}{r0:(N2)→(Nat→Nat→Nat)→Result}{L0 ey:(N2)→(Nat→Nat→Nat)→Ow}
  (e:∀ t x X Fr,((cI prog w aa kt lv fr n or (bV bc t c0) (rt cA x++ra++Fr) X).kind,ij (cI prog w aa kt lv fr n or (bV bc t c0) (rt cA x++ra++Fr) X).tr,(cI prog w aa kt lv fr n or (bV bc t c0) (rt cA x++ra++Fr) X).rest ps gn,
    nU br (cI prog w aa kt lv fr n or (bV bc t c0) (rt cA x++ra++Fr) X).res,nL (aT k ((cI prog w aa kt lv fr n or (bV bc t c0) (rt cA x++ra++Fr) X).get ps)),aR k ((cI prog w aa kt lv fr n or (bV bc t c0) (rt cA x++ra++Fr) X).get ps))=
   (1,ik (cI prog w aa kt lv fr n or (bV bc t c0) (rt cA x++ra++Fr) X).tr,Fr,r0 (bJ tk X ((cI prog w aa kt lv fr n or (bV bc t c0) (rt cA x++ra++Fr) X).get ps)) (fk X.1),
    L0 (bJ tk X ((cI prog w aa kt lv fr n or (bV bc t c0) (rt cA x++ra++Fr) X).get ps)) (fk X.1),ey (bJ tk X ((cI prog w aa kt lv fr n or (bV bc t c0) (rt cA x++ra++Fr) X).get ps)) (fk X.1))):
  vY prog w aa (lv+1) fr' bc br c0 cA ra r0 L0 ey:=fun t x=>
 vN B iY n or ps gn (fun r L=>(nU br r,nL (aT k L),aR k L)) (fun X L=>(r0 (bJ tk X L) (fk X.1),L0 (bJ tk X L) (fk X.1),ey (bJ tk X L) (fk X.1))) (e t x) fun X r L h=>by
  simp only[Prod.mk.injEq] at h;exact⟨bJ tk X L,fk X.1,aT k L,by rw[←h.2.2,take_drop],h.1,h.2.1⟩
theorem o3 (B:Base w aa kt){lv:Nat}{fr fr':OE}(iY:aO fr fr')(n:Nat)(or:List (eV prog w aa))(tk:SV→Nat→Nat)(fk:SV→Nat→Nat→Nat)(ps:LN)(gn k:Nat){br:Bool}{t0:Sem Fin}{cA ra:Ow}{r0:(N2)→(Nat→Nat→Nat)→Result}{L0 ey:(N2)→(Nat→Nat→Nat)→Ow}(hr:∀ b f e,r0 b f≠.error e)
  (e:∀ x X Fr,((dx prog w aa kt lv fr n or t0 (rt cA x++ra++Fr) X).kind,ij (dx prog w aa kt lv fr n or t0 (rt cA x++ra++Fr) X).tr,(dx prog w aa kt lv fr n or t0 (rt cA x++ra++Fr) X).rest ps gn,
    nU br (dx prog w aa kt lv fr n or t0 (rt cA x++ra++Fr) X).res,nL (aT k ((dx prog w aa kt lv fr n or t0 (rt cA x++ra++Fr) X).get ps)),aR k ((dx prog w aa kt lv fr n or t0 (rt cA x++ra++Fr) X).get ps))=
   (1,ik (dx prog w aa kt lv fr n or t0 (rt cA x++ra++Fr) X).tr,Fr,r0 (bJ tk X ((dx prog w aa kt lv fr n or t0 (rt cA x++ra++Fr) X).get ps)) (fk X.1),
    L0 (bJ tk X ((dx prog w aa kt lv fr n or t0 (rt cA x++ra++Fr) X).get ps)) (fk X.1),ey (bJ tk X ((dx prog w aa kt lv fr n or t0 (rt cA x++ra++Fr) X).get ps)) (fk X.1))):
  g5 prog w aa (lv+1) fr' br t0 cA ra r0 L0 ey:=fun x=>
 vW B iY n or ps gn (fun r L=>(nU br r,nL (aT k L),aR k L)) (fun X L=>(r0 (bJ tk X L) (fk X.1),L0 (bJ tk X L) (fk X.1),ey (bJ tk X L) (fk X.1))) (e x) fun X r L h=>by
  simp only[Prod.mk.injEq] at h;cases r with
  |error ev=>exact absurd h.1.symm (by cases br<;>exact hr _ _ _)
  |ok f=>exact⟨f,rfl,f,bJ tk X L,fk X.1,aT k L,rfl,by rw[←h.2.2,take_drop],h.1,h.2.1⟩
theorem tN (B:Base w aa kt){lv:Nat}{fr fr':OE}(iY:aO fr fr'){rj:Nat}(eh:lv+1≤rj)(n:Nat)(or:List (eV prog w aa))(tk:SV→Nat→Nat)(fk:SV→Nat→Nat→Nat)(ps:LN)(gn k:Nat){bc:Bool}{c0:Code}{cA ra:Ow}{c1:(N2)→(Nat→Nat→Nat)→Code}{L0 ey:(N2)→(Nat→Nat→Nat)→Ow}{P:Result→Ow→Prop}
  (e:∀ t x X Fr,((cI prog w aa kt lv fr n or (bV bc t c0) (rt cA x++ra++Fr) X).kind,ij (cI prog w aa kt lv fr n or (bV bc t c0) (rt cA x++ra++Fr) X).tr,(cI prog w aa kt lv fr n or (bV bc t c0) (rt cA x++ra++Fr) X).rest ps gn,
    (cI prog w aa kt lv fr n or (bV bc t c0) (rt cA x++ra++Fr) X).code,nL (aT k ((cI prog w aa kt lv fr n or (bV bc t c0) (rt cA x++ra++Fr) X).get ps)),aR k ((cI prog w aa kt lv fr n or (bV bc t c0) (rt cA x++ra++Fr) X).get ps))=
   (5,ik (cI prog w aa kt lv fr n or (bV bc t c0) (rt cA x++ra++Fr) X).tr,Fr,c1 (bJ tk X ((cI prog w aa kt lv fr n or (bV bc t c0) (rt cA x++ra++Fr) X).get ps)) (fk X.1),
    L0 (bJ tk X ((cI prog w aa kt lv fr n or (bV bc t c0) (rt cA x++ra++Fr) X).get ps)) (fk X.1),ey (bJ tk X ((cI prog w aa kt lv fr n or (bV bc t c0) (rt cA x++ra++Fr) X).get ps)) (fk X.1)))
  (Y:Ow) (hP:∀ b f x,aJ prog w aa rj fr' (c1 b f) (rt (L0 b f) x++ey b f++Y) P):
  ∀ t x,aJ prog w aa rj fr' (bV bc t c0) (rt cA x++ra++Y) P:=fun t x=>
 tF B iY n or ps gn (fun c L=>(c,nL (aT k L),aR k L)) (fun X L=>(c1 (bJ tk X L) (fk X.1),L0 (bJ tk X L) (fk X.1),ey (bJ tk X L) (fk X.1))) (e t x) eh Y fun X c' L' h=>by
  obtain⟨h1,h2,h3⟩:=pS h;subst h1;obtain⟨x',jJ⟩:=il (aT k L');have z:=hP (bJ tk X L') (fk X.1) x';rw[←h2,←h3] at z;intro A R Fr hh g d os tok size hA hf hD kk;refine z A R Fr hh g d os tok size hA hf ?_ kk;rw[←take_drop k L',a5] at hD;rw[a5];exact hD.same jJ.1.append.append
theorem g5.use {lv:Nat}{fr:OE}{br:Bool}{t0:Sem Fin}{cA ra:Ow}{r0:(N2)→(Nat→Nat→Nat)→Result}{L0 ey:(N2)→(Nat→Nat→Nat)→Ow}(h:g5 prog w aa lv fr br t0 cA ra r0 L0 ey)(Y:Ow)(x:Nat→Tk):
  aM prog w aa lv fr t0 (rt cA x++ra++Y) (fun fin L=>∃ r b f x',fin=.done r∧nU br (.ok r)=r0 b f∧L=rt (L0 b f) x'++ey b f++Y):=by
 intro A Q E Fr hh g d os tok size hA hf hD kk;rw[a5] at hD;refine h x A Q E (Y++Fr) hh g d os tok size hA hf hD fun fin L' h' g' t s hP G D=>?_;obtain⟨r,b,f,L1,rfl,rfl,hr,hn⟩:=hP;obtain⟨x',jJ⟩:=il L1;rw[hn] at jJ;refine kk _ _ h' g' t s ⟨r,b,f,x',rfl,hr,rfl⟩ G ?_;simp only[a5] at D ⊢;exact D.same jJ.1.append
theorem vY.use {lv:Nat}{fr:OE}{bc br:Bool}{c0:Code}{cA ra:Ow}{r0:(N2)→(Nat→Nat→Nat)→Result}{L0 ey:(N2)→(Nat→Nat→Nat)→Ow}(h:vY prog w aa lv fr bc br c0 cA ra r0 L0 ey)(Y:Ow)(t:NT)(x:Nat→Tk):
  aJ prog w aa lv fr (bV bc t c0) (rt cA x++ra++Y) (fun r L=>∃ b f x',nU br r=r0 b f∧L=rt (L0 b f) x'++ey b f++Y):=by
 intro A R Fr hh g d os tok size hA hf hD kk;rw[a5] at hD;refine h t x A R (Y++Fr) hh g d os tok size hA hf hD fun r L' h' g' t s hP G D=>?_;obtain⟨b,f,L1,rfl,hr,hn⟩:=hP;obtain⟨x',jJ⟩:=il L1;rw[hn] at jJ;refine kk _ _ h' g' t s ⟨b,f,x',hr,rfl⟩ G ?_;simp only[a5] at D ⊢;exact D.same jJ.1.append
theorem bw {lv:Nat}{fr:OE}{C:Code}{P:Result→Ow→Prop}(n:Nat)(S:Nat→Ow→Prop)
  (turn:∀ i L,i<n→S i L→(∀ L',S (i+1) L'→aJ prog w aa lv fr C L' P)→aJ prog w aa lv fr C L P) (fin:∀ L,S n L→aJ prog w aa lv fr C L P):
  ∀ {i:Nat}{L:Ow},i≤n→S i L→aJ prog w aa lv fr C L P:=by
 intro i
 induction h:n-i generalizing i with
 |zero=>intro L hi hS;exact fin L (by rw[show n=i by omega];exact hS)
 |succ k ih=>intro L hi hS;exact turn i L (by omega) hS fun L' B7=>ih (by omega) (by omega) B7
def dk (lv:Nat)(bc br:Bool)(k:Nat)(fr:Option (Code→Ow→List Env))(c0:Code→Ow→Code)(cA ra:Code→Ow→Ow)(r0:Code→Ow→(N2)→(Nat→Nat→Nat)→Result)(L0 ey:Code→Ow→(N2)→(Nat→Nat→Nat)→Ow)
  (h:∀ c rs,vY prog w aa lv (fr.map fun f=>f c rs) bc br (c0 c rs) (cA c rs) (ra c rs) (r0 c rs) (L0 c rs) (ey c rs)):Ent prog w aa where
 lv:=lv
 fr:=fr
 f:=fun c rs u=>⟨lV br (u.n 0) (r0 c rs (fun i=>u.n (Nat.succ i)) u.f),rt (L0 c rs (fun i=>u.n (Nat.succ i)) u.f) u.t++ey c rs (fun i=>u.n (Nat.succ i)) u.f⟩
 I:=fun _ _ _=>True
 vf:=fun c rs=>[.eq (.c (yF bc c)) (.c (c0 c rs)),.eq (.w (nL (aT k rs))) (.w (cA c rs)),.eq (.w (aR k rs)) (.w (ra c rs))]
 quiet:=fun c rs m hm=>by
  rcases ba.mp hm with rfl|hm
  ·trivial
  ·rcases ba.mp hm with rfl|hm
   ·trivial
   ·rcases ba.mp hm with rfl|hm
    ·trivial
    ·nomatch hm
 ok:=fun c rs hf _=>by
  have h1:yF bc c=c0 c rs:=by
   have z:TV.c (yF bc c)=TV.c (c0 c rs):=hf _ (.head _);injection z
  have h2:nL (aT k rs)=cA c rs:=by
   have z:TV.w (nL (aT k rs))=TV.w (cA c rs):=hf _ (.tail _ (.head _));injection z
  have h3:aR k rs=ra c rs:=by
   have z:TV.w (aR k rs)=TV.w (ra c rs):=hf _ (.tail _ (.tail _ (.head _)));injection z
  obtain⟨t,ht⟩:=oR bc c;obtain⟨x,hx⟩:=il (aT k rs);have hT:=h c rs t x;rw[←h1,←h2,←h3,←ht] at hT;intro A R Fr hh g d os tok size hA iY hD kk;have gZ:Rp aa hh (rt (nL (aT k rs)) x++aR k rs++Fr) size:=by
   rw[←take_drop k rs] at hD;exact hD.same hx.1.append.append
  refine hT A R Fr hh g d os tok size hA iY gZ fun r L h' g' aN aC hP G D'=>?_;obtain⟨b,f,L1,rfl,hb,hL⟩:=hP;obtain⟨t',tD⟩:=lA br r;obtain⟨x',jJ⟩:=il L1;refine kk r (rt (nL L1) x'++ey c rs b f) h' g' aN aC ⟨⟨fun i=>match i with|0=>t'|i+1=>b i,x',fun _=>[],f,fun _=>default⟩,trivial,?_⟩ G (D'.same jJ.1.append.append);show(⟨lV br t' (r0 c rs b f),rt (L0 c rs b f) x'++ey c rs b f⟩:BN)=⟨r,rt (nL L1) x'++ey c rs b f⟩;rw[←hb,←hL,←tD]
end
def ef (n:Nat)(es:LN)(rr:Ow)(i:Nat):Nat:=match Nat.blt i n with
 |true=>adr rr i
 |false=>match es[i-n]? with
  |some a=>a
  |none=>0
noncomputable def j6 (c:Code):Nat:=match c with
 |.compStart _ _ _ _ env=>match env.frame with|some a=>a|none=>0
 |.compLoop _ _ _ _ env=>match env.frame with|some a=>a|none=>0
 |.forLoop _ _ _ _ env=>match env.frame with|some a=>a|none=>0
 |.whileLoop _ _ _ env=>match env.frame with|some a=>a|none=>0
 |_=>0
noncomputable def gI (c:Code)(i:Nat):Nat:=match c with
 |.compStart _ _ _ _ env=>match env.cells[i]? with|some a=>a.2|none=>0
 |.forLoop _ _ _ _ env=>match env.cells[i]? with|some a=>a.2|none=>0
 |.whileLoop _ _ _ env=>match env.cells[i]? with|some a=>a.2|none=>0
 |_=>0
section
universe u o8 vZ NB
noncomputable def fq {P:Bool→Bool→Prop}{α:Type u}(F:∀ b c,P b c→α):(P true true→α)×(P true false→α)×(P false true→α)×(P false false→α):=(F true true,F true false,F false true,F false false)
noncomputable def v3 {τ:Type o8}{α:Type u}(F:Option τ→α):α×(τ→α):=(F none,fun x=>F (some x))
theorem dI {P:Bool→Bool→Prop}{α:Type u}{F G:∀ b c,P b c→α}(h:fq F=fq G)(b c:Bool)(x:P b c):F b c x=G b c x:=by
 unfold fq at h;simp only[Prod.mk.injEq] at h;obtain⟨h1,h2,h3,h4⟩:=h;cases b<;>cases c
 ·exact congrFun h4 x
 ·exact congrFun h3 x
 ·exact congrFun h2 x
 ·exact congrFun h1 x
theorem o9 {τ:Type o8}{α:Type u}{F G:Option τ→α}(h:v3 F=v3 G)(o:Option τ):F o=G o:=by
 unfold v3 at h;simp only[Prod.mk.injEq] at h;cases o with
 |none=>exact h.1
 |some x=>exact congrFun h.2 x
theorem d4 {P:Bool→Bool→Prop}{τ:Type o8}{α:Type u}{F G:∀ b c,P b c→Option τ→α}(h:fq (fun b c x=>v3 (F b c x))=fq (fun b c x=>v3 (G b c x)))(b c:Bool)(x:P b c)(o:Option τ):F b c x o=G b c x o:=o9 (dI h b c x) o
theorem Gx {P:Bool→Bool→Prop}{τ:Type o8}{σ:Type vZ}{α:Type u}{F G:∀ b c,P b c→Option τ→Option σ→α}(h:fq (fun b c x=>v3 fun o=>v3 (F b c x o))=fq (fun b c x=>v3 fun o=>v3 (G b c x o)))(b c:Bool)(x:P b c)(o:Option τ)(q:Option σ):F b c x o q=G b c x o q:=o9 (o9 (dI h b c x) o) q
noncomputable def I5 {P Q:Bool→Bool→Prop}{α:Type u}(F:∀ b c,P b c→Q b c→α):(P true true→Q true true→α)×(P true false→Q true false→α)×(P false true→Q false true→α)×(P false false→Q false false→α):=(F true true,F true false,F false true,F false false)
theorem JP {P Q:Bool→Bool→Prop}{α:Type u}{F G:∀ b c,P b c→Q b c→α}(h:I5 F=I5 G)(b c:Bool)(x:P b c)(y:Q b c):F b c x y=G b c x y:=
 dI (P:=fun b c=>P b c∧Q b c) (F:=fun b c z=>F b c z.1 z.2) (G:=fun b c z=>G b c z.1 z.2) (congrArg (fun t=>(fun(z:_∧_)=>t.1 z.1 z.2,fun(z:_∧_)=>t.2.1 z.1 z.2,fun(z:_∧_)=>t.2.2.1 z.1 z.2,fun(z:_∧_)=>t.2.2.2 z.1 z.2)) h) b c ⟨x,y⟩
noncomputable def B8 {τ:Type o8}{σ:Type vZ}{α:Type u}(F:Option (τ×Option σ)→α):α×(τ→α)×(τ→σ→α):=(F none,fun x=>F (some (x,none)),fun x y=>F (some (x,some y)))
theorem v5 {τ:Type o8}{σ:Type vZ}{α:Type u}{F G:Option (τ×Option σ)→α}(h:B8 F=B8 G)(o:Option (τ×Option σ)):F o=G o:=by
 unfold B8 at h;simp only[Prod.mk.injEq] at h;obtain⟨h1,h2,h3⟩:=h;rcases o with _|⟨x,_|y⟩
 ·exact h1
 ·exact congrFun h2 x
 ·exact congrFun (congrFun h3 x) y
noncomputable def bp {α:Type u}(F:Bool→α):α×α:=(F true,F false)
theorem Bf {α:Type u}{F G:Bool→α}(h:bp F=bp G)(b:Bool):F b=G b:=by
 unfold bp at h;simp only[Prod.mk.injEq] at h;cases b
 ·exact h.2
 ·exact h.1
theorem NC {P:Bool→Bool→Prop}{τ:Type o8}{σ:Type vZ}{α:Type u}{F G:∀ b c,P b c→Option (τ×Option σ)→α}(h:fq (fun b c x=>B8 (F b c x))=fq (fun b c x=>B8 (G b c x)))(b c:Bool)(x:P b c)(o:Option (τ×Option σ)):F b c x o=G b c x o:=v5 (dI h b c x) o
theorem Gy {P:Bool→Bool→Prop}{τ:Type o8}{σ:Type vZ}{α:Type u}{F G:∀ b c,P b c→Option (τ×Option σ)→Bool→α}(h:fq (fun b c x=>B8 fun s=>bp (F b c x s))=fq (fun b c x=>B8 fun s=>bp (G b c x s)))(b c:Bool)(x:P b c)(o:Option (τ×Option σ))(s:Bool):F b c x o s=G b c x o s:=Bf (v5 (dI h b c x) o) s
theorem EX {P:Bool→Bool→Prop}{α:Type u}{F G:∀ b c,P b c→Bool→α}(h:fq (fun b c x=>bp (F b c x))=fq (fun b c x=>bp (G b c x)))(b c:Bool)(x:P b c)(s:Bool):F b c x s=G b c x s:=Bf (dI h b c x) s
theorem I6 {H P Q:Bool→Bool→Prop}{τ:Type o8}{α:Type u}{F G:∀ s t,H s t→∀ b c,P b c→Q b c→Option τ→α}(h:fq (fun s t x=>I5 (fun b c y z=>v3 (F s t x b c y z)))=fq (fun s t x=>I5 (fun b c y z=>v3 (G s t x b c y z))))(s t:Bool)(x:H s t)(b c:Bool)(y:P b c)(z:Q b c)(o:Option τ):F s t x b c y z o=G s t x b c y z o:=o9 (JP (dI h s t x) b c y z) o
theorem fb {α:Type u}{F G:Bool→Bool→α}(h:fq (P:=fun _ _=>True) (fun b c _=>F b c)=fq (P:=fun _ _=>True) (fun b c _=>G b c))(b c:Bool):F b c=G b c:=dI (P:=fun _ _=>True) h b c ⟨⟩
end
noncomputable def so (w:WW)(b:Bool):WW:=w.withFollow "set-order" b
theorem zq (w:WW):∃ b,w=so w b:=⟨w.params.followText "set-order",by unfold so;rw[World.withFollow_self]⟩
theorem gf (w:WW)(b1 b2:Bool):(wd (so w true) b1 b2).params.followText "set-order"=true:=by cases b1<;>cases b2<;>kernel_rfl
noncomputable def ow {prog:Program}{w:WW}{aa:Heap}(n:Nat)(t:List (eV prog w aa)):List (eV prog w aa):=
 Nat.rec (motive:=fun _=>Nat→List (eV prog w aa)→List (eV prog w aa)) (fun _ t=>t)
  (fun _ ih n t=>cond (Nat.beq n 0) t (cond (Nat.beq (n % 16) 0) (ih (n / 4096) (.o (n / 16 % 256)::t)) (cond (Nat.beq (n % 16) 15) (ih (n / 256) (.o (n / 16 % 16+8)::t))
   (ih (n / 16) (cond (Nat.ble (n % 16) 9) (.o (n % 16-1)) (cond (Nat.beq (n % 16) 10) .b (cond (Nat.beq (n % 16) 11) .i (cond (Nat.beq (n % 16) 12) .e (cond (Nat.beq (n % 16) 13) .x .y))))::t))))) 1000 n t
structure SX (κ ρ:Type) where
 c:κ
 rs:Ow
 ra:Ow
 r:(N2)→(Nat→Nat→Nat)→ρ
 L:(N2)→(Nat→Nat→Nat)→Ow
 La:(N2)→(Nat→Nat→Nat)→Ow
noncomputable abbrev sA {κ ρ:Type}(c:κ)(rs ra:Ow)(r:(N2)→(Nat→Nat→Nat)→ρ)(L:(N2)→(Nat→Nat→Nat)→Ow):SX κ ρ:=⟨c,rs,ra,r,L,fun _ _=>ra⟩
noncomputable abbrev sB {κ ρ:Type}(c:κ)(rs ra:Ow)(r:(N2)→(Nat→Nat→Nat)→ρ)(L:(N2)→(Nat→Nat→Nat)→Ow):SX κ ρ:=⟨c,rs,ra,r,fun _ _=>rs,L⟩
noncomputable abbrev sC {κ ρ:Type}(c:κ)(rs ra:Ow)(r:(N2)→(Nat→Nat→Nat)→ρ):SX κ ρ:=⟨c,rs,ra,r,fun _ _=>rs,fun _ _=>ra⟩
abbrev TX (prog:Program)(w:WW)(aa:Heap)(lv:Nat)(fr:OE)(bc br:Bool)(S:SX Code Result):Prop:=vY prog w aa lv fr bc br S.c S.rs S.ra S.r S.L S.La
abbrev hH (prog:Program)(w:WW)(aa:Heap)(lv:Nat)(fr:OE)(br:Bool)(S:SX (Sem Fin) Result):Prop:=g5 prog w aa lv fr br S.c S.rs S.ra S.r S.L S.La
def EY (prog:Program)(w:WW)(aa:Heap)(lv:Nat)(bc:Bool)(S:SX Code Code):Prop:=∀ (frx:OE)(lvx:Nat),lv≤lvx→∀ (Y:Ow)(P:Result→Ow→Prop),(∀ b f x,aJ prog w aa lvx frx (S.r b f) (rt (S.L b f) x++S.La b f++Y) P)→
 ∀ t x,aJ prog w aa lvx frx (bV bc t S.c) (rt S.rs x++S.ra++Y) P
theorem TX.g {prog:Program}{w:WW}{aa:Heap}{lv:Nat}{bc br:Bool}{c:Code}{rs ra:Ow}{r:(N2)→Result}{L La:(N2)→Ow}(h:TX prog w aa lv none bc br ⟨c,rs,ra,fun b _=>r b,fun b _=>L b,fun b _=>La b⟩):tH prog w aa lv bc br c rs ra r L La:=
 fun t x A R Fr h' g d os tok size hA hD kk=>h t x A R Fr h' g d os tok size hA (fun _ z=>nomatch z) hD fun r L' jM g' aN aC ⟨b,_,L1,h1,h2,h3⟩ G D'=>kk r L' jM g' aN aC ⟨b,L1,h1,h2,h3⟩ G D'
theorem EY.y {prog:Program}{w:WW}{aa:Heap}{lv:Nat}{bc:Bool}{S:SX Code Code}(h:EY prog w aa lv bc S){frx:OE}{lvx:Nat}(hl:lv≤lvx)(Y:Ow){P:Result→Ow→Prop}(hP:∀ b f x,aJ prog w aa lvx frx (S.r b f) (rt (S.L b f) x++S.La b f++Y) P)(t:NT)(x:Nat→Tk):
  aJ prog w aa lvx frx (bV bc t S.c) (rt S.rs x++S.ra++Y) P:=h frx lvx hl Y P hP t x
theorem EY.z {prog:Program}{w:WW}{aa:Heap}{lv:Nat}{bc:Bool}{S:SX Code Code}(h:EY prog w aa lv bc S){frx:OE}{lvx:Nat}(hl:lv≤lvx){P:Result→Ow→Prop}(hP:∀ b f x,aJ prog w aa lvx frx (S.r b f) (rt (S.L b f) x++S.La b f) P)(t:NT)(x:Nat→Tk):
  aJ prog w aa lvx frx (bV bc t S.c) (rt S.rs x++S.ra) P:=by
 have z:=h frx lvx hl [] P (fun b f x=>by rw[ck];exact hP b f x) t x;rw[ck] at z;exact z
def JQ {ρ:Type}(v:Out→ρ)(ps:LN)(gn k:Nat)(o:Out):Nat×List TV×Ow×ρ×Ow×Ow:=(o.kind,ij o.tr,o.rest ps gn,v o,nL (aT k (o.get ps)),aR k (o.get ps))
def JR {ρ:Type}(kd:Nat)(tk:SV→Nat→Nat)(fk:SV→Nat→Nat→Nat)(ps:LN)(X:SV×Nat×Nat)(Fr:Ow)(r:(N2)→(Nat→Nat→Nat)→ρ)(L La:(N2)→(Nat→Nat→Nat)→Ow)(o:Out):Nat×List TV×Ow×ρ×Ow×Ow:=(kd,ik o.tr,Fr,r (bJ tk X (o.get ps)) (fk X.1),L (bJ tk X (o.get ps)) (fk X.1),La (bJ tk X (o.get ps)) (fk X.1))
noncomputable def z2:SV→Nat→Nat:=fun _ _=>0
noncomputable def z3:SV→Nat→Nat→Nat:=fun _ _ _=>0
section
variable {prog:Program}{w:WW}{aa:Heap}{kt:KT}
theorem tX (B:Base w aa kt){lv:Nat}{fr fr':OE}(iY:aO fr fr')(or:List (eV prog w aa))(tk:SV→Nat→Nat)(fk:SV→Nat→Nat→Nat)(ps:LN)(gn k:Nat){bc br:Bool}{S:SX Code Result}
  (e:∀ t x X Fr,JQ (fun o=>nU br o.res) ps gn k (cI prog w aa kt lv fr 9999 or (bV bc t S.c) (rt S.rs x++S.ra++Fr) X)=JR 1 tk fk ps X Fr S.r S.L S.La (cI prog w aa kt lv fr 9999 or (bV bc t S.c) (rt S.rs x++S.ra++Fr) X):=by intro t x X Fr;revert b1 b2;exact dI (by kernel_rfl)):TX prog w aa (lv+1) fr' bc br S:=
 qh B iY 9999 or tk fk ps gn k e
theorem gJ (B:Base w aa kt){lv:Nat}{fr fr':OE}(iY:aO fr fr')(or:List (eV prog w aa))(tk:SV→Nat→Nat)(fk:SV→Nat→Nat→Nat)(ps:LN)(gn k:Nat){br:Bool}{S:SX (Sem Fin) Result}(hr:∀ b f e,S.r b f≠.error e)
  (e:∀ x X Fr,JQ (fun o=>nU br o.res) ps gn k (dx prog w aa kt lv fr 9999 or S.c (rt S.rs x++S.ra++Fr) X)=JR 1 tk fk ps X Fr S.r S.L S.La (dx prog w aa kt lv fr 9999 or S.c (rt S.rs x++S.ra++Fr) X)):hH prog w aa (lv+1) fr' br S:=
 o3 B iY 9999 or tk fk ps gn k hr e
theorem eO (B:Base w aa kt){lv:Nat}(or:List (eV prog w aa))(tk:SV→Nat→Nat)(fk:SV→Nat→Nat→Nat)(ps:LN)(gn k:Nat){bc:Bool}{S:SX Code Code}
  (e:∀ t x X Fr,JQ Out.code ps gn k (cI prog w aa kt lv none 9999 or (bV bc t S.c) (rt S.rs x++S.ra++Fr) X)=JR 5 tk fk ps X Fr S.r S.L S.La (cI prog w aa kt lv none 9999 or (bV bc t S.c) (rt S.rs x++S.ra++Fr) X):=by intro t x X Fr;revert b1 b2;exact dI (by kernel_rfl)):EY prog w aa (lv+1) bc S:=
 fun _ _ hl Y _ hP=>tN B .none hl 9999 or tk fk ps gn k e Y hP
abbrev tO (lv:Nat)(bc br:Bool)(k:Nat)(fr:Option (Code→Ow→List Env))(S:Code→Ow→SX Code Result)(h:∀ c rs,TX prog w aa lv (fr.map fun f=>f c rs) bc br (S c rs)):Ent prog w aa:=
 dk lv bc br k fr (fun c rs=>(S c rs).c) (fun c rs=>(S c rs).rs) (fun c rs=>(S c rs).ra) (fun c rs=>(S c rs).r) (fun c rs=>(S c rs).L) (fun c rs=>(S c rs).La) h
end
def B9 (a:N2):SX Code Result:=sC (.call (.type "str") ⟨[.int 0 0],[]⟩) [] [] (fun b f=> .ok (.ret (.str (S [48]) 0)))
abbrev BB (w:World)(aa:Heap)(b1 b2:Bool):Prop:=Base (wd w b1 b2) aa (dF (wd w b1 b2))
abbrev eP (w:World)(aa:Heap)(b1 b2:Bool):=TX pw (wd w b1 b2) aa
section
variable (b1 b2:Bool){w:WW}{aa:Heap}(B:BB w aa b1 b2)
include B
theorem Gz (a:N2){frx:OE}:eP w aa b1 b2 1 frx false false (B9 a):=
 tX B aO.none (ol 0xbbbbbbbbb []) z2 z3 [] 0 0
def B' (a:N2):SX Code Result:=sC (.call (.type "str") ⟨[.int 1 0],[]⟩) [] [] (fun b f=> .ok (.ret (.str (S [49]) 0)))
theorem GA (a:N2){frx:OE}:eP w aa b1 b2 1 frx false false (B' a):=
 tX B aO.none (ol 0xbbbbbbbbb []) z2 z3 [] 0 0
def Ca (a:N2):SX Code Result:=sC (.call (.type "str") ⟨[.int 2 0],[]⟩) [] [] (fun b f=> .ok (.ret (.str (S [50]) 0)))
theorem GC (a:N2){frx:OE}:eP w aa b1 b2 1 frx false false (Ca a):=
 tX B aO.none (ol 0xbbbbbbbbb []) z2 z3 [] 0 0
def Cb (a:N2):SX Code Result:=sC (.call (.type "str") ⟨[.int 3 0],[]⟩) [] [] (fun b f=> .ok (.ret (.str (S [51]) 0)))
theorem GD (a:N2){frx:OE}:eP w aa b1 b2 1 frx false false (Cb a):=
 tX B aO.none (ol 0xbbbbbbbbb []) z2 z3 [] 0 0
def Cc (a:N2):SX Code Result:=sC (.call (.type "str") ⟨[.int 4 0],[]⟩) [] [] (fun b f=> .ok (.ret (.str (S [52]) 0)))
theorem GF (a:N2){frx:OE}:eP w aa b1 b2 1 frx false false (Cc a):=
 tX B aO.none (ol 0xbbbbbbbbb []) z2 z3 [] 0 0
abbrev EZ (w:World)(aa:Heap)(b1 b2:Bool):=tH pw (wd w b1 b2) aa
theorem JS (d:Nat)(hd:d<5)(a:N2):
  EZ w aa b1 b2 1 false false (.call (.type "str") ⟨[.int d 0],[]⟩) [] [] (fun _=> .ok (.ret (.str (S [d+48]) 0))) (fun _=>[]) (fun _=>[]):=by
 match d,hd with
 |0,_=>exact(Gz b1 b2 B a).g
 |1,_=>exact(GA b1 b2 B a).g
 |2,_=>exact(GC b1 b2 B a).g
 |3,_=>exact(GD b1 b2 B a).g
 |4,_=>exact(GF b1 b2 B a).g
end
abbrev gw (w:World)(aa:Heap)(b1 b2:Bool):=Ent pw (wd w b1 b2) aa
def jt {b1 b2:Bool}{w:WW}{aa:Heap}(B:BB w aa b1 b2)(d:Nat)(hd:d<5):gw w aa b1 b2:=
 fB 1 false false 0 (fun _ _=> .call (.type "str") ⟨[.int d 0],[]⟩) (fun _ _=>[]) (fun _ _=>[]) (fun _ _ _=> .ok (.ret (.str (S [d+48]) 0))) (fun _ _ _=>[]) (fun _ _ _=>[]) fun c rs=>JS b1 b2 B d hd (adr rs)
@[irreducible] def cut (w:WW)(f:Nat)(args:LV)(L:Ow)(or:List (eV pw w {})):Code:=(runC pw w {} (dF w) 0 9999 or (.call (.ref f) ⟨args,[]⟩) L (fun _=>mZ,7000,100)).code
noncomputable def iv (c:Code)(it acc loc fr:Nat):Code:=match c with
 |.compLoop e d _ _ env=> .compLoop e d (.ref it) (.ref acc) {env with locals:=loc,frame:=some fr}
 |c=>c
noncomputable def twice (w:WW):Bool:=w.params.followText "comprehension-iter-twice"
def eH (w:WW):Code:=cut w 889 [.ref 5000,.ref 5001] [(5000,ab [] 0),(5001,ab [] 0)] (match twice w with
 |true=>[.o 0,.o 0,.o 0,.o 0,.i,.b,.o 0,.o 2,.o 2,.i,.o 2,.i,.o 0,.i,.x]
 |false=>[.o 0,.o 0,.o 0,.o 0,.i,.b,.o 0,.o 2,.o 2,.i,.o 2,.i,.o 0,.i,.o 2,.o 2,.i,.o 2,.i,.o 2,.x])
noncomputable def bR (c:Code)(fr:Nat):Code:=match c with
 |.func b env=> .func b {env with locals:=fr,frame:=some fr}
 |c=>c
def kH (c:Code):List Stmt:=match c with
 |.func b _=>b
 |_=>[]
noncomputable def pd (c:Code):Env:=match c with
 |.func _ env=>env
 |_=>default
def v7 (w:WW):Code:=cut w 877 [.ref 5000] [] [.o 0,.o 0,.x]
@[irreducible] def JT (w:WW)(f:Nat)(args:LV)(L:Ow)(or:List (eV pw w {})):Code:=(run (aa:={}) ⟨pw,w.params⟩ (dF w) 0 none 9999 (fun _=>mZ) or .base (.call (.call (.ref f) ⟨args,[]⟩) none false [] leafOf) L 7000 100 []).gc
def fV (w:WW):Code:=JT w 84 [.ref 5000,.ref 185] [] (.g::[.b,.o 0,.o 0,.o 0,.o 0,.b])
def fE (lx:Nat):List (Str×Value):=[(S [105,116,101,114,97,98,108,101],.ref lx),(S [107,101,121],.ref 185)]
def ju (lx se sa:Nat):List (Str×Value):=[(S [105,116,101,114,97,98,108,101],.ref lx),(S [107,101,121],.ref 185),(S [115,101,101,110],.ref se),(S [115,101,101,110,95,97,100,100],.ref sa)]
@[irreducible] def fF (w:WW)(l6 lx:Nat):Out:=run (prog:=pw) (w:=w) (aa:={}) ⟨pw,w.params⟩ (dF w) 0 none 9999 (fun _=>mZ) [.b,.b,.i,.i,.i,.i,.o 0,.o 0,.i,.o 0,.o 0,.i,.o 0,.o 0,.o 1,.o 1,.o 1,.o 0,.i,.o 0,.i,.o 0,.o 0,.o 0,.i,.i,.o 0,.o 2,.o 2,.o 2,.o 2,.o 3,.b,.b,.b,.o 3,.b,.b,.b,.b,.e,.o 0,.o 0,.i,.o 0,.o 4,.b,.b,.b,.y]
 (.seg (bR (fV w) l6) []) (den (bR (fV w) l6)) [(l6,ah (fE lx)),(lx,aX 880 0)] 7000 100 []
def pe (w:WW)(l6 lx:Nat):Code:=(fF w l6 lx).code
def GG (w:WW)(l6 lx:Nat)(p:Pos):List Frame:=[.ret (fF w l6 lx).k none false (fF w l6 lx).hold (bR (fV w) l6) p []]
def pf (lx se sa:Nat)(ek:Option (Str×Str)):List (Str×Value):=match ek with
 |none=>ju lx se sa
 |some e=>[(S [105,116,101,114,97,98,108,101],.ref lx),(S [107,101,121],.ref 185),(S [115,101,101,110],.ref se),(S [115,101,101,110,95,97,100,100],.ref sa),(S [101,108,101,109,101,110,116],.str e.1 0),(S [107],.str e.2 0)]
noncomputable def yH (se:Nat):Obj:=⟨.type "builtin_function_or_method",none,.fields ⟨[.builtin "set.add",.ref se]⟩,#[]⟩
noncomputable def eX:Nat→List Stmt→Option Stmt
 |_,[]=>none
 |0,s::_=>some s
 |n+1,_::l=>eX n l
noncomputable def loopAt (env:Env)(it:Value):LN→List Stmt→Code
 |[],_=>default
 |[i],b=>match eX i b with
  |some (.For t _ b o _)=> .forLoop t it b o env
  |some (.While t b o _)=> .whileLoop t b o env
  |_=>default
 |i::j::p,b=>match eX i b with
  |some (.For _ _ b _ _)=>loopAt env it (j::p) b
  |some (.While _ b _ _)=>loopAt env it (j::p) b
  |some (.If _ b o _)=>match j with
   |0=>loopAt env it p b
   |_=>loopAt env it p o
  |_=>default
def l7 (w:WW):Code:=cut w 889 [.ref 5000,.ref 5001] [] [.o 0,.o 0,.o 0,.o 0,.x]
def kI (w:WW)(fr:Nat):Env:=pd (bR (l7 w) fr)
def bO (w:WW)(ga fr:Nat):Code:=loopAt (kI w fr) (.ref ga) [2] (kH (l7 w))
def ez (ta la lx tl:Nat)(pb:Option (Str×ON)):List (Str×Value):=match pb with
 |none=>[(S [116,105,101,115],.ref ta),(S [108,105,110,101],.ref la),(S [108,101,120,101,114],.ref lx),(S [116,111,108,100],.ref tl)]
 |some p=>match p.2 with
  |none=>[(S [116,105,101,115],.ref ta),(S [108,105,110,101],.ref la),(S [108,101,120,101,114],.ref lx),(S [116,111,108,100],.ref tl),(S [112,97,116,104],.str p.1 0)]
  |some b=>[(S [116,105,101,115],.ref ta),(S [108,105,110,101],.ref la),(S [108,101,120,101,114],.ref lx),(S [116,111,108,100],.ref tl),(S [112,97,116,104],.str p.1 0),(S [98],.int b 0)]
def ni (w:WW)(it fr:Nat):Code:=loopAt (kI w fr) (.ref it) [2,1] (kH (l7 w))
def Bg (w:WW):Code:=cut w 894 [.ref 5000,.ref 5001] [] [.o 1,.o 1,.o 1,.o 1,.x]
noncomputable def Cd (env:Env)(fr:Nat)(JU:LN):Env:={env with locals:=fr,frame:=some fr,cells:=(env.cells.zip JU).map fun p=>(p.1.1,p.2)}
def bS (w:WW)(fr ce:Nat):Env:=Cd (pd (Bg w)) fr [ce]
noncomputable def subAt:LN→List Stmt→List Stmt
 |[],b=>b
 |i::p,b=>match eX i b with
  |some (.For _ _ b _ _)=>subAt p b
  |some (.While _ b _ _)=>subAt p b
  |some (.If _ b o _)=>match p with
   |0::p=>subAt p b
   |_::p=>subAt p o
   |[]=>b
  |_=>[]
def gg (w:WW):List Stmt:=kH (Bg w)
noncomputable def oneAt (i:Nat)(b:List Stmt):List Stmt:=match eX i b with
 |some s=>[s]
 |none=>[]
def cx (w:WW)(it fr ce:Nat):Code:=loopAt (bS w fr ce) (.ref it) [1] (gg w)
def qi (w:WW)(fr ce:Nat):Code:=loopAt (bS w fr ce) .none [1,3] (gg w)
def aB (ta la wl:Nat)(x:Option (Nat×Option (Nat×ON))):List (Str×Value):=[(S [116,105,101,115],.ref ta),(S [108,105,110,101],.ref la),(S [119,97,121,115],.ref wl)]++
 match x with
 |none=>[]
 |some (r,x)=>(S [114,111,111,116],.int r 0)::match x with
  |none=>[]
  |some (wa,x)=>(S [119,97,121],.ref wa)::match x with
   |none=>[]
   |some nw=>[(S [110,101,119],.ref nw)]
noncomputable def ai (v:OV):Obj:=⟨.type "cell",none,.cell v,#[]⟩
def l8 (w:WW)(b:List Stmt)(env:Env)(L:Ow)(or:List (eV pw w {})):Code:=(run (aa:={}) ⟨pw,w.params⟩ (dF w) 0 none 9999 (fun _=>mZ) or .base (toF (bu b env)) L 7000 100 []).code
noncomputable def atC (c:Code)(it acc loc fr:Nat)(JU:LN):Code:=match c with
 |.compStart e d _ _ env=> .compStart e d (.ref it) (.ref acc) {env with locals:=loc,frame:=some fr,cells:=(env.cells.zip JU).map fun p=>(p.1.1,p.2)}
 |c=>c
noncomputable def cV (c:Code):Code:=match c with
 |.compStart e d it acc env=> .compLoop e d it acc env
 |c=>c
def kJ (w:WW):Code:=l8 w (oneAt 0 (subAt [1] (gg w))) (bS w 5000 5005) [(5000,ah (aB 5002 5001 5003 (some (3,none)))),(5003,ab [] 0)] [.o 0,.o 0,.o 1,.o 1,.i,.o 1,.i,.o 0,.x]
def l9 (w:WW):Code:=l8 w (oneAt 0 (subAt [1,3] (gg w))) (bS w 5000 5005) [(5000,ah (aB 5002 5001 5003 (some (3,none)))),(5003,ab [] 0)] [.o 0,.o 1,.o 1,.i,.o 1,.i,.o 0,.x]
def ma (w:WW):Code:=l8 w (oneAt 1 (subAt [1,3] (gg w))) (bS w 5000 5005) [(5000,ah (aB 5002 5001 5003 (some (3,some (5007,none))))),(5007,ab [.int 0 0] 0),(5002,ab [.ref 6000] 0),(6000,ab [] 0)]
 [.o 0,.o 0,.i,.i,.o 1,.o 1,.o 1,.i,.o 1,.i,.o 1,.o 2,.o 2,.o 2,.i,.o 2,.i,.o 2,.o 3,.o 3,.i,.o 3,.i,.o 0,.x]
def md (w:WW):Code:=l8 w (oneAt 2 (gg w)) (bS w 5000 5005) [(5000,ah (aB 5002 5001 5003 none)),(5003,ab [] 0)] [.o 0,.o 1,.o 1,.i,.o 1,.i,.o 0,.x]
def JV (w:WW)(c:Code)(L:Ow)(or:List (eV pw w {})):Code:=(runC pw w {} (dF w) 0 9999 or c L (fun _=>mZ,7000,100)).code
def qj (w:WW):Code:=JV w (cV (atC (md w) 5000 5001 5002 5004 [])) [(5002,ak []),(5000,aq 5003 0),(5003,ab [.ref 5006] 0),(5006,ab [.int 3 0] 0),(5001,ab [] 0)] [.o 1,.i,.o 1,.i,.o 1,.o 1,.o 2,.o 1,.o 1,.o 0,.o 0,.o 0,.o 3,.o 3,.i,.o 3,.i,.o 0,.x]
noncomputable def cb (o:ON):OV:=match o with
 |none=>none
 |some a=>some (.ref a)
noncomputable def dm (n:Str)(o:ON):List (Str×Value):=match o with
 |none=>[]
 |some d=>[(n,.int d 0)]
noncomputable def cE (n:Str)(o:ON):List (Str×Value):=match o with
 |none=>[]
 |some d=>[(n,.ref d)]
noncomputable def Ce (c:Code):Expr:=match c with
 |.whileLoop t _ _ _=>t
 |_=>default
noncomputable def me (o:Option Stmt):Stmt:=match o with
 |some s=>s
 |none=>default
noncomputable def bj (s:Stmt):Expr:=match s with
 |.If t _ _ _=>t
 |_=>default
noncomputable def sM (s:Stmt):Pos:=match s with
 |.If _ _ _ p=>p
 |_=>default
noncomputable def jv (e:Expr):Expr:=match e with
 |.Compare l _ _ _=>l
 |_=>default
noncomputable def gO (e:Expr):Expr:=match e with
 |.Compare _ _ (r::_) _=>r
 |_=>default
noncomputable def qk (e:Expr):Pos:=match e with
 |.Compare _ _ _ p=>p
 |_=>default
def gP (w:WW):Expr:=Ce (qi w 5000 5005)
def zt (w:WW):List Stmt:=subAt [1,3] (gg w)
def nj (w:WW):Stmt:=me (eX 2 (zt w))
def Bh (w:WW):Code:=cut w 899 [.ref 5000] [] [.o 5,.o 5,.x]
def aK (w:WW)(fr cc ca cv cw ct:Nat):Env:=Cd (pd (Bh w)) fr [cc,ca,cv,cw,ct]
def nk (w:WW):List Stmt:=kH (Bh w)
def aU (w:WW)(i:Nat):Stmt:=me (eX i (nk w))
def cH (w:WW)(p:LN)(it fr cc ca cv cw ct:Nat):Code:=loopAt (aK w fr cc ca cv cw ct) (.ref it) p (nk w)
def gQ:Str:=S [115,99,114,105,112,116]
def GH:Str:=S [108,105,110,101]
def kN:Str:=S [110]
def kA:Str:=S [97]
def kB:Str:=S [98]
def kU:Str:=S [117]
def kW:Str:=S [119]
def iw:Str:=S [114,111,119]
def hJ:Str:=S [116,111,108,100]
def d6:Str:=S [112,97,116,104]
def jw:Str:=S [114,111,111,116,115]
def Bi:Str:=S [108,101,102,116]
def Bj:Str:=S [114,101,115,116]
def GI:Str:=S [100,117,101]
def qm:Str:=S [98,101,110,101,97,116,104]
def bN (sc ll:Nat)(x:Option (Int×Nat×Nat)):List (Str×Value):=[(gQ,.ref sc),(GH,.ref ll)]++
 match x with
 |none=>[]
 |some (n,a,b)=>[(kN,.int n 0),(kA,.int a 0),(kB,.int b 0)]
abbrev wt (w:World):World:=wd w true true
theorem zu (w0:WW):nk (wt w0)=[aU (wt w0) 0,aU (wt w0) 1,aU (wt w0) 2,aU (wt w0) 3,aU (wt w0) 4,aU (wt w0) 5,aU (wt w0) 6,aU (wt w0) 7,aU (wt w0) 8,aU (wt w0) 9,aU (wt w0) 10,aU (wt w0) 11]:=by kernel_rfl
noncomputable def eI (n:Str)(o:Option Str):List (Str×Value):=match o with
 |none=>[]
 |some d=>[(n,.str d 0)]
def ke (sc ll:Nat)(o:Option (Int×Nat×Nat))(tl:Nat)(po:Option Str):List (Str×Value):=bN sc ll o++[(hJ,.ref tl)]++eI d6 po
def jx (sc ll tl:Nat)(pt:Str)(s:Option (Int×Nat×Nat))(na:ON):List (Str×Value):=match s with
 |none=>ke sc ll none tl (some pt)++dm kA na
 |some x=>ke sc ll (some x) tl (some pt)
def eQ (w:WW)(p:LN)(i:Nat):Stmt:=me (eX i (subAt p (nk w)))
def JW (w:WW)(e:Expr)(env:Env)(L:Ow)(or:List (eV pw w {})):Code:=(run (aa:={}) ⟨pw,w.params⟩ (dF w) 0 none 9999 (fun _=>mZ) or .base (PySem.W.R.bindR (PySem.W.ZFast.zw14044960220447912780 e env) fun v=> .pure (.done (.ret v))) L 7000 100 []).code
def mf (w:WW):Env:=aK w 5000 5011 5012 5013 5014 5015
def Cf (x:List (Str×Value)):Nat×Obj:=(5000,ah (ke 900 5001 none 5003 (some (S [48]))++x))
def rK (w:WW):Code:=l8 w [aU w 9] (mf w) [Cf [(kA,.int 4 0)],(5003,ab [.str (S [48]) 0] 0)] [.o 0,.o 1,.o 1,.i,.o 1,.i,.o 0,.x]
abbrev cR (n:Nat):Obj:=ai (some (.ref n))
def rL (w:WW):Code:=l8 w [eQ w [10] 0] (mf w) [Cf [(kA,.int 4 0),(jw,.ref 5005)],(5015,cR 5016),(5013,ai (some (.int 2 0))),(5016,ab [.ref 6000,.ref 6000,.ref 6000,.ref 6000,.ref 6000] 0),(6000,ab [.int 1 0] 0)]
 [.o 1,.o 3,.o 3,.i,.o 3,.i,.o 0,.i,.i,.o 2,.i,.o 2,.i,.o 2,.o 2,.o 6,.o 2,.o 2,.o 0,.o 0,.o 0,.o 7,.o 7,.i,.o 7,.i,.o 0,.x]
def rM (w:WW):Code:=l8 w [eQ w [10] 1] (mf w) [Cf [(kA,.int 4 0),(jw,.ref 5005),(Bi,.ref 5006)],(5013,ai (some (.int 2 0)))]
 [.b,.o 0,.b,.b,.i,.i,.i,.i,.o 0,.o 0,.i,.o 0,.i,.o 0,.o 0,.o 0,.i,.o 0,.i,.o 0,.o 0,.o 0,.o 0,.x]
def rN (w:WW):Code:=l8 w [eQ w [10,4,0,0] 0] (mf w) [Cf [(kA,.int 4 0),(jw,.ref 5005)],(5014,cR 5004),(5011,ai (some (.int 3 0))),(5004,ab [.str (S [48]) 0] 0)]
 [.b,.b,.i,.i,.i,.i,.o 0,.o 0,.i,.o 0,.i,.o 0,.o 0,.o 0,.i,.o 0,.i,.o 0,.o 0,.o 0,.o 0,.x]
def GJ (w:WW):Expr:=jv (bj (eQ w [10,4,0,0] 1))
def hY (w:WW):Code:=JW w (GJ w) (mf w) [Cf [(kA,.int 4 0),(jw,.ref 5005),(qm,.ref 5009)],(5015,cR 5016),(5012,cR 5008),(5009,ab [.int 0 0] 0)] [.o 0,.o 3,.o 3,.i,.o 3,.i,.o 0,.x]
def rO (w:WW):Code:=l8 w [eQ w [10] 5] (mf w) [Cf [(kA,.int 4 0),(jw,.ref 5005),(Bj,.ref 5007),(GI,.int 1 0)],(5007,ab [.str (S [48]) 0] 0)] [.b,.b,.o 0,.o 1,.o 1,.i,.o 1,.i,.o 0,.x]
noncomputable def Cg (c:Code):Code:=match c with
 |.compStart e _ it acc env=> .compStart e 1 it acc env
 |c=>c
def uw (u:Nat)(ow:ON):List (Str×Value):=[(kU,.int u 0)]++dm kW ow
def rP (w:WW):Code:=l8 w [eQ w [10] 0] (mf w) [Cf [(kA,.int 4 0),(jw,.ref 5005)],(5015,cR 5016),(5013,ai (some (.int 2 0))),(5016,ab [.ref 6000,.ref 6000,.ref 6000,.ref 6000,.ref 6000] 0),(6000,ab [.int 1 0] 0)]
 [.o 1,.o 3,.o 3,.i,.o 3,.i,.o 0,.x]
section
variable {prog:Program}{w:WW}{aa:Heap}{kt:KT}
def JX (prog:Program)(w:WW)(aa:Heap)(lv:Nat)(bc br:Bool)(c0:Code)(cA ra:Ow)(r0:(N2)→Result)(L0:(N2)→Ow)(ey:(N2)→(Nat→Nat→Nat)→Ow):Prop:=
 ∀ t x,d3 prog w aa lv (bV bc t c0) (rt cA x++ra) (fun r L=>∃ b f L1,L=L1++ey b f∧nU br r=r0 b∧nL L1=L0 b)
def Ci (lv:Nat)(bc br:Bool)(k:Nat)(c0:Code→Ow→Code)(cA ra:Code→Ow→Ow)(r0:Code→Ow→(N2)→Result)(L0:Code→Ow→(N2)→Ow)(ey:Code→Ow→(N2)→(Nat→Nat→Nat)→Ow)
  (h:∀ c rs,JX prog w aa lv bc br (c0 c rs) (cA c rs) (ra c rs) (r0 c rs) (L0 c rs) (ey c rs)):Ent prog w aa where
 lv:=lv
 f:=fun c rs u=>⟨lV br (u.n 0) (r0 c rs fun i=>u.n (Nat.succ i)),rt (L0 c rs fun i=>u.n (Nat.succ i)) u.t++ey c rs (fun i=>u.n (Nat.succ i)) u.f⟩
 I:=fun _ _ _=>True
 vf:=fun c rs=>[.eq (.c (yF bc c)) (.c (c0 c rs)),.eq (.w (nL (aT k rs))) (.w (cA c rs)),.eq (.w (aR k rs)) (.w (ra c rs))]
 quiet:=fun c rs m hm=>by
  rcases ba.mp hm with rfl|hm
  ·trivial
  ·rcases ba.mp hm with rfl|hm
   ·trivial
   ·rcases ba.mp hm with rfl|hm
    ·trivial
    ·nomatch hm
 ok:=fun c rs hf _=>by
  have h1:yF bc c=c0 c rs:=by
   have z:TV.c (yF bc c)=TV.c (c0 c rs):=hf _ (.head _);injection z
  have h2:nL (aT k rs)=cA c rs:=by
   have z:TV.w (nL (aT k rs))=TV.w (cA c rs):=hf _ (.tail _ (.head _));injection z
  have h3:aR k rs=ra c rs:=by
   have z:TV.w (aR k rs)=TV.w (ra c rs):=hf _ (.tail _ (.tail _ (.head _)));injection z
  obtain⟨t,ht⟩:=oR bc c;obtain⟨x,hx⟩:=il (aT k rs);have hT:=h c rs t x;rw[←h1,←h2,←h3,←ht] at hT;intro A R Fr hh g d os tok size hA _ hD kk;have gZ:Rp aa hh (rt (nL (aT k rs)) x++aR k rs++Fr) size:=by
   rw[←take_drop k rs] at hD;exact hD.same hx.1.append.append
  refine hT A R Fr hh g d os tok size hA gZ fun r L h' g' aN aC hP G D'=>?_;obtain⟨b,f,L1,rfl,hb,hL⟩:=hP;obtain⟨t',tD⟩:=lA br r;obtain⟨x',jJ⟩:=il L1;refine kk r (rt (nL L1) x'++ey c rs b f) h' g' aN aC ⟨⟨fun i=>match i with|0=>t'|i+1=>b i,x',fun _=>[],f,fun _=>default⟩,trivial,?_⟩ G (D'.same jJ.1.append.append);show(⟨lV br t' (r0 c rs b),rt (L0 c rs b) x'++ey c rs b f⟩:BN)=⟨r,rt (nL L1) x'++ey c rs b f⟩;rw[←hb,←hL,←tD]
end
noncomputable def nr:List Str→(NT)→List (Str×Tok)
 |[],_=>[]
 |s::l,τ=>(s,τ 0)::nr l fun i=>τ (i+1)
def ag (l:List Str)(τ:NT):LV:=strValues (nr l τ)
noncomputable def af:LN→(NT)→List Value
 |[],_=>[]
 |d::l,τ=> .int d (τ 0)::af l fun i=>τ (i+1)
theorem mh (l:List Str)(τ:NT):(nr l τ).map (·.1)=l:=by
 induction l generalizing τ with
 |nil=>rfl
 |cons s l ih=>show s::_=_;rw[ih]
theorem qo (l:List Str)(τ:NT):(nr l τ).length=l.length:=by
 rw[←bU (f:=(·.1)),mh]
theorem aI (l:List Str)(τ:NT):(ag l τ).length=l.length:=by
 unfold ag strValues;rw[bU,qo]
theorem bf (l:LN)(τ:NT):(af l τ).length=l.length:=by
 induction l generalizing τ with
 |nil=>rfl
 |cons s l ih=>show(af l _).length+1=_;rw[ih];rfl
noncomputable def bW (n:Nat)(τ:NT)(t:Tok):NT:=fun i=>if i=n then t else τ i
theorem kK:∀ (l:List Str)(τ bG:NT),(∀ i,i<l.length→τ i=bG i)→ag l τ=ag l bG
 |[],_,_,_=>rfl
 |s::l,τ,bG,h=>by
  show Value.str s (τ 0)::ag l _=Value.str s (bG 0)::ag l _;rw[h 0 (by simp),kK l _ _ fun i hi=>h (i+1) (by simpa using hi)]
theorem n0:∀ (l m:List Str)(τ:NT),ag (l++m) τ=ag l τ++ag m fun i=>τ (i+l.length)
 |[],m,τ=>rfl
 |s::l,m,τ=>by
  show Value.str s (τ 0)::ag (l++m) _=Value.str s (τ 0)::(ag l _++ag m _);rw[n0 l m];rfl
theorem dJ (l:List Str)(τ:NT)(s:Str)(t:Tok):ag l τ++[.str s t]=ag (l++[s]) (bW l.length τ t):=by
 rw[n0,kK l (bW l.length τ t) τ fun i hi=>by unfold bW;rw[if_neg (by omega)]];show _=_++[Value.str s (bW l.length τ t (0+l.length))];unfold bW;rw[if_pos (by omega)]
theorem iZ:∀ (l m:LN)(τ:NT),af (l++m) τ=af l τ++af m fun i=>τ (i+l.length)
 |[],m,τ=>rfl
 |s::l,m,τ=>by
  show Value.int s (τ 0)::af (l++m) _=Value.int s (τ 0)::(af l _++af m _);rw[iZ l m];rfl
theorem fW:∀ (l:LN)(τ bG:NT),(∀ i,i<l.length→τ i=bG i)→af l τ=af l bG
 |[],_,_,_=>rfl
 |s::l,τ,bG,h=>by
  show Value.int s (τ 0)::af l _=Value.int s (bG 0)::af l _;rw[h 0 (by simp),fW l _ _ fun i hi=>h (i+1) (by simpa using hi)]
theorem cn (l:LN)(τ:NT)(s:Nat)(t:Tok):af l τ++[.int s t]=af (l++[s]) (bW l.length τ t):=by
 rw[iZ,fW l (bW l.length τ t) τ fun i hi=>by unfold bW;rw[if_neg (by omega)]];show _=_++[Value.int s (bW l.length τ t (0+l.length))];unfold bW;rw[if_pos (by omega)]
theorem cf:∀ (l:LN)(τ:NT)(i d:Nat),l[i]?=some d→(af l τ)[i]?=some (.int d (τ i))
 |[],_,_,_,h=>by cases h
 |e::l,τ,0,d,h=>by cases h;rfl
 |e::l,τ,i+1,d,h=>cf l (fun j=>τ (j+1)) i d h
theorem cF (l:LN)(τ:NT)(i:Nat)(h:l[i]?=none):(af l τ)[i]?=none:=by
 rw[List.getElem?_eq_none_iff] at h ⊢;rw[bf];exact h
theorem eA:∀ (l:List Str)(τ:NT)(i:Nat)(d:Str),l[i]?=some d→(ag l τ)[i]?=some (.str d (τ i))
 |[],_,_,_,h=>by cases h
 |e::l,τ,0,d,h=>by cases h;rfl
 |e::l,τ,i+1,d,h=>eA l (fun j=>τ (j+1)) i d h
theorem fG (l:List Str)(τ:NT)(i:Nat)(h:l[i]?=none):(ag l τ)[i]?=none:=by
 rw[List.getElem?_eq_none_iff] at h ⊢;rw[aI];exact h
noncomputable def aV (c:Nat):LN→List Nat
 |[]=>[]
 |[d]=>[d+48]
 |d::e::l=>(d+48)::c::aV c (e::l)
def ao (d:Nat):Str:=S [d+48]
def aj (c:Nat)(l:LN):Str:=S (aV c l)
theorem kL (c:Nat):∀ (l:LN)(acc:LN),((l.map ao).foldl (fun acc p=>acc++(S [c]).cps++p.cps) (⟨acc⟩:Array Nat))=(⟨acc++(l.flatMap fun d=>[c,d+48])⟩:Array Nat)
 |[],acc=>by simp
 |d::l,acc=>by
  show((l.map ao).foldl _ ((⟨acc⟩:Array Nat)++(S [c]).cps++(ao d).cps))=_;have:((⟨acc⟩:Array Nat)++(S [c]).cps++(ao d).cps)=(⟨acc++[c,d+48]⟩:Array Nat):=by
   simp[S,ao]
  rw[this,kL c l];simp
theorem eB (c d:Nat):∀ l,aV c (d::l)=(d+48)::(l.flatMap fun d=>[c,d+48])
 |[]=>rfl
 |e::l=>by
  show(d+48)::c::aV c (e::l)=_;rw[eB c e l];rfl
theorem kM (c:Nat)(l:LN):Builtin.Str.glued (S [c]) (l.map ao)=aj c l:=by
 cases l with
 |nil=>rfl
 |cons d l=>
  show(⟨(l.map ao).foldl _ (ao d).cps⟩:Str)=_;have:(ao d).cps=(⟨[d+48]⟩:Array Nat):=rfl;rw[this,kL];show(⟨⟨(d+48)::_⟩⟩:Str)=⟨⟨aV c (d::l)⟩⟩;rw[eB];rfl
theorem pg (c:Nat):∀ l,(aV c l).length≤2*l.length
 |[]=>Nat.le_refl _
 |d::l=>by
  rw[eB];have:(l.flatMap fun d=>[c,d+48]).length=2*l.length:=by
   induction l with
   |nil=>rfl
   |cons e l ih=>simp only[List.flatMap_cons,List.length_append,dS,List.length_nil,ih];omega
  simp only[dS,this];omega
theorem fi (c:Nat)(l:LN):(aj c l).length≤2*l.length:=pg c l
section
variable {prog:Program}{w:WW}{aa:Heap}
theorem v8 (c:Nat)(l:LN)(hl:l.length≤100):Builtin.Str.tooLong ((l.map ao).toArray.foldl (·+·.length+(S [c]).length) 0)=false:=by
 have:∀ (l:LN)(n:Nat),(l.map ao).foldl (fun(a:Nat) (b:Str)=>a+b.length+(S [c]).length) n=n+2*l.length:=by
  intro l
  induction l with
  |nil=>intro n;rfl
  |cons d l ih=>
   intro n;show(l.map ao).foldl _ (n+(ao d).length+(S [c]).length)=_;rw[ih];show n+1+1+2*l.length=n+2*(l.length+1);omega
 rw[List.foldl_toArray',this]
 ·unfold Builtin.Str.tooLong sizeLine
  exact decide_eq_false (by omega)
 ·simp
theorem Cj (c:Nat)(l:LN)(hl:l.length≤100)(t:Tok)(a:Nat)(τ:NT)(e:Nat):
  d3 prog w aa 0 (.call (.builtin "str.join") ⟨[.str (S [c]) t,.ref a],[]⟩) [(a,ab (ag (l.map ao) τ) e)] (fun r L=>nR r=.ok (.ret (.str (aj c l) 0))∧L=[(a,ab (ag (l.map ao) τ) e)]):=by
 have hm:Made.Bd (joinMade (S [c]) (nr (l.map ao) τ))∧Made.nv (joinMade (S [c]) (nr (l.map ao) τ))=.str (aj c l) 0:=by
  match l,hl with
  |[],_=>exact⟨by show(0:Nat)≤_;exact bZ _,rfl⟩
  |[d],_=>exact⟨trivial,rfl⟩
  |d::e::l,hl=>
   have h1:joinMade (S [c]) (nr ((d::e::l).map ao) τ)=.str (Builtin.Str.glued (S [c]) ((d::e::l).map ao)):=by
    show Made.str (Builtin.Str.glued (S [c]) ((nr ((d::e::l).map ao) τ).map (·.1)))=_;rw[mh]
   rw[h1,kM];refine⟨?_,rfl⟩;have:=fi c (d::e::l);show _≤sizeLine;unfold sizeLine;omega
 refine(gA (T:="str") (self:=.str (S [c]) t) (rest:=[.ref a]) (m:=joinMade (S [c]) (nr (l.map ao) τ)) F.slot_str_join (fun s _ _ _=>typeIs_str s _ t) F.entry_str_join (F.args_str_join_2 _ _) (meets_str_join_list (S [c]) t a (nr (l.map ao) τ) ?_) ?_ hm.1).mono lr fun r L hP=>?_
 ·rw[mh];exact v8 c l hl
 ·intro A R h size Fr s hs D hp
  subst hs;exact⟨⟨_,D.get (.head _) (fun _=>rfl),rfl,e,rfl⟩,hp⟩
 ·obtain⟨⟨v,rfl,hv⟩,rfl⟩:=hP
  refine⟨?_,rfl⟩;rw[hm.2] at hv;simp only[nR,hv]
def hM (c:Nat)(l:LN)(hl:l.length≤100)(τ:NT):Ent prog w aa:=fB 0 true false 0 (fun c' rs=> .call (.builtin "str.join") ⟨[.str (S [c]) (cD (gB c' 0)),.ref (adr rs 0)],[]⟩) (fun _ _=>[]) (fun _ rs=>[(adr rs 0,ab (ag (l.map ao) τ) (aH rs 0))])
 (fun _ _ _=> .ok (.ret (.str (aj c l) 0))) (fun _ _ _=>[]) (fun _ rs _=>[(adr rs 0,ab (ag (l.map ao) τ) (aH rs 0))]) fun c' rs=>fU (Cj c l hl _ _ τ _)
end
def v9 (X:Str)(p:Nat)(a:N2):SX Code Result:=sC (.call (.ref 691) ⟨[.ref (a 0),.int 1 0],[]⟩) [(a 0,aX 745 (a 1)),(a 1,ak (b5 X p))] [] (fun b f=> .ok (.ret (.str (S []) 0)))
section
variable (b1 b2:Bool){w:WW}{aa:Heap}(B:BB w aa b1 b2)
include B
theorem GK (X:Str)(p:Nat)(hn:X.length=p)(hX:p<2^60)(a:N2){frx:OE}:eP w aa b1 b2 1 frx false false (v9 X p a):=by
 have BO:decide ((p:Int)≥(p:Int))=true:=cT (by omega);exact tX B aO.none (ol 0xa1111b1a1ac1111baa1bbaaaa1bbbbbb111bb1bbbb12223aaaaaaa3aaaaaaa3aaaa34ac11b14aaaaaaab4aaaaaaa44a534aaaaaaab4aaaaaaa44a533aa34aaaaaaab4aaaaaaa44a5 (.u [] (BW X p hn hX)::(ol 0x3333 (.u [] (JK p p true BO)::[])))) z2 z3 [3,3] 3 2
def sN {b1 b2:Bool}{w:WW}{aa:Heap}(B:BB w aa b1 b2)(X:Str)(p:Nat)(hn:X.length=p)(hX:p<2^60):gw w aa b1 b2:=tO 1 false false 2 none (fun cc rr=>v9 X p (adr rr)) fun cc rr=>GK b1 b2 B X p hn hX (adr rr)
def lD (ww:WW)(lx:Nat)(a:N2):SX Code Code:=sA (.call (.ref 877) ⟨[.ref lx],[]⟩) [] [] (fun b f=>bR (v7 ww) (b 0)) (fun b f=>[(b 0,ah [(S [115,101,108,102],.ref lx)])])
abbrev eR (w:World)(aa:Heap)(b1 b2:Bool):=EY pw (wd w b1 b2) aa
theorem Ck (lx:Nat)(a:N2):eR w aa b1 b2 2 true (lD (wd w b1 b2) lx a):=
 eO B (ol 0x11d []) z2 z3 [0] 0 1
end
def gS (a:N2)(X:Str)(p:Nat)(sb:Bool):Ow:=[(a 0,aX 880 (a 1)),(a 1,ak (cM (a 2) (a 5) (a 4) (lT sb) (sV []))),(a 2,aX 745 (a 3)),(a 3,ak (b5 X p)),(a 4,bK 0 [])]
abbrev qp (w:WW)(fr:Nat):Code:=bR (v7 w) fr
noncomputable def ND (r:Result):ON:=match r with
 |.error e=>match e with
  |.ref ea=>some ea
  |_=>none
 |_=>none
def v' (r:Result)(L:Ow):ON×Ow×Ow×Ow:=(ND r,aT 1 L,nL (aT 6 (aR 1 L)),aR 7 L)
theorem rQ {o:Obj}{cls:Value}{yX:List (Str×Value)}(h:nO o=dO cls yX):∃ es n,o.data=.dict es n:=by
 obtain⟨c,d,dt,s⟩:=o;cases dt<;>first|exact⟨_,_,rfl⟩|(injection h with _ _ h _;cases h)
theorem zv {L:Ow}{a:Nat}{o:Obj}{M:Ow}(h:nL L=(a,o)::M):∃ o' L',L=(a,o')::L'∧nO o'=o∧nL L'=M:=by
 cases L with
 |nil=>cases h
 |cons p L=>
  have h':(p.1,nO p.2)::nL L=(a,o)::M:=h;simp only[List.cons.injEq,Prod.mk.injEq] at h';exact⟨p.2,L,by rw[←h'.1.1],h'.1.2,h'.2⟩
theorem qc.mono {l:List Env}{L L':Ow}(h:qc l L)(s:∀ p∈L,p∈L'):qc l L':=fun env he=>
 let⟨h1,a,o,h2,h3,h4⟩:=h env he
 ⟨h1,a,o,h2,s _ h3,h4⟩
theorem wb (b1 b2:Bool)(w:WW)(fr:Nat):(pd (qp (wd w b1 b2) fr)).frame=some fr:=by
 revert b1 b2;exact fb (by kernel_rfl)
theorem tP (b1 b2:Bool)(w:WW)(fr:Nat):(pd (qp (wd w b1 b2) fr)).scope.kind=.function:=by
 revert b1 b2;exact fb (by kernel_rfl)
theorem zw (b1 b2:Bool)(w:WW)(fr:Nat):qp (wd w b1 b2) fr=.func (kH (qp (wd w b1 b2) fr)) (pd (qp (wd w b1 b2) fr)):=by
 revert b1 b2;exact fb (by kernel_rfl)
theorem qt (b1 b2:Bool)(w:WW)(fr:Nat):cp (.func (kH (qp (wd w b1 b2) fr)) (pd (qp (wd w b1 b2) fr)))=1:=by
 revert b1 b2;exact fb (by kernel_rfl)
section
variable (b1 b2:Bool){w:WW}{aa:Heap}(B:BB w aa b1 b2)
include B
abbrev gh (w:World)(aa:Heap)(b1 b2:Bool):=aJ pw (wd w b1 b2) aa
theorem Cm (X:Str)(p:Nat)(k:Int)(t2:Tok)(hn:X.length=p)(hX:p<2^60)(a:N2)(fr:Nat)(x:Nat→Tk){outer:List Env}{Xs:Ow}(nY:qc outer Xs):
  gh w aa b1 b2 3 (some outer) (qp (wd w b1 b2) fr) (rt ((fr,ah [(S [115,101,108,102],.ref (a 0))])::gS a X p false) x++[(a 5,cq k t2 [])]++Xs) (fun r L=>
   ∃ ea dd vs sl L1 fo,r=.error (.ref ea)∧L=(ea,lY "StopIteration" dd vs sl)::(((fr,fo)::L1++[(a 5,cq k t2 [])])++Xs)∧nL L1=gS a X p false):=by
 rw[zw];refine rH B (lv:=1) 9999 (ol 0x12aaa2aaa2aaaa23ac11b13aaab3aaa33a488b8b8b813aaa3aaa3aaaa34ac11b1111b14aaab4aaaaaaaababac11b15aaab5aaa55a6bbb25aaab5aaa55a67aaaaaaa7aaaaaaa7aaaa78a (.u [6,6] (sN B X p hn hX)::(ol 0x444bb47aaab7aaa77a8bb47aaab7aaa77a847aaab7ab7a7aaa7a88847aaab7aaa77a84447aaab7ab7a7aaa7a88847aaab7aaa77a844bb4447aaab7aaa77a8bb45557aaab7aaa77a8b557aaab7aaa77a8bb57aaab7aaa77a899b9b9b957aaab7aaa77a866667aaab7aaa77a8bbaabbb (.u [] (zo)::(ol 0x11b11bb2222222222bbb2 []))))) [1,6,6,6,1,1,4,4] 4 v' (fun x L=>(some (adr L 0),[(adr L 0,cZ (gD (bx L 0 0)))],(fr,ah [(S [115,101,108,102],.ref (a 0)),(S [116,111,107,101,110],.none)])::gS a X p false,[(a 5,cq k t2 [])])) ?_ ?_ ?_
 ·rw[←dH,qt];decide
 ·intro X' Fr;revert b1 b2;exact dI (by kernel_rfl)
 ·intro X' r L' h
  simp only[v',Prod.mk.injEq] at h;obtain⟨h1,h2,h3,h4⟩:=h;cases L' with
  |nil=>cases h4
  |cons q L1=>
   have rI:[q]=[(q.1,cZ (gD (bx (q::L1) 0 0)))]:=h2;have hq:q=(q.1,cZ (gD (bx (q::L1) 0 0))):=by injection rI
   obtain⟨fo,L2,e1,e2,e3⟩:=zv (show nL (aT 6 L1)=_ from h3);have GN:aR 6 L1=[(a 5,cq k t2 [])]:=h4;have e4:=take_drop 6 L1;have hr:r=.error (.ref q.1):=by
    cases r with
    |ok f=>cases h1
    |error e=>
     cases e<;>first|(have zk:some _=some q.1:=h1;injection zk with zk;rw[zk])|cases h1
   obtain⟨es,n,hd⟩:=rQ e2;refine⟨q.1,"StopIteration",⟨[.ref (gD (bx (q::L1) 0 0)),.none,.none,.none,.bool false,.none]⟩,.ref (gD (bx (q::L1) 0 0)),L1,hr,?_,rfl,rfl,?_,fun dd yG sl=>⟨q.1,dd,yG,sl,L2,fo,rfl,?_,e3⟩⟩
   ·rw[hq];rfl
   ·intro env he
    rcases ba.mp he with rfl|he
    ·refine⟨by rw[tP];decide,fr,fo,wb _ _ _ _,?_,es,n,hd⟩
     rw[←e4,e1];exact List.mem_append_left _ (List.mem_append_left _ (.head _))
    ·exact(nY.mono fun p hp=>List.mem_append_right _ hp) env he
   ·rw[←e4,e1,GN]
theorem GO (X:Str)(p:Nat)(k:Int)(t2:Tok)(hn:X.length=p)(hX:p<2^60)(a:N2)(x:Nat→Tk){outer:List Env}{Xs:Ow}(nY:qc outer Xs):
  gh w aa b1 b2 3 (some outer) (.call (.ref 877) ⟨[.ref (a 0)],[]⟩) (rt (gS a X p false) x++[(a 5,cq k t2 [])]++Xs) (fun r L=>
   ∃ ea dd vs sl L1,r=.error (.ref ea)∧L=(ea,lY "StopIteration" dd vs sl)::(L1++[(a 5,cq k t2 [])]++Xs)∧nL L1=gS a X p false):=by
 have z:=(Ck b1 b2 B (a 0) a).y (frx:=some outer) (lvx:=3) (by decide) (rt (gS a X p false) x++[(a 5,cq k t2 [])]++Xs) (P:=fun r L=>
   ∃ ea dd vs sl L1,r=.error (.ref ea)∧L=(ea,lY "StopIteration" dd vs sl)::(L1++[(a 5,cq k t2 [])]++Xs)∧nL L1=gS a X p false) (fun b f x'=>?_) (fun _=>0) (fun _=>⟨fun _=>0,fun _=>0,fun _=>0,0⟩)
 ·exact z
 ·have y:=Cm b1 b2 B X p k t2 hn hX a (b 0) (fun i=>match i with|0=>x' 0|i+1=>x i) nY
  have y2:gh w aa b1 b2 3 (some outer) ((lD (wd w b1 b2) (a 0) a).r b f) (rt ((lD (wd w b1 b2) (a 0) a).L b f) x'++(lD (wd w b1 b2) (a 0) a).La b f++(rt (gS a X p false) x++[(a 5,cq k t2 [])]++Xs)) _:=y;intro A R Fr h g d os tok size hA hf hD kk;refine y2 A R Fr h g d os tok size hA hf hD fun r L h' g' aN aC hP G D'=>?_;obtain⟨ea,dd,vs,sl,L1,fo,rfl,rfl,hL⟩:=hP;exact kk _ ((ea,lY "StopIteration" dd vs sl)::(L1++[(a 5,cq k t2 [])]++Xs)) h' g' aN aC ⟨ea,dd,vs,sl,L1,rfl,rfl,hL⟩ G (D'.sub (((List.sublist_cons_self _ _).cons_cons _).append (List.Sublist.refl _)))
def wc (X:Str)(p c:Nat)(a:N2):SX Code Result:=sA (.call (.ref 691) ⟨[.ref (a 0),.int 1 0],[]⟩) [(a 0,aX 745 (a 1)),(a 1,ak (b5 X p))] [] (fun b f=> .ok (.ret (.str (S [c]) 0))) (fun b f=>[(a 0,aX 745 (a 1)),(a 1,ak (b5 X ((p+1:Nat):Int)))])
theorem GP (X:Str)(p c:Nat)(hc:X.cps[p]?=some c) (n:Nat) (hn:X.length=n) (hX:n<2^60) (hp:p+1<n) (a:N2) {frx:OE}:eP w aa b1 b2 1 frx false false (wc X p c a):=by
 have BO:decide ((p:Int)≥(n:Int))=false:=decide_eq_false (by omega);have gM:decide (((p+1:Nat):Int)<(n:Int))=true:=cT (by omega);exact tX B aO.none (ol 0xa1111b1a1ac1111baa1bbaaaa1bbbbbb111bb1bbbb12223aaaaaaa3aaaaaaa3aaaa34ac11b14aaaaaaab4aaaaaaa44a534aaaaaaab4aaaaaaa44a533aa34aaaaaaab4aaaaaaa44a5 (.u [] (BW X n hn hX)::(ol 0x3333 (.u [] (JK p n false BO)::(ol 0x3bb33 (.u [] (m9 p 1 (p+1:Nat) rfl)::(ol 0x3 (.u [] (I3 (p+1:Nat) n true gM)::(ol 0x33 (.u [] (m9 p 1 (p+1:Nat) rfl)::(ol 0x33334aaaaaaab4ab4a4aaaaaaa4a55534aaaaaaab4aaaaaaa44a533 (.u [0] (MH X p c hc)::(ol 0xbbbbbb1111 []))))))))))))) z2 z3 [5,5] 5 2
def sO {b1 b2:Bool}{w:WW}{aa:Heap}(B:BB w aa b1 b2)(X:Str)(p c:Nat)(hc:X.cps[p]?=some c) (n:Nat) (hn:X.length=n) (hX:n<2^60) (hp:p+1<n):gw w aa b1 b2:=tO 1 false false 2 none (fun cc rr=>wc X p c (adr rr)) fun cc rr=>GP b1 b2 B X p c hc n hn hX hp (adr rr)
def Cn (X:Str)(p e:Nat)(k:Int)(t2:Tok)(a:N2):SX Code Result:=sA (.call (.ref 877) ⟨[.ref (a 0)],[]⟩) [(a 0,aX 880 (a 1)),(a 1,ak (cM (a 2) (a 5) (a 4) (sV [32]) (sV []))),(a 2,aX 745 (a 3)),(a 3,ak (b5 X (p:Nat))),(a 4,bK 0 [])] [(a 5,cq k t2 [])] (fun b f=> .ok (.ret (.str (S [e+48]) 0))) (fun b f=>[(a 0,aX 880 (a 1)),(a 1,ak (cM (a 2) (a 5) (a 4) (sV [32]) (sV []))),(a 2,aX 745 (a 3)),(a 3,ak (b5 X (p+1+1:Nat))),(a 4,bK 0 [])])
theorem nextM (X:Str)(p e:Nat)(k:Int)(t2:Tok)(hc:X.cps[p]?=some (e+48)) (hs:X.cps[p+1]?=some 32) (n:Nat) (hn:X.length=n) (hX:n<2^60) (hp:p+1<n) (e9:p+1+1<n) (he:e<5) (a:N2) {frx:OE}:eP w aa b1 b2 2 frx false false (Cn X p e k t2 a):=by
 have Co:(!(Builtin.Str.occurrences (S [92]) (S [e+48]) 0 (S [92]).length 1).isEmpty)=false:=sG e he;have JY:(!(Builtin.Str.occurrences i7 (S [e+48]) 0 i7.length 1).isEmpty)=true:=qa e he;exact tX B aO.none (ol 0x11b12aaa2aaa2aaaa23ac11b13aaab3aaa33a488b8b8b813aaa3aaa3aaaa34ac11b1111b14aaab4aaaaaaaababac11b15aaab5aaa55a6bbb25aaab5aaa55a67aaaaaaa7aaaaaaa7aaaa78a (.u [6,6] (sO B X p (e+48) hc n hn hX hp)::(ol 0x444bb47aaab7aaa77a8bb47aaab7aaa77a847aaab7aaa77a8bb4bbb447aaab7aaa77a8bb447aaab7aaa77a8bb47aaab7aaa77a8447aaab7aaa77a8 (.u [] (vg (S [92]) (S [e+48]) false Co)::(ol 0x447aaab7aaa77a8 (.u [] (vg i7 (S [e+48]) true JY)::(ol 0x447aaab7ab7a7aaa7a88847aaab7ab7a7aaa7a888b47aaab7aaaaaaaababac11b18aaab8aaa88a9bbb58aaab8aaa88a92aaaaaaa2aaaaaaa2aaaa23a (.u [1,1] (sO B X (p+1) 32 hs n hn hX e9)::(ol 0x555bb58aaab8aaa88a9bb58aaab8aaa88a958aaab8aaa88a9bb58aaab8aaa88a958aaab8aaa88a9bb58aaab8aaa88a958aaab8aaa88a9bb58aaab8aaa88a911 (.u [0] (rC [sV [97],sV [99]] (sV [97]) true (by decide+kernel) (by decide+kernel))::(ol 0x6bbb669aaab9aaa99a1fbb69aaab9aaa99a1fbb69aaab9ab9a9aaa9a1f1f1f69aaab9aaa99a1fbbb69aaab9aaa99a1f6669aaab9ab9a9aaa9a1f1f1f69aaab9aaa99a1f66bb69aaab9aaa99a1fbb67779aaab9aaa99a1fb779aaab9aaa99a1fbbbb79aaab9aaa99a1fbb788889aaab9aaa99a1fbbbb8 []))))))))))) z2 z3 [8,8,1,1,6,6] 6 5
def wg (X:Str)(p c:Nat)(a:N2):SX Code Result:=sA (.call (.ref 691) ⟨[.ref (a 0),.int 1 0],[]⟩) [(a 0,aX 745 (a 1)),(a 1,ak (b5 X p))] [] (fun b f=> .ok (.ret (.str (S [c]) 0))) (fun b f=>[(a 0,aX 745 (a 1)),(a 1,ak (b5 X ((p+1:Nat):Int)))])
theorem GQ (X:Str)(p c:Nat)(hc:X.cps[p]?=some c) (hn:X.length=p+1) (hX:p+1<2^60) (a:N2) {frx:OE}:eP w aa b1 b2 1 frx false false (wg X p c a):=by
 have BO:decide ((p:Int)≥((p+1:Nat):Int))=false:=decide_eq_false (by omega);have gM:decide (((p+1:Nat):Int)<((p+1:Nat):Int))=false:=decide_eq_false (by omega);exact tX B aO.none (ol 0xa1111b1a1ac1111baa1bbaaaa1bbbbbb111bb1bbbb12223aaaaaaa3aaaaaaa3aaaa34ac11b14aaaaaaab4aaaaaaa44a534aaaaaaab4aaaaaaa44a533aa34aaaaaaab4aaaaaaa44a5 (.u [] (BW X (p+1) hn hX)::(ol 0x3333 (.u [] (JK p (p+1:Nat) false BO)::(ol 0x3bb33 (.u [] (m9 p 1 (p+1:Nat) rfl)::(ol 0x3 (.u [] (I3 (p+1:Nat) (p+1:Nat) false gM)::(ol 0x334aaaaaaab4ab4a4aaaaaaa4a55534aaaaaaab4aaaaaaa44a533 (.u [0] (MH X p c hc)::(ol 0xbbbbbb1111 []))))))))))) z2 z3 [5,5] 5 2
def zB {b1 b2:Bool}{w:WW}{aa:Heap}(B:BB w aa b1 b2)(X:Str)(p c:Nat)(hc:X.cps[p]?=some c) (hn:X.length=p+1) (hX:p+1<2^60):gw w aa b1 b2:=tO 1 false false 2 none (fun cc rr=>wg X p c (adr rr)) fun cc rr=>GQ b1 b2 B X p c hc hn hX (adr rr)
def Cp (X:Str)(p e:Nat)(k:Int)(t2:Tok)(a:N2):SX Code Result:=sA (.call (.ref 877) ⟨[.ref (a 0)],[]⟩) [(a 0,aX 880 (a 1)),(a 1,ak (cM (a 2) (a 5) (a 4) (sV [32]) (sV []))),(a 2,aX 745 (a 3)),(a 3,ak (b5 X (p:Nat))),(a 4,bK 0 [])] [(a 5,cq k t2 [])] (fun b f=> .ok (.ret (.str (S [e+48]) 0))) (fun b f=>[(a 0,aX 880 (a 1)),(a 1,ak (cM (a 2) (a 5) (a 4) (.none) (sV []))),(a 2,aX 745 (a 3)),(a 3,ak (b5 X (p+1:Nat))),(a 4,bK 0 [])])
theorem GR (X:Str)(p e:Nat)(k:Int)(t2:Tok)(hc:X.cps[p]?=some (e+48)) (hn:X.length=p+1) (hX:p+1<2^60) (he:e<5) (a:N2) {frx:OE}:eP w aa b1 b2 2 frx false false (Cp X p e k t2 a):=by
 have Co:(!(Builtin.Str.occurrences (S [92]) (S [e+48]) 0 (S [92]).length 1).isEmpty)=false:=sG e he;have JY:(!(Builtin.Str.occurrences i7 (S [e+48]) 0 i7.length 1).isEmpty)=true:=qa e he;exact tX B aO.none (ol 0x11b12aaa2aaa2aaaa23ac11b13aaab3aaa33a488b8b8b813aaa3aaa3aaaa34ac11b1111b14aaab4aaaaaaaababac11b15aaab5aaa55a6bbb25aaab5aaa55a67aaaaaaa7aaaaaaa7aaaa78a (.u [6,6] (zB B X p (e+48) hc hn hX)::(ol 0x444bb47aaab7aaa77a8bb47aaab7aaa77a847aaab7aaa77a8bb4bbb447aaab7aaa77a8bb447aaab7aaa77a8bb47aaab7aaa77a8447aaab7aaa77a8 (.u [] (vg (S [92]) (S [e+48]) false Co)::(ol 0x447aaab7aaa77a8 (.u [] (vg i7 (S [e+48]) true JY)::(ol 0x447aaab7ab7a7aaa7a88847aaab7ab7a7aaa7a888b47aaab7aaaaaaaababac11b18aaab8aaa88a9bbb58aaab8aaa88a92aaaaaaa2aaaaaaa2aaaa23a (.u [1,1] (sN B X (p+1) hn hX)::(ol 0x555bb58aaab8aaa88a9bb58aaab8aaa88a958aaab8aaa88a9bb58aaab8aaa88a958aaab8aaa88a9bb58aaab8aaa88a958aaab8aaa88a9bb58aaab8aaa88a911 (.u [0] (rC [sV [97],sV [99]] (sV [97]) true (by decide+kernel) (by decide+kernel))::(ol 0x6bbb69aaab9ab9a9aaa9a1f1f1f69aaab9aaa99a1f6669aaab9ab9a9aaa9a1f1f1f69aaab9aaa99a1f66bb69aaab9aaa99a1fbb67779aaab9aaa99a1fb779aaab9aaa99a1fbbbb79aaab9aaa99a1fbb788889aaab9aaa99a1fbbbb8 []))))))))))) z2 z3 [8,8,1,1,6,6] 6 5
def Cq (X:Str)(p:Nat)(sb:Bool)(vs:LV)(k:Int)(t2:Tok)(s:Str)(t3:Tok)(a:N2):SX Code Result:=sB (.call (.ref 877) ⟨[.ref (a 0)],[]⟩) [(a 0,aX 880 (a 1)),(a 1,ak (cM (a 2) (a 5) (a 4) (lT sb) (sV []))),(a 2,aX 745 (a 3)),(a 3,ak (b5 X (p:Nat))),(a 4,bK 0 [])] [(a 5,cq k t2 (.str s t3::vs))] (fun b f=> .ok (.ret (.str s t3))) (fun b f=>[(a 5,cq (k+1) 0 vs)])
theorem GS (X:Str)(p:Nat)(sb:Bool)(vs:LV)(k:Int)(t2:Tok)(s:Str)(t3:Tok)(Qr:vs.length+1≤1000)(a:N2){frx:OE}:eP w aa b1 b2 1 frx false true (Cq X p sb vs k t2 s t3 a):=by
 have hb:vs.length≤1000:=by omega
 have E0:∀ v:Value,(v::vs).length≤1000:=fun v=>by simp;omega
 exact tX B aO.none (ol 0x11b12aaa2aaa2aaaa23ac11b13aaab3aaa33a488 (.u [7] (BY (.str s t3::vs) (E0 _))::(ol 0x24aaab4aaa44a51111b1 (.u [0] (JL vs hb)::(ol 0x2224aaab4aaa44a5bb233334aaab4aaa44a5bbbb3 []))))) z2 z3 [3,3,3,3,3,0] 2 5 fun t x X Fr=>by revert b1 b2 sb;exact EX (by kernel_rfl)
end
structure gT where
 p:Nat
 sb:Bool
 k:Int
 t2:Tok
 vs:LV
inductive eF (X:Str):gT→Str→gT→Prop where
 |P {p sb k t2 s t3 vs} (hb:vs.length+1≤1000):eF X ⟨p,sb,k,t2,.str s t3::vs⟩ s ⟨p,sb,k+1,0,vs⟩
 |M {p k t2 e} (he:e<5) (hc:X.cps[p]?=some (e+48)) (hs:X.cps[p+1]?=some 32) (hX:X.length<2^60) (e9:p+1+1<X.length):eF X ⟨p,true,k,t2,[]⟩ (S [e+48]) ⟨p+1+1,true,k,t2,[]⟩
 |L {p k t2 e} (he:e<5) (hc:X.cps[p]?=some (e+48)) (hn:X.length=p+1) (hX:p+1<2^60):eF X ⟨p,true,k,t2,[]⟩ (S [e+48]) ⟨p+1,false,k,t2,[]⟩
section
variable (b1 b2:Bool){w:WW}{aa:Heap}(B:BB w aa b1 b2)
include B
theorem wh {X:Str}{σ ed:gT}{s:Str}(h:eF X σ s ed)(a:N2):
  EZ w aa b1 b2 2 false false (.call (.ref 877) ⟨[.ref (a 0)],[]⟩) (gS a X σ.p σ.sb) [(a 5,cq σ.k σ.t2 σ.vs)] (fun _=> .ok (.ret (.str s 0))) (fun _=>gS a X ed.p ed.sb) (fun _=>[(a 5,cq ed.k ed.t2 ed.vs)]):=by
 cases h with
 |P hb=>
  rename_i p sb k t2 t3 vs;intro t x;refine(((GS b1 b2 B X p sb vs k t2 s t3 hb a).g t x).mono (by decide) fun r L hP=>?_);obtain⟨b,L1,h1,h2,h3⟩:=hP;refine⟨b,L1,h1,?_,h3⟩;have rI:r=.ok (.ret (.str s t3)):=h2;rw[rI];rfl
 |M he hc hs hX e9=>exact(nextM b1 b2 B X _ _ _ _ hc hs X.length rfl hX (by omega) e9 he a).g
 |L he hc hn hX=>exact(GR b1 b2 B X _ _ _ _ hc hn hX he a).g
omit B in
def rR {X:Str}{σ ed:gT}{s:Str}(B:BB w aa b1 b2)(h:eF X σ s ed):gw w aa b1 b2:=
 fB 2 false false 5 (fun _ rr=> .call (.ref 877) ⟨[.ref (adr rr 0)],[]⟩) (fun _ rr=>gS (adr rr) X σ.p σ.sb) (fun _ rr=>[(adr rr 5,cq σ.k σ.t2 σ.vs)]) (fun _ _ _=> .ok (.ret (.str s 0))) (fun _ rr _=>gS (adr rr) X ed.p ed.sb) (fun _ rr _=>[(adr rr 5,cq ed.k ed.t2 ed.vs)])
  fun _ rr=>wh b1 b2 B h (adr rr)
end
section
variable {prog:Program}{w:WW}{aa:Heap}
structure jy where
 es:Array (Int×Value)
 ep:Nat
 t:SetTable
def eC (prog:Program)(w:WW)(D:jy)(S:Str→Bool)(n:Nat):Prop:=
 ElemsOf (PySem.strKind prog w) D.es.toList∧(∀ k,S k=true↔∃ e∈D.es.toList,(PySem.strKind prog w).is k e.2=true)∧D.es.size<scanBound∧D.t.fits D.es.size=true∧D.es.size=n
noncomputable def dn (D:jy):Obj:=⟨.type "set",none,.set D.es D.ep D.t,#[]⟩
noncomputable def gU (o:Obj):jy:=match o.data with
 |.set es ep t=>⟨es,ep,t⟩
 |_=>⟨#[],0,default⟩
theorem eC.of {D:jy}{S:Str→Bool}{n:Nat}(h:eC prog w D S n){hp:Heap}{a:Nat}(ha:hp.get? a=some (dn D)):hp.SetOf (PySem.strKind prog w) a S n:=by
 obtain⟨h1,h2,h3,h4,h5⟩:=h;exact⟨_,D.es,D.ep,D.t,ha,⟨rfl,rfl,rfl⟩,rfl,h1,h2,h3,h4,h5⟩
theorem eC.to {hp:Heap}{a:Nat}{S:Str→Bool}{n:Nat}(h:hp.SetOf (PySem.strKind prog w) a S n):∃ D,hp.get? a=some (dn D)∧eC prog w D S n:=by
 obtain⟨o,es,ep,t,ha,⟨c1,c2,c3⟩,hd,h1,h2,h3,h4,h5⟩:=h;obtain⟨c,d,dt,sl⟩:=o;simp only at c1 c2 c3 hd;subst c1 c2 c3 hd;exact⟨⟨es,ep,t⟩,ha,h1,h2,h3,h4,h5⟩
theorem eC.wS {D:jy}{S:Str→Bool}{n:Nat}(h:eC prog w D S n)(s:Array OV):wS (dn D) s=dn D:=rfl
theorem eC.new (led:Bool):eC prog w ⟨#[],0,.fresh 0 0 led⟩ (fun _=>false) 0:=
 ⟨fun e he=>by simp at he,fun k=>by simp,(by decide:0<scanBound),rfl,rfl⟩
theorem gV (q:Str)(t:Tok):(PySem.strKind prog w).is q (.str q t)=true:=by
 show Value.isStrOf q (.str q t)=true;simp[Value.isStrOf]
theorem zE {D:jy}{S:Str→Bool}{n:Nat}(gZ:eC prog w D S n)(a:Nat)(q:Str)(t:Tok):
  d3 prog w aa 0 (.call (.builtin "set.__contains__") ⟨[.ref a,.str q t],[]⟩) [(a,dn D)] (fun r L=>r=.ok (.ret (.bool (S q)))∧L=[(a,dn D)]):=by
 intro A R Fr h g d os tok size hA hD kk;have hS:=gZ.of (hD.get (.head _) gZ.wS);refine codeAny_call_builtin F.slot_set_contains.plain entry_set_contains (F.slot_set_contains.check _ _ _ _ _ _ _ _ (hS.typeIs (s:=⟨h,g,d,tok,os⟩)) (F.args_set_contains_2 _ _) ?_);unfold Builtin.«frozenset.__contains__» Builtin.Frozenset.oneOther;simp only[List.isEmpty_nil,bind_assoc];unfold Builtin.Frozenset.addrOf Builtin.Frozenset.withSetAsKey setContains;refine aw (aG ?_)
 try dsimp only
 refine aw (aG ?_)
 try dsimp only
 refine aw (wpAny_tryCatch ?_);refine wpAny_holding ?_;refine aw ((PySem.strKind prog w).pyHash (gV q t) ?_);refine aw (wpAny_setFind_of (s:=⟨h,g,d,tok+1,os⟩) (gV q t) rfl hS fun r hr=>?_);refine aG ?_;show wpAny _ _ (ret (Value.bool r.isSome)) _ _ _;rw[hr];exact aG (kk _ [(a,dn D)] h g (tok+1) size ⟨rfl,rfl⟩ (bh.refl _) hD)
theorem wi {D:jy}{S:Str→Bool}{n:Nat}(gZ:eC prog w D S n)(hn:n<100)(a:Nat)(q:Str)(t:Tok):
  d3 prog w aa 0 (.builtin "set.add" ⟨[.ref a,.str q t],[]⟩) [(a,dn D)] (fun r L=>∃ D2,r=.ok (.ret .none)∧L=[(a,dn D2)]∧eC prog w D2 (fun k=>S k||decide (k=q)) (if S q then n else n+1)):=by
 intro A R Fr h g d os tok size hA hD kk;have hS:=gZ.of (hD.get (.head _) gZ.wS);refine dw F.entry_set_add ?_;unfold Builtin.«set.add» Builtin.Frozenset.oneOther;simp only[List.isEmpty_nil,bind_assoc];unfold Builtin.Frozenset.addrOf setAdd;refine aw (aG ?_)
 try dsimp only
 refine aw (aG ?_)
 try dsimp only
 refine aw ?_;refine wpAny_holding ?_;refine aw ((PySem.strKind prog w).pyHash (gV q t) ?_);refine wpAny_setAddHashed_of (s:=⟨h,g,d,tok+1,os⟩) (gV q t) rfl hS (by unfold scanBound;omega) fun h' nt B7=>?_;obtain⟨D2,JZ,I7⟩:=eC.to B7;show wpAny _ _ (ret Value.none) _ _ _;refine aG (kk _ [(a,dn D2)] h' g (tok+1) size ⟨D2,rfl,rfl,I7⟩ (bh.refl _) ⟨by rw[nt.1];exact hD.sz,fun b o hb=>?_,fun p hp=>?_,hD.nd,hD.le⟩)
 ·have:=(hD.own (a,dn D) (.head _)).2
  have q2:=Heap.lt_size hb;exact(nt.2 b (fun e=>by subst e;exact Nat.lt_irrefl _ (Nat.lt_of_lt_of_le q2 this))).trans (hD.keep b o hb)
 ·rcases ba.mp hp with rfl|hp
  ·exact⟨⟨#[],by rw[I7.wS];exact JZ⟩,(hD.own (a,dn D) (.head _)).2⟩
  ·have hold:=hD.own p (.tail _ hp)
   obtain⟨sl,hs⟩:=hold.1;have zj:=hD.nd;have bq:p.1≠a:=fun e=>by
    rw[show[(a,dn D)]++Fr=(a,dn D)::Fr from rfl,List.map_cons,List.nodup_cons] at zj;exact zj.1 (List.mem_map.mpr ⟨p,hp,e⟩)
   exact⟨⟨sl,(nt.2 p.1 bq).trans hs⟩,hold.2⟩
def rS {D:jy}{S:Str→Bool}{n:Nat}(q:Str)(v:Bool)(hD:eC prog w D S n)(hv:S q=v):Ent prog w aa:=fB 0 true true 0 (fun c rs=> .call (.builtin "set.__contains__") ⟨[.ref (adr rs 0),.str q (cD (gB c 1))],[]⟩) (fun _ _=>[]) (fun _ rs=>[(adr rs 0,dn D)])
 (fun _ _ _=> .ok (.ret (.bool v))) (fun _ _ _=>[]) (fun _ rs _=>[(adr rs 0,dn D)]) fun c rs=>fU (hv▸zE hD _ q _)
def sP {D:jy}{S:Str→Bool}{n:Nat}(q:Str)(hD:eC prog w D S n)(hn:n<100):Ent prog w aa where
 lv:=0
 f:=fun c rs u=>⟨.ok (.ret .none),[(adr rs 0,dn (gU (u.o 0)))]⟩
 I:=fun c rs u=>eC prog w (gU (u.o 0)) (fun k=>S k||decide (k=q)) (if S q then n else n+1)
 vf:=fun c rs=>[.eq (.c c) (.c (.builtin "set.add" ⟨[.ref (adr rs 0),.str q (cD (gB c 1))],[]⟩)),.eq (.w rs) (.w [(adr rs 0,dn D)])]
 quiet:=fun c rs m hm=>by
  rcases ba.mp hm with rfl|hm
  ·trivial
  ·rcases ba.mp hm with rfl|hm
   ·trivial
   ·nomatch hm
 ok:=fun c rs hf _=>by
  have h1:c=.builtin "set.add" ⟨[.ref (adr rs 0),.str q (cD (gB c 1))],[]⟩:=by
   have z:TV.c c=TV.c _:=hf _ (.head _);injection z
  have h2:rs=[(adr rs 0,dn D)]:=by
   have z:TV.w rs=TV.w _:=hf _ (.tail _ (.head _));injection z
  have z:d3 prog w aa 0 c rs (fun r L=>∃ u:U,eC prog w (gU (u.o 0)) (fun k=>S k||decide (k=q)) (if S q then n else n+1)∧(⟨.ok (.ret .none),[(adr rs 0,dn (gU (u.o 0)))]⟩:BN)=⟨r,L⟩):=by
   have y:=(wi (aa:=aa) hD hn (adr rs 0) q (cD (gB c 1))).mono lr (P':=fun r L=>∃ u:U,eC prog w (gU (u.o 0)) (fun k=>S k||decide (k=q)) (if S q then n else n+1)∧(⟨.ok (.ret .none),[(adr rs 0,dn (gU (u.o 0)))]⟩:BN)=⟨r,L⟩) fun r L hP=>by
    obtain⟨D2,rfl,rfl,h⟩:=hP;exact⟨⟨fun _=>0,fun _=>⟨fun _=>0,fun _=>0,fun _=>0,0⟩,fun _=>[],fun _ _=>0,fun _=>dn D2⟩,h,rfl⟩
   rw[←h1,←h2] at y;exact y
  exact z.f
end
inductive wj where
 |turn (c:Code) (fs:List Frame)
 |yield (v:Value) (l:LV) (k:Resume→Sem Fin) (c:Code) (fs:List Frame)
 |ret (r:Result)
 |go (c':Code) (l:LV) (k:Result→Sem Fin) (c:Code) (fs:List Frame)
def wj.holds (M:Model)(A:Around)(P:End→Shared→Prop):wj→Shared→Prop
 |.turn c fs,s=>SegX M A c (den c) fs s P
 |.yield v l k c fs,s=>∀ p,P (.susp v false l k c p fs) s
 |.ret r,s=>P (.ret r) s
 |.go c' l k c fs,s=>∀ p,SegX M A c' (den c') (.ret k none false l c p []::fs) s P
def qu (prog:Program)(w:WW)(aa:Heap)(lv:Nat)(fr:OE)(c:Code)(t:Sem Fin)(fs:List Frame)(rs:Ow)(Z:wj→Ow→Prop):Prop:=
 ∀ (A:Around)(P:End→Shared→Prop)(Fr:Ow)(h:Heap)(g:Array GenState)(d:Drawn)(os:OsState)(tok size:Nat),Ar lv A→(∀ l,fr=some l→A.frames=some l)→Rp aa h (rs++Fr) size→
  (∀ so L' h' g' aN aC,Z so L'→bh g g'→Rp aa h' (L'++Fr) aC→so.holds (model prog w) A P ⟨h',g',d,aN,os⟩)→SegX (model prog w) A c t fs ⟨h,g,d,tok,os⟩ P
noncomputable def rT:Out→wj
 |.fin r _ _ _ _=> .ret r
 |.stopY c fs c' l k _ _ _ _=> .go c' l k c fs
 |.yield v l k c fs _ _ _ _=> .yield v l k c fs
 |.turn c fs _ _ _ _=> .turn c fs
 |_=> .ret (.ok .next)
section
variable {prog:Program}{w:WW}{aa:Heap}{kt:KT}
def jU (prog:Program)(w:WW)(aa:Heap)(kt:KT)(lv:Nat)(fr:OE)(n:Nat)(or:List (eV prog w aa))(c:Code)(t:Sem Fin)(fs:List Frame)(L:Ow)(x:SV×Nat×Nat):Out:=
 run (aa:=aa) ⟨prog,w.params⟩ kt lv fr n x.1 or (.seg c fs) t L x.2.1 x.2.2 []
theorem rU {o:Out}(h:o.kind=4):rT o=.yield o.val o.hold o.kr o.code o.MG:=by
 cases o with
 |yield=>rfl
 |stop=>obtain⟨_,z⟩|z:=nS h<;>cases z
 |d5=>obtain⟨_,z⟩|z:=nS h<;>cases z
 |_=>cases h
noncomputable def zF (n:Nat):Bool:=match n with
 |1=>true
 |3=>true
 |4=>true
 |6=>true
 |_=>false
theorem fH (B:Base w aa kt){lv:Nat}{fr fr':OE}(iY:aO fr fr')(n:Nat)(or:List (eV prog w aa))(ps:LN)(gn:Nat){c:Code}{t:Sem Fin}{fs:List Frame}(NF:∀ f∈fs,Ba f=true){rs:Ow}{Z:wj→Ow→Prop}{α:Type}(K:Nat)(hK:zF K=true)
  (view:Out→Ow→α) (v:SV×Nat×Nat→Ow→α) (tl:SV×Nat×Nat→List Prop)
  (e:∀ x Fr,((jU prog w aa kt lv fr n or c t fs (rs++Fr) x).kind,ij (jU prog w aa kt lv fr n or c t fs (rs++Fr) x).tr,Jy (jU prog w aa kt lv fr n or c t fs (rs++Fr) x).tr,(jU prog w aa kt lv fr n or c t fs (rs++Fr) x).rest ps gn,view (jU prog w aa kt lv fr n or c t fs (rs++Fr) x) ((jU prog w aa kt lv fr n or c t fs (rs++Fr) x).get ps))=
   (K,ik (jU prog w aa kt lv fr n or c t fs (rs++Fr) x).tr,tl x,Fr,v x ((jU prog w aa kt lv fr n or c t fs (rs++Fr) x).get ps)))
  (hP:∀ x Fr L',(jU prog w aa kt lv fr n or c t fs (rs++Fr) x).kind=K→All (tl x)→view (jU prog w aa kt lv fr n or c t fs (rs++Fr) x) L'=v x L'→Z (rT (jU prog w aa kt lv fr n or c t fs (rs++Fr) x)) L'):qu prog w aa (lv+1) fr' c t fs rs Z:=by
 intro A P Fr h g d os tok size hA hf hD kk;let V:V:=⟨prog,w,aa,kt,A,fr,fun _ _=>True,P,g,d,os⟩;have O:V.Ok lv:=⟨B.kt,B.lim,hA,fun l z=>hf l (iY l z)⟩;have z:=cL O n or (.seg c fs) t (rs++Fr) size tok [] NF fun sv=>by
  have e:=e (sv,size,tok) Fr;have hP:=fun L'=>hP (sv,size,tok) Fr L';show W V (jU prog w aa kt lv fr n or c t fs (rs++Fr) (sv,size,tok));generalize jU prog w aa kt lv fr n or c t fs (rs++Fr) (sv,size,tok)=o at e hP;obtain⟨e1,e2,e3,e4,e5⟩:=Na e;have key:∀ (T:Told o.tr){h':Heap}{g':Array GenState}{aC aN:Nat},bh g g'→Rp aa h' o.own aC→(rT o).holds (model prog w) A P ⟨h',g',d,aN,os⟩:=fun T h' g' aC aN G D'=>by
   have y:=Rp.out (o:=o) D' ps gn;rw[e4] at y;exact kk _ _ h' g' aN aC (hP _ e1 (e3▸jG T) e5) G y
  cases o with
  |fin r L' aC aN tr=>exact⟨bt e2,fun T h' g' G D'=>⟨trivial,key T G D'⟩⟩
  |stopY c fs c' l k L' aC aN tr=>exact⟨bt e2,fun T h' g' G p D'=>key T G D' p⟩
  |yield v l k c fs L' aC aN tr=>exact⟨bt e2,fun T h' g' G p D'=>key T G D' p⟩
  |turn c fs L' aC aN tr=>exact⟨bt e2,fun T h' g' G D'=>key T G D'⟩
  |stop=>obtain⟨_,z⟩|z:=nS e1<;>(subst z;cases hK)
  |d5=>obtain⟨_,z⟩|z:=nS e1<;>(subst z;cases hK)
  |_=>subst e1;cases hK
 exact z.2 (fun _ h=>nomatch h) h g (bh.refl g) hD
end
noncomputable def kf:List Env→List Nat→Prop
 |[],[]=>True
 |e::l,a::as=>e.scope.kind≠.module∧e.frame=some a∧kf l as
 |_,_=>False
noncomputable def wk (o:Obj):Obj:=⟨o.cls,o.dict,match o.data with
 |.dict es n=> .dict es n
 |_=> .dict #[] 0,o.slots⟩
def ph (as:LN)(rs:Ow)(i:Nat):Ow:=List.rec (motive:=fun _=>Nat→Ow) (fun _=>[]) (fun a _ ih i=>(a,wk (B3 rs i))::ih (Nat.succ i)) as i
theorem sQ:∀ {l:List Env}{as:LN}{rs:Ow}{i:Nat},kf l as→qc l (ph as rs i)
 |[],_,_,_,_=>fun _ h=>nomatch h
 |e::l,[],_,_,h=>h.elim
 |e::l,a::as,rs,i,h=>fun env he=>by
  rcases ba.mp he with rfl|he
  ·refine⟨h.1,a,_,h.2.1,.head _,?_⟩
   show ∃ es n,(match (B3 rs i).data with|.dict es n=>Data.dict es n|_=> .dict #[] 0)=.dict es n;split<;>exact⟨_,_,rfl⟩
  ·obtain⟨h1,b,o,h2,h3,h4⟩:=sQ (rs:=rs) (i:=i+1) h.2.2 env he
   exact⟨h1,b,o,h2,.tail _ h3,h4⟩
section
variable (b1 b2:Bool){w:WW}{aa:Heap}
def zG (B:BB w aa b1 b2)(X:Str)(p:Nat)(hn:X.length=p)(hX:p<2^60)(outer:List Env)(as:LN)(hO:kf outer as):gw w aa b1 b2 where
 lv:=3
 fr:=some fun _ _=>outer
 f:=fun c rs u=>⟨.error (.ref (u.n 0)),(u.n 0,⟨.type "StopIteration",(u.o 0).dict,.fields ⟨u.l 0⟩,(u.o 0).slots⟩)::(rt (gS (adr rs) X p false) u.t++((adr rs 5,cq (eN (bx rs 5 1)) (cD (bx rs 5 1)) [])::ph as rs 6))⟩
 I:=fun _ _ _=>True
 vf:=fun c rs=>[.eq (.c c) (.c (.call (.ref 877) ⟨[.ref (adr rs 0)],[]⟩)),.eq (.w (nL (aT 5 rs))) (.w (gS (adr rs) X p false)),.eq (.w (aR 5 rs)) (.w ((adr rs 5,cq (eN (bx rs 5 1)) (cD (bx rs 5 1)) [])::ph as rs 6))]
 quiet:=fun c rs m hm=>by
  rcases ba.mp hm with rfl|hm
  ·trivial
  ·rcases ba.mp hm with rfl|hm
   ·trivial
   ·rcases ba.mp hm with rfl|hm
    ·trivial
    ·nomatch hm
 ok:=fun c rs hf _=>by
  have h1:c=.call (.ref 877) ⟨[.ref (adr rs 0)],[]⟩:=by
   have z:TV.c c=TV.c _:=hf _ (.head _);injection z
  have h2:nL (aT 5 rs)=gS (adr rs) X p false:=by
   have z:TV.w _=TV.w _:=hf _ (.tail _ (.head _));injection z
  have h3:aR 5 rs=(adr rs 5,cq (eN (bx rs 5 1)) (cD (bx rs 5 1)) [])::ph as rs 6:=by
   have z:TV.w _=TV.w _:=hf _ (.tail _ (.tail _ (.head _)));injection z
  obtain⟨x,hx⟩:=il (aT 5 rs);intro A R Fr hh g d os tok size hA iY hD kk;have gZ:Rp aa hh (rt (nL (aT 5 rs)) x++aR 5 rs++Fr) size:=by
   rw[←take_drop 5 rs] at hD;exact hD.same hx.1.append.append
  rw[h2,h3] at gZ;have z:=GO b1 b2 B X p (eN (bx rs 5 1)) (cD (bx rs 5 1)) hn hX (adr rs) x (sQ (rs:=rs) (i:=6) hO) A R Fr hh g d os tok size hA iY (by rw[a5 (rt _ x)];exact gZ);rw[←h1] at z;refine z fun r L h' g' aN aC hP G D'=>?_;obtain⟨ea,dd,vs,sl,L1,rfl,rfl,hL⟩:=hP;obtain⟨x',jJ⟩:=il L1;refine kk _ _ h' g' aN aC ⟨⟨fun _=>ea,x',fun _=>vs.toList,fun _ _=>0,fun _=>⟨.none,dd,.plain,sl⟩⟩,trivial,rfl⟩ G ?_;rw[←hL];have D2:Rp aa h' ([(ea,lY "StopIteration" dd vs sl)]++(L1++((adr rs 5,cq (eN (bx rs 5 1)) (cD (bx rs 5 1)) [])::ph as rs 6))++Fr) aC:=by
   have:(ea,lY "StopIteration" dd vs sl)::(L1++[(adr rs 5,cq (eN (bx rs 5 1)) (cD (bx rs 5 1)) [])]++ph as rs 6)=[(ea,lY "StopIteration" dd vs sl)]++(L1++((adr rs 5,cq (eN (bx rs 5 1)) (cD (bx rs 5 1)) [])::ph as rs 6)):=by simp
   rw[←this];exact D'
  refine D2.same (kC.append ?_);have hs:kC (L1++((adr rs 5,cq (eN (bx rs 5 1)) (cD (bx rs 5 1)) [])::ph as rs 6)) (rt (nL L1) x'++((adr rs 5,cq (eN (bx rs 5 1)) (cD (bx rs 5 1)) [])::ph as rs 6)):=jJ.1.append;refine⟨?_,fun p' hp=>?_⟩
  ·exact congrArg (ea::·) hs.1
  ·rcases ba.mp hp with rfl|hp
   ·exact⟨_,.head _,rfl,fun _=>rfl⟩
   ·obtain⟨q,h1,h2,h3⟩:=hs.2 p' hp
    exact⟨q,.tail _ h1,h2,h3⟩
end
noncomputable def n5 (X Y:Str)(i j:Int)(a:N2):SX Code Result:=sC (.call (.ref 185) ⟨[.str X 0],[]⟩) [] [] (fun b f=> .ok (.ret (.str Y 0)))
theorem wm (b1 b2:Bool){w:WW}{aa:Heap}(B:BB w aa b1 b2)(X Y:Str)(i j:Int)(hr:(match Builtin.Str.lastOccurrence X (S [47]) 0 X.length with|some i=>(i:Int)|none=> -1)=i)(hj:i+1=j)(hs:cu X (some j) none=Y)(hy:Y.length≤1000)(a:N2){frx:OE}:eP w aa b1 b2 1 frx false false (n5 X Y i j a):=
 tX B aO.none (ol 0x11ba1ac11baa1bb11aa1aaaabbb1111bb233a3ac11baa1aabbbbbbbb4444 (.u [] (ka X (S [47]) i hr)::(.u [] (m9 i 1 j hj)::(ol 0x4444 (.u [0] (tJ X Y (some j) none hs hy)::[]))))) z2 z3 [] 5 0
def eD {b1 b2:Bool}{w:WW}{aa:Heap}(B:BB w aa b1 b2)(X Y:Str)(i j:Int)(hr:(match Builtin.Str.lastOccurrence X (S [47]) 0 X.length with|some i=>(i:Int)|none=> -1)=i)(hj:i+1=j)(hs:cu X (some j) none=Y)(hy:Y.length≤1000):gw w aa b1 b2:=tO 1 false false 0 none (fun cc rr=>n5 X Y i j (adr rr)) fun cc rr=>wm b1 b2 B X Y i j hr hj hs hy (adr rr)
def gN (a:N2)(X:Str)(p:Nat)(sb:Bool)(ek:Option (Str×Str)):Ow:=gS a X p sb++[(a 6,ah (pf (a 0) (a 8) (a 7) ek)),(a 7,yH (a 8))]
def gR (a:N2)(σ:gT)(D:jy):Ow:=[(a 5,cq σ.k σ.t2 σ.vs),(a 8,dn D)]
abbrev gC (w:WW)(a:N2):Code:=pe w (a 6) (a 0)
abbrev gF (w:WW)(a:N2)(p:Pos):List Frame:=GG w (a 6) (a 0) p
theorem wo (w:WW)(a:N2)(p:Pos):∀ f∈gF w a p,Ba f=true:=fun f hf=>by
 rcases ba.mp hf with rfl|hf
 ·rfl
 ·nomatch hf
def rV (w:WW)(aa:Heap)(a:N2)(p:Pos)(k:Resume→Sem Fin)(c:Code)(fs:List Frame):Prop:=
 (∀ f∈fs,Ba f=true)∧qu pw w aa 1 none c (k (.send .none)) fs [] (fun so L=>so=.turn (gC w a) (gF w a p)∧L=[])
theorem Cr {v:Value}{s:Str}(h:nV v=.str s 0):∃ t,v=.str s t:=by
 cases v<;>simp[nV] at h;exact⟨_,by rw[h]⟩
section
variable (b1 b2:Bool){w:WW}{aa:Heap}(B:BB w aa b1 b2)
variable {X s q:Str}{σ ed:gT}(hs:eF X σ s ed){i j:Int}(hr:(match Builtin.Str.lastOccurrence s (S [47]) 0 s.length with|some i=>(i:Int)|none=> -1)=i)(hj:i+1=j)(hq:cu s (some j) none=q)(hy:q.length≤1000)
include B hs hr hj hq hy
theorem qv {D:jy}{SS:Str→Bool}{n:Nat}(hD:eC pw (wd w b1 b2) D SS n)(hv:SS q=true)(a:N2)(ek:Option (Str×Str))(p:Pos)(x:Nat→Tk):
  qu pw (wd w b1 b2) aa 3 none (gC (wd w b1 b2) a) (den (gC (wd w b1 b2) a)) (gF (wd w b1 b2) a p) (rt (gN a X σ.p σ.sb ek) x++gR a σ D)
   (fun so L=>so=.turn (gC (wd w b1 b2) a) (gF (wd w b1 b2) a p)∧∃ L1,L=L1++gR a ed D∧nL L1=gN a X ed.p ed.sb (some (s,q))):=by
 refine fH B (lv:=2) aO.none 9999 (ol 0x1aaaa (.u [0,0,0,0,0,2] (rR _ _ B hs)::(ol 0x7777a (.u [] (eD B s q i j hr hj hq hy)::(ol 0x777799 (.u [8] (rS q true hD hv)::(ol 0xd []))))))) [1,1,1,1,1,2,2,1,0] 0 (wo _ _ _) 6 rfl (fun o L=>(rT o,nL (aT 7 L),aR 7 L)) (fun _ _=>(.turn (gC (wd w b1 b2) a) (gF (wd w b1 b2) a p),gN a X ed.p ed.sb (some (s,q)),gR a ed D)) (fun _=>[True,True,True]) ?_ ?_
 ·intro X' Fr
  rcases σ with⟨p1,Cs,k1,t1,J0⟩
  rcases ed with⟨p2,Ct,k2,t2,dK⟩
  revert b1 b2 ek;revert Cs Ct;exact I6 (by kernel_rfl)
 ·intro X' Fr L _ _ h
  obtain⟨h1,h2,h3⟩:=pS h;exact⟨h1,aT 7 L,by rw[←h3,take_drop],h2⟩
theorem zH {D:jy}{SS:Str→Bool}{n:Nat}(hD:eC pw (wd w b1 b2) D SS n)(hn:n<100)(hv:SS q=false)(a:N2)(ek:Option (Str×Str))(p:Pos)(x:Nat→Tk):
  qu pw (wd w b1 b2) aa 3 none (gC (wd w b1 b2) a) (den (gC (wd w b1 b2) a)) (gF (wd w b1 b2) a p) (rt (gN a X σ.p σ.sb ek) x++gR a σ D)
   (fun so L=>∃ tk l k c fs D2 L1,so=.yield (.str s tk) l k c fs∧L=L1++gR a ed D2∧nL L1=gN a X ed.p ed.sb (some (s,q))∧eC pw (wd w b1 b2) D2 (fun k=>SS k||decide (k=q)) (n+1)∧rV (wd w b1 b2) aa a p k c fs):=by
 refine fH B (lv:=2) aO.none 9999 (ol 0x1aaaa (.u [0,0,0,0,0,2] (rR _ _ B hs)::(ol 0x7777a (.u [] (eD B s q i j hr hj hq hy)::(ol 0x777799 (.u [8] (rS q false hD hv)::(ol 0x889b9111 (.u [0] (sP q hD hn)::(ol 0x8 []))))))))) [1,1,1,1,1,2,2,1,0] 0 (wo _ _ _) 4 rfl (fun o L=>(nV o.val,nL (aT 7 L),aR 7 L)) (fun y _=>(.str s 0,gN a X ed.p ed.sb (some (s,q)),gR a ed (gU ((y.1 21).u.o 0)))) (fun y=>[eC pw (wd w b1 b2) (gU ((y.1 21).u.o 0)) (fun k=>SS k||decide (k=q)) (if SS q then n else n+1),True,True,True]) ?_ ?_
 ·intro X' Fr
  rcases σ with⟨p1,Cs,k1,t1,J0⟩
  rcases ed with⟨p2,Ct,k2,t2,dK⟩
  revert b1 b2 ek;revert Cs Ct;exact I6 (by kernel_rfl)
 ·intro X' Fr L hk ht h
  obtain⟨h1,h2,h3⟩:=pS h;obtain⟨tk,J1⟩:=Cr h1;have h4:=ht _ (.head _);simp only[hv,Bool.false_eq_true,if_false] at h4;rw[rU hk];refine⟨tk,_,_,_,_,_,aT 7 L,by rw[J1],by rw[←h3,take_drop],h2,h4,?_⟩;have GU:List.all (jU pw (wd w b1 b2) aa (dF (wd w b1 b2)) 2 none 9999 (ol 0x1aaaa (.u [0,0,0,0,0,2] (rR _ _ B hs)::(ol 0x7777a (.u [] (eD B s q i j hr hj hq hy)::(ol 0x777799 (.u [8] (rS q false hD hv)::(ol 0x889b9111 (.u [0] (sP q hD hn)::(ol 0x8 []))))))))) (gC (wd w b1 b2) a) (den (gC (wd w b1 b2) a)) (gF (wd w b1 b2) a p) (rt (gN a X σ.p σ.sb ek) x++gR a σ D++Fr) X').MG Ba=true:=by
   clear hk ht h h1 h2 h3 h4 J1;rcases σ with⟨p1,Cs,k1,t1,J0⟩
   rcases ed with⟨p2,Ct,k2,t2,dK⟩
   revert b1 b2 ek;revert Cs Ct;exact I6 (by kernel_rfl)
  have iY:=List.all_eq_true.mp GU;refine⟨iY,?_⟩;refine fH B (lv:=0) aO.none 9999 [.x] [] 0 iY 6 rfl (fun o' L=>(rT o',L)) (fun _ _=>(.turn (gC (wd w b1 b2) a) (gF (wd w b1 b2) a p),[])) (fun _=>[]) ?_ ?_
  ·clear iY GU hk ht h h1 h2 h3 h4 J1
   intro X4 sR;rcases σ with⟨p1,Cs,k1,t1,J0⟩
   rcases ed with⟨p2,Ct,k2,t2,dK⟩
   revert b1 b2 ek;revert Cs Ct;exact I6 (by kernel_rfl)
  ·intro X4 sR L4 _ _ h
   simp only[Prod.mk.injEq] at h;exact h
end
structure pj where
 c:Value
 d:ON
 es:Array DictEntry
 n:Nat
 s:Array OV
def pj.o (q:pj):Obj:=⟨q.c,q.d,.dict q.es q.n,q.s⟩
abbrev GV (w:WW)(fr:Nat):Env:=pd (bR (fV w) fr)
section
variable (b1 b2:Bool){w:WW}{aa:Heap}(B:BB w aa b1 b2)
theorem zJ (fr:Nat){F:List Env}{as:LN}(h:kf F as):kf (GV (wd w b1 b2) fr::F) (fr::as):=by
 refine⟨?_,?_,h⟩
 ·have:(GV (wd w b1 b2) fr).scope.kind=.function:=by revert b1 b2;exact fb (by kernel_rfl)
  rw[this];decide
 ·revert b1 b2;exact fb (by kernel_rfl)
include B
theorem zK (X:Str)(p:Nat)(hn:X.length=p)(hX:p<2^60)(k:Int)(t2:Tok)(D:jy)(a:N2)(ek:Option (Str×Str))(pp:Pos)(x:Nat→Tk)(F:List Env)(wf lf:Nat)(q1 q2:pj)(hF:kf F [wf,lf]):
  qu pw (wd w b1 b2) aa 4 (some F) (gC (wd w b1 b2) a) (den (gC (wd w b1 b2) a)) (gF (wd w b1 b2) a pp) (rt (gN a X p false ek) x++[(a 5,cq k t2 []),(a 8,dn D),(wf,q1.o),(lf,q2.o)])
   (fun so L=>so=.ret (.ok (.ret .none))∧L=[(wf,q1.o),(lf,q2.o)]):=by
 refine fH B (lv:=3) aO.refl 9999 (ol 0x1aaaa (.u [0,0,0,0,0,2,0,2,2] (zG _ _ B X p hn hX _ _ (zJ b1 b2 (w:=w) (a 6) hF))::(ol 0x1b []))) [8,8] 10 (wo _ _ _) 1 rfl (fun o L=>(rT o,L)) (fun _ _=>(.ret (.ok (.ret .none)),[(wf,q1.o),(lf,q2.o)])) (fun _=>[True]) ?_ ?_
 ·intro X' Fr
  revert b1 b2 ek;exact d4 (by kernel_rfl)
 ·intro X' Fr L _ _ h
  simp only[Prod.mk.injEq] at h;exact h
theorem tQ (l6 lx J2:Nat)(x:Nat→Tk):
  qu pw (wd w b1 b2) aa 1 none (bR (fV (wd w b1 b2)) l6) (den (bR (fV (wd w b1 b2)) l6)) [] (rt [(l6,ah (fE lx)),(lx,aX 880 J2)] x)
   (fun so L=>∃ se sa led L1,so=.go (pe (wd w b1 b2) l6 lx) (fF (wd w b1 b2) l6 lx).hold (fF (wd w b1 b2) l6 lx).k (bR (fV (wd w b1 b2)) l6) []∧
    L=L1++[(se,dn ⟨#[],0,.fresh 0 0 led⟩)]∧nL L1=[(lx,aX 880 J2),(l6,ah (ju lx se sa)),(sa,yH se)]):=by
 refine fH B (lv:=0) aO.none 9999 (ol 0xaabbbb11b11b112221b1b111bb133334aaa4aaaac11b15aaae []) [4,3,1,1] 1 (fun f h=>absurd h List.not_mem_nil) 3 rfl
  (fun o L=>(rT o,nL (aT 3 L),aR 3 L)) (fun _ L=>(.go (pe (wd w b1 b2) l6 lx) (fF (wd w b1 b2) l6 lx).hold (fF (wd w b1 b2) l6 lx).k (bR (fV (wd w b1 b2)) l6) [],[(lx,aX 880 J2),(l6,ah (ju lx (adr L 3) (adr L 2))),(adr L 2,yH (adr L 3))],[(adr L 3,dn ⟨#[],0,.fresh 0 0 (gU (B3 L 3)).t.led⟩)])) (fun _=>[]) ?_ ?_
 ·intro X' Fr
  revert b1 b2;exact dI (by kernel_rfl)
 ·intro X' Fr L _ _ h
  obtain⟨h1,h2,h3⟩:=pS h;exact⟨adr L 3,adr L 2,_,aT 3 L,h1,by rw[←h3,take_drop],h2⟩
end
def pP (s:Str):Int:=match Builtin.Str.lastOccurrence s (S [47]) 0 s.length with|some i=>(i:Int)|none=> -1
def fX (s:Str):Str:=cu s (some (pP s+1)) none
noncomputable def zL (SS:Str→Bool)(q:Str):Str→Bool:=fun k=>SS k||decide (k=q)
inductive kg (X:Str):gT→(Str→Bool)→Str→gT→Prop where
 |new {σ ed s SS} (h:eF X σ s ed) (hy:(fX s).length≤1000) (hv:SS (fX s)=false):kg X σ SS s ed
 |skip {σ GW ed s s' SS} (h:eF X σ s GW) (hy:(fX s).length≤1000) (hv:SS (fX s)=true) (z:kg X GW SS s' ed):kg X σ SS s' ed
inductive tR (X:Str):gT→(Str→Bool)→Prop where
 |fin {p k t2 SS} (hn:X.length=p) (hX:p<2^60):tR X ⟨p,false,k,t2,[]⟩ SS
 |skip {σ GW s SS} (h:eF X σ s GW) (hy:(fX s).length≤1000) (hv:SS (fX s)=true) (z:tR X GW SS):tR X σ SS
theorem Rp.norm {aa h:Heap}{L1 Y Fr N:Ow}{size:Nat}(D:Rp aa h (L1++Y++Fr) size)(e:nL L1=N):∃ x,Rp aa h (rt N x++Y++Fr) size:=by
 obtain⟨x,hx⟩:=il L1;exact⟨x,by rw[←e];exact D.same hx.1.append.append⟩
section
variable (b1 b2:Bool){w:WW}{aa:Heap}(B:BB w aa b1 b2)
include B
theorem nu {X:Str}{σ ed:gT}{SS:Str→Bool}{s:Str}(h:kg X σ SS s ed){D:jy}{n:Nat}(hD:eC pw (wd w b1 b2) D SS n)(hn:n<100)(a:N2)(p:Pos):
  ∀ (ek:Option (Str×Str))(x:Nat→Tk),qu pw (wd w b1 b2) aa 3 none (gC (wd w b1 b2) a) (den (gC (wd w b1 b2) a)) (gF (wd w b1 b2) a p) (rt (gN a X σ.p σ.sb ek) x++gR a σ D)
   (fun so L=>∃ tk l k c fs D2 L1,so=.yield (.str s tk) l k c fs∧L=L1++gR a ed D2∧nL L1=gN a X ed.p ed.sb (some (s,fX s))∧eC pw (wd w b1 b2) D2 (zL SS (fX s)) (n+1)∧rV (wd w b1 b2) aa a p k c fs):=by
 induction h with
 |new h hy hv=>exact fun ek x=>zH b1 b2 B h rfl rfl rfl hy hD hn hv a ek p x
 |skip h hy hv z ih=>
  intro ek x A P Fr hh g d os tok size hA hf hR kk;refine qv b1 b2 B h rfl rfl rfl hy hD hv a ek p x A P Fr hh g d os tok size hA hf hR fun so L' h' g' aN aC hZ G D'=>?_;obtain⟨rfl,L1,rfl,hL⟩:=hZ;obtain⟨x',tG⟩:=Rp.norm D' hL;exact ih hD _ x' A P Fr h' g' d os aN aC hA hf tG fun so rk jM nc mi fI hZ G' D3=>kk so rk jM nc mi fI hZ (G.trans G') D3
theorem qw {X:Str}{σ:gT}{SS:Str→Bool}(h:tR X σ SS){D:jy}{n:Nat}(hD:eC pw (wd w b1 b2) D SS n)(a:N2)(p:Pos)(F:List Env)(wf lf:Nat)(q1 q2:pj)(hF:kf F [wf,lf]):
  ∀ (ek:Option (Str×Str))(x:Nat→Tk),qu pw (wd w b1 b2) aa 4 (some F) (gC (wd w b1 b2) a) (den (gC (wd w b1 b2) a)) (gF (wd w b1 b2) a p) (rt (gN a X σ.p σ.sb ek) x++gR a σ D++[(wf,q1.o),(lf,q2.o)])
   (fun so L=>so=.ret (.ok (.ret .none))∧L=[(wf,q1.o),(lf,q2.o)]):=by
 induction h with
 |@fin p0 k0 t0 Qs hn hX=>
  intro ek x;have z:=zK b1 b2 B X p0 hn hX k0 t0 D a ek p x F wf lf q1 q2 hF;rw[a5];exact z
 |skip h hy hv z ih=>
  intro ek x A P Fr hh g d os tok size hA hf hR kk;rw[a5] at hR;refine qv b1 b2 B h rfl rfl rfl hy hD hv a ek p x A P ([(wf,q1.o),(lf,q2.o)]++Fr) hh g d os tok size (hA.le (by decide)) (fun _ z=>nomatch z) hR fun so L' h' g' aN aC hZ G D'=>?_;obtain⟨rfl,L1,rfl,hL⟩:=hZ;obtain⟨x',tG⟩:=Rp.norm D' hL;rw[←a5] at tG;exact ih hD _ x' A P Fr h' g' d os aN aC hA hf tG fun so rk jM nc mi fI hZ G' D3=>kk so rk jM nc mi fI hZ (G.trans G') D3
end
inductive zM (w:WW) (aa:Heap) (X:Str) (a0:N2) (σ:gT) (SS:Str→Bool) (n:Nat):GenState→Ow→Prop where
 |fresh {L1} (hL:nL L1=gS a0 X σ.p σ.sb++[(a0 6,ah (fE (a0 0)))]) (hS:SS=fun _=>false) (hn:n=0):zM w aa X a0 σ SS n (.fresh (bR (fV w) (a0 6))) (L1++[(a0 5,cq σ.k σ.t2 σ.vs)])
 |susp {L1 k l c p' fs a p ek D} (ha:∀ i,i≤6→a i=a0 i) (hk:rV w aa a p k c fs) (hL:nL L1=gN a X σ.p σ.sb ek) (hD:eC pw w D SS n):zM w aa X a0 σ SS n (.suspended k l c p' fs false) (L1++gR a σ D)
noncomputable def dy (gi:Nat)(nm qn:Value):Obj:=⟨.type "generator",none,.fields #[.int gi 0,nm,qn],#[]⟩
noncomputable def fY (gi:Nat)(g g':Array GenState):Prop:=(∀ (i:Nat)(x:GenState),i≠gi→g[i]?=some x→g'[i]?=some x)∧(AllBare g→AllBare g')
theorem fY.trans {gi:Nat}{a b c:Array GenState}(x:fY gi a b)(y:fY gi b c):fY gi a c:=⟨fun i z n h=>y.1 i z n (x.1 i z n h),fun h=>y.2 (x.2 h)⟩
theorem bh.E2 {gi:Nat}{a b:Array GenState}(x:bh a b):fY gi a b:=⟨fun i z _ h=>x.1 i z h,x.2⟩
theorem fY.set {gi:Nat}{g:Array GenState}{x:GenState}(hx:x.bare=true):fY gi g (g.setIfInBounds gi x):=by
 refine⟨fun i y bq h=>?_,fun h y hy=>?_⟩
 ·rw[Array.getElem?_setIfInBounds_ne (Ne.symm bq)];exact h
 ·rcases Array.mem_or_eq_of_mem_setIfInBounds hy with hy|rfl
  ·exact h y hy
  ·exact hx
theorem n6 {gi:Nat}{g g':Array GenState}{x y:GenState}(hg:g[gi]?=some x) (G:bh (g.setIfInBounds gi .running) g'):(g'.setIfInBounds gi y)[gi]?=some y:=by
 have gM:gi<g.size:=(Array.getElem?_eq_some_iff.mp hg).1;have:(g.setIfInBounds gi .running)[gi]?=some .running:=by rw[Array.getElem?_setIfInBounds_self_of_lt gM]
 have h2:=G.1 gi _ this;have J3:gi<g'.size:=(Array.getElem?_eq_some_iff.mp h2).1;rw[Array.getElem?_setIfInBounds_self_of_lt J3]
theorem tS {fs:List Frame}(h:∀ f∈fs,Ba f=true):fs.any Frame.guarded=false:=by
 refine List.any_eq_false.mpr fun f hf=>?_;have y:=h f hf;cases f with
 |gen=>cases y
 |ret k h g l c p kp=>
  cases h with
  |some _=>cases y
  |none=>cases g with
   |true=>cases y
   |false=>exact Bool.false_ne_true
abbrev P (ds:LN):Str:=aj 47 ds
theorem dM (c e:Nat):∀ ds,ds≠[]→aV c (ds++[e])=aV c ds++[c,e+48]
 |[],h=>(h rfl).elim
 |[d],_=>rfl
 |d::d2::ds,_=>by
  show(d+48)::c::aV c ((d2::ds)++[e])=(d+48)::c::(aV c (d2::ds)++[c,e+48]);rw[dM c e (d2::ds) (by simp)]
theorem dW (c:Nat):∀ d ds,(aV c (d::ds)).length=2*ds.length+1
 |d,[]=>rfl
 |d,d2::ds=>by
  show(aV c (d2::ds)).length+1+1=_;rw[dW c d2 ds];simp;omega
theorem qx (d:Nat)(ds:LN):(P (d::ds)).length=2*ds.length+1:=dW 47 d ds
theorem GX (l:LN):(S l).length=l.length:=rfl
theorem subAt_one (l:LN)(c i:Nat)(hi:i<l.length):Builtin.Str.subAt (S l) (S [c]) i=(l[i]==c):=by
 unfold Builtin.Str.subAt;show((⟨l⟩:Array Nat).extract i (i+1)==(⟨[c]⟩:Array Nat))=_;have:(⟨l⟩:Array Nat).extract i (i+1)=⟨[l[i]]⟩:=by
  apply Array.ext';simp only[Array.toList_extract];rw[List.extract_eq_take_drop];simp only[Nat.add_sub_cancel_left];rw[List.take_one];simp[cy hi]
 rw[this];rw[Bool.eq_iff_iff];simp
theorem rW (c e:Nat)(ds:LN):(aV c (ds++[e])).getLast?=some (e+48):=by
 cases ds with
 |nil=>rfl
 |cons d ds=>rw[dM c e _ (by simp)];simp
theorem Cu (d:Nat)(ds:LN)(hd:d<5)(cJ:∀ x∈ds,x<5):(0+(S [47]).length≤(P (d::ds)).length&&Builtin.Str.subAt (P (d::ds)) (S [47]) ((P (d::ds)).length- (S [47]).length))=false:=by
 rw[qx];have h1:(S [47]).length=1:=rfl;rw[h1];have h3:2*ds.length+1-1<(aV 47 (d::ds)).length:=by rw[dW];omega
 rw[show P (d::ds)=S (aV 47 (d::ds)) from rfl,subAt_one _ _ _ h3];have h4:(aV 47 (d::ds)).getLast?=some ((aV 47 (d::ds))[2*ds.length+1-1]):=by
  rw[List.getLast?_eq_getElem?,dW,cy]
 obtain⟨e,eS,he⟩:∃ e eS,d::ds=eS++[e]:=⟨(d::ds).getLast (by simp),(d::ds).dropLast,(List.dropLast_concat_getLast (by simp)).symm⟩;have h5:(aV 47 (d::ds)).getLast?=some (e+48):=by rw[he];exact rW 47 e eS
 rw[h5] at h4;injection h4 with h4
 rw[←h4];have:e+48≠47:=by omega
 simp[this]
theorem GY (ds:LN)(h:ds≠[])(e:Nat):ng (P ds) (S [47,e+48])=P (ds++[e]):=by
 obtain⟨d,eS,rfl⟩:=List.exists_cons_of_ne_nil h;unfold ng;have h1:((P (d::eS)).length==0)=false:=by rw[qx];simp
 have h2:((S [47,e+48]).length==0)=false:=rfl;rw[h1,h2];simp only[Bool.false_eq_true,if_false];show(⟨(⟨aV 47 (d::eS)⟩:Array Nat)++(⟨[47,e+48]⟩:Array Nat)⟩:Str)=⟨⟨aV 47 (d::eS++[e])⟩⟩;rw[dM 47 e _ (by simp)];simp
theorem jV (l:LN)(i:Nat):StrLaws.At (S l) (S [47]) (S l).length i↔l[i]?=some 47:=by
 unfold StrLaws.At;constructor
 ·intro ⟨h1,h2⟩
  have hi:i<l.length:=by
   have:(S [47]).length=1:=rfl;rw[this,GX] at h1;omega
  rw[subAt_one _ _ _ hi] at h2;rw[cy hi];simpa using h2
 ·intro h
  obtain⟨hi,he⟩:=List.getElem?_eq_some_iff.mp h;refine⟨by show i+1≤l.length;omega,?_⟩;rw[subAt_one _ _ _ hi,he];rfl
theorem sS (d:Nat)(hd:d<5):pP (P [d])= -1:=by
 unfold pP;rcases StrLaws.last_spec (P [d]) (S [47]) with⟨h,_⟩|⟨i,h,h2,_⟩
 ·rw[h]
 ·exfalso
  have:=(jV [d+48] i).mp h2;cases i with
  |zero=>simp at this
  |succ i=>simp at this
theorem qy (ds:LN)(h:ds≠[])(cJ:∀ x∈ds,x<5)(e:Nat)(he:e<5):pP (P (ds++[e]))=((2*ds.length-1:Nat):Int):=by
 obtain⟨d,eS,rfl⟩:=List.exists_cons_of_ne_nil h;have hl:(aV 47 (d::eS)).length=2*eS.length+1:=dW 47 d eS;have hj:aV 47 (d::eS++[e])=aV 47 (d::eS)++[47,e+48]:=dM 47 e _ (by simp);have Bk:(aV 47 (d::eS++[e]))[2*eS.length+1]?=some 47:=by
  rw[hj,List.getElem?_append_right (by omega),hl];simp
 have hlen:2*(d::eS).length-1=2*eS.length+1:=by simp;omega
 rw[hlen];unfold pP;rcases StrLaws.last_spec (P (d::eS++[e])) (S [47]) with⟨_,h2⟩|⟨i,h1,h2,h3⟩
 ·exact(h2 _ ((jV _ _).mpr Bk)).elim
 ·rw[h1]
  have rI:=(jV _ _).mp h2;have:i=2*eS.length+1:=by
   rcases Nat.lt_trichotomy i (2*eS.length+1) with gM|heq|Qt
   ·exact(h3 _ gM ((jV _ _).mpr Bk)).elim
   ·exact heq
   ·rw[hj,List.getElem?_append_right (by omega),hl] at rI
    have:i- (2*eS.length+1)=1∨2≤i- (2*eS.length+1):=by omega
    rcases this with q|q
    ·rw[q] at rI;simp at rI
    ·rw[eU (by simp;omega)] at rI;cases rI
  rw[this]
theorem range_one (a b:Nat):sliceRange (a:Int) (b:Int) 1=(List.range (b-a)).map (·+a):=by
 unfold sliceRange;simp only[show(1:Int)>0 from by decide,if_true];have hc:(if(a:Int)<(b:Int) then((b:Int)-a+1-1) / 1 else 0).toNat=b-a:=by
  split
  ·rw[Int.ediv_one];omega
  ·omega
 rw[hc];refine List.map_congr_left fun k _=>?_;omega
theorem wq (j n:Nat)(hj:j≤n):Builtin.Str.strSliceIndices (some (j:Int)) none 1 n=(List.range (n-j)).map (·+j):=by
 unfold Builtin.Str.strSliceIndices;simp only[show(1:Int)>0 from by decide,if_true];have h1:¬ ((j:Int)<0):=by omega
 rw[if_neg h1];have e1:max 0 (min (j:Int) n)=(j:Int):=by omega
 rw[e1,range_one]
theorem Cv (j n:Nat)(hj:j≤n):Builtin.Str.strSliceIndices none (some (j:Int)) 1 n=List.range j:=by
 unfold Builtin.Str.strSliceIndices;simp only[show(1:Int)>0 from by decide,if_true];have h1:¬ ((j:Int)<0):=by omega
 rw[if_neg h1];have e1:max 0 (min (j:Int) n)=(j:Int):=by omega
 rw[e1];have:=range_one 0 j;simpa using this
theorem cg {α β:Type}{f g:α→Option β}:∀ {l:List α},(∀ a∈l,f a=g a)→l.filterMap f=l.filterMap g
 |[],_=>rfl
 |a::l,h=>by
  rw[List.filterMap_cons,List.filterMap_cons,h a (.head _),cg fun b hb=>h b (.tail _ hb)]
theorem n7 (l:LN)(j:Nat):((List.range (l.length-j)).map (·+j)).filterMap ((⟨l⟩:Array Nat)[·]?)=l.drop j:=by
 rw[List.filterMap_map];have key:∀ (l:LN),(List.range l.length).filterMap (fun i=>l[i]?)=l:=by
  intro l
  induction l with
  |nil=>rfl
  |cons a l ih=>
   rw[dS,List.range_succ_eq_map,List.filterMap_cons];simp only[List.getElem?_cons_zero,List.filterMap_map];congr 1
 have h:=key (l.drop j);rw[List.length_drop] at h;rw[←h];refine cg fun i _=>?_;show(⟨l⟩:Array Nat)[i+j]?=(List.drop j l)[i]?
 rw[List.getElem?_drop,Nat.add_comm];simp
theorem tT (l:LN)(j:Nat)(hj:j≤l.length):(List.range j).filterMap ((⟨l⟩:Array Nat)[·]?)=l.take j:=by
 have h:=n7 (l.take j) 0;rw[dR,Nat.min_eq_left hj,List.drop_zero] at h;have h2:(List.range j).map (·+0)=List.range j:=by simp
 rw[Nat.sub_zero,h2] at h;rw[←h];refine cg fun i hi=>?_;have hi:i<j:=List.mem_range.mp hi;show(⟨l⟩:Array Nat)[i]?=(⟨l.take j⟩:Array Nat)[i]?
 simp only[List.getElem?_toArray];rw[List.getElem?_take,if_pos hi]
theorem kO (l:LN)(j:Nat)(hj:j≤l.length):cu (S l) (some (j:Int)) none=S (l.drop j):=by
 unfold cu;have hn:(S l).length=l.length:=rfl;rw[hn,wq j _ hj];split
 ·rename_i h
  have h:((List.range (l.length-j)).map (·+j)).length=l.length:=by simpa using h
  rw[bU,List.length_range] at h;cases j with
  |zero=>rfl
  |succ j=>
   have:l=[]:=List.eq_nil_of_length_eq_zero (by omega);subst this;rfl
 ·show(⟨⟨_⟩⟩:Str)=⟨⟨_⟩⟩
  rw[show(S l).cps=(⟨l⟩:Array Nat) from rfl,n7]
theorem n8 (l:LN)(j:Nat)(hj:j≤l.length):cu (S l) none (some (j:Int))=S (l.take j):=by
 unfold cu;have hn:(S l).length=l.length:=rfl;rw[hn,Cv j _ hj];split
 ·rename_i h
  have h:(List.range j).length=l.length:=by simpa using h
  rw[List.length_range] at h;rw[h,List.take_length]
 ·show(⟨⟨_⟩⟩:Str)=⟨⟨_⟩⟩
  rw[show(S l).cps=(⟨l⟩:Array Nat) from rfl,tT _ _ hj]
theorem gW (ds:LN)(cJ:∀ x∈ds,x<5)(e:Nat)(he:e<5):fX (P (ds++[e]))=ao e:=by
 unfold fX;cases ds with
 |nil=>
  have:pP (P ([]++[e]))+1=((0:Nat):Int):=by rw[List.nil_append,sS e he];rfl
  rw[this];exact kO (aV 47 ([]++[e])) 0 (bZ _)
 |cons d ds=>
  have:pP (P (d::ds++[e]))+1=((2*(d::ds).length:Nat):Int):=by
   rw[qy (d::ds) (by simp) cJ e he];simp;omega
  rw[this];have hl:(aV 47 (d::ds)).length=2*ds.length+1:=dW 47 d ds;have hj:aV 47 (d::ds++[e])=aV 47 (d::ds)++[47,e+48]:=dM 47 e _ (by simp);show cu (S (aV 47 (d::ds++[e]))) _ _=_;rw[kO _ _ (by rw[hj,List.length_append,hl];simp;omega),hj,List.drop_append,List.drop_eq_nil_of_le (by rw[hl];simp;omega),hl];have:2*(d::ds).length- (2*ds.length+1)=1:=by simp;omega
  rw[this];rfl
section
variable {prog:Program}{w:WW}{aa:Heap}
theorem i3 {h:Heap}{L:Ow}{size:Nat}{a:Nat}{vs:LV}{e:Nat}(D:Rp aa h L size)(hm:(a,ab vs e)∈L):h.IsList a ⟨vs⟩:=⟨_,D.get hm (fun _=>rfl),rfl,e,rfl⟩
theorem tU (a:Nat)(vs:LV)(e:Nat)(k:Int)(t:Tok)(v:Value)(h0:0≤k)(hk:k<1000)(hv:vs[k.toNat]?=some v):
  d3 prog w aa 0 (.call (.builtin "list.__getitem__") ⟨[.ref a,.int k t],[]⟩) [(a,ab vs e)] (fun r L=>r=.ok (.ret v)∧L=[(a,ab vs e)]):=by
 intro A R Fr h g d os tok size hA hD kk;have hl:=i3 hD (.head _);obtain⟨o,ho,hc,ne,hd⟩:=id hl;have wu:Builtin.List.listFitsIndex k=true:=fitsIndex_of h0 (by omega);refine codeAny_call_builtin PySem.slot_list_getitem.plain PySem.entry_list_getitem (PySem.slot_list_getitem.check _ _ _ _ _ _ _ _ (hl.typeIs (s:=⟨h,g,d,tok,os⟩)) (PySem.args_list_getitem _ _) ?_);show wpAny _ _ (Builtin.List.listSubscript? (.int k t)>>=_) _ _ _;refine aw (wpAny_listSubscript_int wu ?_);clear wu hk;obtain⟨j,rfl⟩:=Int.eq_ofNat_of_zero_le h0;have hx:(⟨vs⟩:Array Value)[j]?=some v:=by simpa using hv
 have key:=kk (.ok (.ret v)) [(a,ab vs e)] h g tok size ⟨rfl,rfl⟩ (bh.refl _) hD;show wpAny _ _ ((seqItemAt a j>>=fun r=>pure (r.map (j,·)))>>=_) _ _ _;refine aw (aw (wpAny_seqItemAt ho hd (aG ?_)));rw[hx]
 first
  |exact aw (aG (aG key))
  |exact aG key
theorem wx (a:Nat)(vs:LV)(e:Nat)(k:Nat)(t:Tok)(v:Value)(hk:k<1000)(hv:vs[k]?=some v):
  d3 prog w aa 0 (.call (.builtin "list.__getitem__") ⟨[.ref a,.int k t],[]⟩) [(a,ab vs e)] (fun r L=>r=.ok (.ret v)∧L=[(a,ab vs e)]):=
 tU a vs e k t v (by omega) (by omega) (by simpa using hv)
theorem tV (a:Nat)(vs:LV)(e:Nat)(t:Tok)(v:Value)(hv:vs.getLast?=some v):
  d3 prog w aa 0 (.call (.builtin "list.__getitem__") ⟨[.ref a,.int (-1) t],[]⟩) [(a,ab vs e)] (fun r L=>r=.ok (.ret v)∧L=[(a,ab vs e)]):=by
 intro A R Fr h g d os tok size hA hD kk;have hl:=i3 hD (.head _);obtain⟨o,ho,hc,ne,hd⟩:=id hl;have bq:vs≠[]:=fun q=>by rw[q] at hv;cases hv
 have hlen:0<vs.length:=List.length_pos_iff.mpr bq;have hs:(⟨vs⟩:Array Value).size=vs.length:=rfl;refine codeAny_call_builtin PySem.slot_list_getitem.plain PySem.entry_list_getitem (PySem.slot_list_getitem.check _ _ _ _ _ _ _ _ (hl.typeIs (s:=⟨h,g,d,tok,os⟩)) (PySem.args_list_getitem _ _) ?_);show wpAny _ _ (Builtin.List.listSubscript? (.int (-1) t)>>=_) _ _ _;refine aw (wpAny_listSubscript_int (fitsIndex_neg (by decide) (by decide)) ?_);have J4:seqIndex? (-1) (⟨vs⟩:Array Value).size=some (-1+((⟨vs⟩:Array Value).size:Int)).toNat:=seqIndex_neg (by decide) (by rw[hs];omega);have hx:(⟨vs⟩:Array Value)[(-1+((⟨vs⟩:Array Value).size:Int)).toNat]?=some v:=by
  rw[List.getLast?_eq_getElem?] at hv;rw[hs];have:(-1+(vs.length:Int)).toNat=vs.length-1:=by omega
  rw[this];simpa using hv
 show wpAny _ _ ((Builtin.List.listItems (.ref a)>>=fun xs=>pure ((seqIndex? (-1) xs.size).bind fun i=>xs[i]?.map (i,·)))>>=_) _ _ _
 refine aw (aw ?_);show wpAny _ _ (seqItems? (.ref a)>>=_) _ _ _;refine aw (wpAny_seqItems ho hd (aG (aG ?_)));have hit:(⟨vs⟩:Array Value)[(-1+((⟨vs⟩:Array Value).size:Int)).toNat]?=some v:=hx
 rw[show seqIndex? (-1) (⟨vs⟩:Array Value).size=_ from J4];simp only[Option.bind_some];rw[hit];have key:=kk (.ok (.ret v)) [(a,ab vs e)] h g tok size ⟨rfl,rfl⟩ (bh.refl _) hD
 first
  |exact aw (aG (aG key))
  |exact aG key
noncomputable def Cw (l u s:Option Int):Obj:=⟨.type "slice",none,.fields ⟨[iq l,iq u,iq s]⟩,#[]⟩
theorem jz (t:Tok)(p:Option Int):IsPart (aZ t (iq p)) p:=by
 cases p with
 |none=>exact .none
 |some i=>exact .int i t
theorem zN (a sl:Nat)(vs ws:LV)(e:Nat)(lo hi st:Option Int)(vl vu E3:Value)(pl:IsPart vl lo)(pu:IsPart vu hi)(ps:IsPart E3 st)(h0:st≠some 0)(hw:(slicePick ⟨vs⟩ lo hi st).toList=ws)(hb:vs.length≤1000):
  d3 prog w aa 0 (.call (.builtin "list.__getitem__") ⟨[.ref a,.ref sl],[]⟩) [(sl,⟨.type "slice",none,.fields ⟨[vl,vu,E3]⟩,#[]⟩),(a,ab vs e)] (fun r L=>∃ b,r=.ok (.ret (.ref b))∧L=[(b,ab ws 0),(sl,⟨.type "slice",none,.fields ⟨[vl,vu,E3]⟩,#[]⟩),(a,ab vs e)]):=by
 intro A R Fr h g d os tok size hA hD kk;have hl:=i3 hD (.tail _ (.head _));obtain⟨o,ho,hc,ne,hd⟩:=id hl;have I8:h.get? sl=some ⟨.type "slice",none,.fields ⟨[vl,vu,E3]⟩,#[]⟩:=hD.get (.head _) (fun _=>rfl);have MM:(⟨h,g,d,tok,os⟩:Shared).TypeIs (.ref sl) "slice":=⟨_,I8,rfl⟩;refine codeAny_call_builtin PySem.slot_list_getitem.plain PySem.entry_list_getitem (PySem.slot_list_getitem.check _ _ _ _ _ _ _ _ (hl.typeIs (s:=⟨h,g,d,tok,os⟩)) (PySem.args_list_getitem _ _) ?_);show wpAny _ _ (Builtin.List.listSubscript? (.ref sl)>>=_) _ _ _;refine aw ?_;unfold Builtin.List.listSubscript?;refine aw (wpAny_specialOf MM slice_no_index ?_);simp only[Option.isNone_none,if_true];refine aG ?_;show wpAny _ _ (typeOf (.ref sl)>>=_) _ _ _;refine aw (wpAny_typeOf MM ?_);rw[if_neg (by decide)];rw[listSliceParts_eq];have GZ:¬ ((PySem.rawPart st==rawInt 0)=true):=by
  cases st with
  |none=>exact Bool.false_ne_true
  |some c=>
   intro hh;have:c=0:=by simpa [PySem.rawPart,rawInt] using hh
   exact h0 (by rw[this])
 refine aw (aw (wpAny_field I8 rfl (x:=E3) rfl (aw (wpAny_listPart ps ?_))));rw[if_neg GZ];refine aw (wpAny_field I8 rfl (x:=vl) rfl (aw (wpAny_listPart pl ?_)));refine aw (wpAny_field I8 rfl (x:=vu) rfl (aw (wpAny_listPart pu (aG ?_))));refine aw (m:=Builtin.List.listItems (.ref a)) ?_;unfold Builtin.List.listItems;refine aw (wpAny_seqItems ho hd (aG ?_));refine aw (wpAny_of_eq (sliceIndices_raw lo hi st _ h0) ?_);have E4:(slicePick (⟨vs⟩:Array Value) lo hi st).size≤sizeLine:=by
  have:=slicePick_size_le (⟨vs⟩:Array Value) lo hi st;have hs:(⟨vs⟩:Array Value).size=vs.length:=rfl;unfold sizeLine;omega
 refine aw (wpAny_newObj_type ?_ E4);have D2:=hD.alloc (o:=ab ws 0) rfl;have key:=kk (.ok (.ret (.ref size))) ((size,ab ws 0)::[(sl,⟨.type "slice",none,.fields ⟨[vl,vu,E3]⟩,#[]⟩),(a,ab vs e)]) (h.push (ab ws 0)) g tok (size+1) ⟨size,rfl,rfl⟩ (bh.refl _) D2;have es:h.objs.size=size:=hD.sz;have ew:({cls:=.type "list",data:=.seq (slicePick (⟨vs⟩:Array Value) lo hi st)}:Obj)=ab ws 0:=by
  rw[←hw];rfl
 have J5:R (.ok (.ret (.ref h.objs.size))) ⟨h.push {cls:=.type "list",data:=.seq (slicePick (⟨vs⟩:Array Value) lo hi st)},g,d,tok,os⟩:=by
  rw[es,ew];exact key
 exact aG J5
def aY (vs:LV)(k:Nat)(v:Value)(hk:k<1000)(hv:vs[k]?=some v):Ent prog w aa:=fB 0 true true 0 (fun c rs=> .call (.builtin "list.__getitem__") ⟨[.ref (adr rs 0),.int k (cD (gB c 1))],[]⟩) (fun _ _=>[]) (fun _ rs=>[(adr rs 0,ab vs (aH rs 0))])
 (fun _ _ _=> .ok (.ret v)) (fun _ _ _=>[]) (fun _ rs _=>[(adr rs 0,ab vs (aH rs 0))]) fun c rs=>fU (wx _ vs _ k _ v hk hv)
def jW (vs:LV)(v:Value)(hv:vs.getLast?=some v):Ent prog w aa:=fB 0 true true 0 (fun c rs=> .call (.builtin "list.__getitem__") ⟨[.ref (adr rs 0),.int (-1) (cD (gB c 1))],[]⟩) (fun _ _=>[]) (fun _ rs=>[(adr rs 0,ab vs (aH rs 0))])
 (fun _ _ _=> .ok (.ret v)) (fun _ _ _=>[]) (fun _ rs _=>[(adr rs 0,ab vs (aH rs 0))]) fun c rs=>fU (tV _ vs _ _ v hv)
def gj (vs ws:LV)(lo hi st:Option Int)(h0:st≠some 0)(hw:(slicePick ⟨vs⟩ lo hi st).toList=ws)(hb:vs.length≤1000):Ent prog w aa:=
 fB 0 true true 1 (fun _ rs=> .call (.builtin "list.__getitem__") ⟨[.ref (adr rs 1),.ref (adr rs 0)],[]⟩) (fun _ rs=>[(adr rs 0,Cw lo hi st)]) (fun _ rs=>[(adr rs 1,ab vs (aH rs 1))])
  (fun _ _ b=> .ok (.ret (.ref (b 0)))) (fun _ _ _=>[]) (fun _ rs b=>[(b 0,ab ws 0),(adr rs 1,ab vs (aH rs 1))]) fun c rs t x=>by
   have z:=zN (aa:=aa) (prog:=prog) (w:=w) (adr rs 1) (adr rs 0) vs ws (aH rs 1) lo hi st (aZ ((x 0).v 0) (iq lo)) (aZ ((x 0).v 1) (iq hi)) (aZ ((x 0).v 2) (iq st)) (jz _ _) (jz _ _) (jz _ _) h0 hw hb;intro A R Fr h g d os tok size hA hD kk;refine z A R Fr h g d os tok size hA hD fun r L h' g' aN aC hP G D'=>?_;obtain⟨b,rfl,rfl⟩:=hP;refine kk _ [(b,ab ws 0),(adr rs 1,ab vs (aH rs 1))] h' g' aN aC ⟨fun _=>b,[],rfl,rfl,rfl⟩ G (D'.sub ?_);exact((List.sublist_cons_self _ _).cons_cons _).append (List.Sublist.refl Fr)
end
def Bl (X Z:Str)(e m:Nat)(a:N2):SX Code Result:=sC (.call (.ref 178) ⟨[.str X 0,.str (S [e+48]) 0],[]⟩) [] [] (fun b f=> .ok (.ret (.str Z 0)))
section
variable (b1 b2:Bool){w:WW}{aa:Heap}(B:BB w aa b1 b2)
include B
theorem join (X Z:Str)(e m:Nat)(hn:X.length=m+1)(hm:m+1<2^60)(he:(0+(S [47]).length≤X.length&&Builtin.Str.subAt X (S [47]) (X.length- (S [47]).length))=false)(hz:ng X (S [47,e+48])=Z)(hZ:Z.length≤1000)(a:N2){frx:OE}:eP w aa b1 b2 1 frx false false (Bl X Z e m a):=
 tX B aO.none (ol 0x1111ba1ac11baa1bb11aa1aaaabbb1111bb233a3ac11baa1aabbbbbbbb44444455b5b1b1b1b1161155a5ac11baa1bb11aa1aaaabbb1111bb27777bb7 (.u [] (jN X (m+1) hn hm)::(ol 0x77 (.u [] (B0 X (S [47]) false he)::(ol 0x777bb (.u [] (Gs X (S [47,e+48]) Z hz hZ)::(ol 0x77b3b3b338331b9 []))))))) z2 z3 [] 10 0
def wz {b1 b2:Bool}{w:WW}{aa:Heap}(B:BB w aa b1 b2)(X Z:Str)(e m:Nat)(hn:X.length=m+1)(hm:m+1<2^60)(he:(0+(S [47]).length≤X.length&&Builtin.Str.subAt X (S [47]) (X.length- (S [47]).length))=false)(hz:ng X (S [47,e+48])=Z)(hZ:Z.length≤1000):gw w aa b1 b2:=tO 1 false false 0 none (fun cc rr=>Bl X Z e m (adr rr)) fun cc rr=>join b1 b2 B X Z e m hn hm he hz hZ (adr rr)
def Bm (X:Str)(p:Nat)(sb:Bool)(vs:LV)(k:Int)(t2:Tok)(s:Str)(t3:Tok)(a:N2):SX Code Result:=sB (.call (.ref 819) ⟨[.ref (a 0),.str s t3],[]⟩) [(a 0,aX 880 (a 1)),(a 1,ak (cM (a 2) (a 5) (a 4) (lT sb) (sV []))),(a 2,aX 745 (a 3)),(a 3,ak (b5 X (p:Nat))),(a 4,bK 0 [])] [(a 5,cq k t2 vs)] (fun b f=> .ok (.ret .none)) (fun b f=>[(a 5,cq (k+1) 0 (.str s t3::vs))])
theorem push (X:Str)(p:Nat)(sb:Bool)(vs:LV)(k:Int)(t2:Tok)(s:Str)(t3:Tok)(hb:vs.length≤1000)(a:N2){frx:OE}:eP w aa b1 b2 1 frx true false (Bm X p sb vs k t2 s t3 a):=
 tX B aO.none (ol 0x1111b12aaab2aaa22a3bb12aaab2aaa22a377771b7 (.u [6] (Gr vs hb)::[])) z2 z3 [2,2,2,2,2,0] 1 5 fun t x X Fr=>by revert b1 b2 sb;exact EX (by kernel_rfl)
def wA {b1 b2:Bool}{w:WW}{aa:Heap}(B:BB w aa b1 b2)(X:Str)(p:Nat)(sb:Bool)(vs:LV)(hb:vs.length≤1000):gw w aa b1 b2:=tO 1 true false 5 none (fun cc rr=>Bm X p sb vs (eN (bx rr 5 1)) (cD (bx rr 5 1)) (strN (gB cc 1)) (cD (gB cc 1)) (adr rr)) fun cc rr=>push b1 b2 B X p sb vs (eN (bx rr 5 1)) (cD (bx rr 5 1)) (strN (gB cc 1)) (cD (gB cc 1)) hb (adr rr)
def zO (ww:WW)(X Z:Str)(m e:Nat)(vs:LV)(i:Nat)(t0:Tok)(TS:Str)(p:Nat)(sb:Bool)(k:Int)(t2:Tok)(dq:LV)(ta la tl ep:Nat)(a:N2):SX Code Code:=⟨ni ww (a 7) (a 5),[(a 0,aX 880 (a 1)),(a 1,ak (cM (a 2) (a 6) (a 4) (lT sb) (sV []))),(a 2,aX 745 (a 3)),(a 3,ak (b5 TS (p:Nat))),(a 4,bK 0 []),(a 5,ah (ez ta la (a 0) tl (some (X,none))))],[(a 6,cq k t2 dq),(a 7,aq (a 8) i),(a 8,ab vs ep)],fun b f=>ni ww (a 7) (a 5),fun b f=>[(a 0,aX 880 (a 1)),(a 1,ak (cM (a 2) (a 6) (a 4) (lT sb) (sV []))),(a 2,aX 745 (a 3)),(a 3,ak (b5 TS (p:Nat))),(a 4,bK 0 []),(a 5,ah (ez ta la (a 0) tl (some (X,some e))))],fun b f=>[(a 6,cq (k+1) 0 (.str Z (b 1000)::dq)),(a 7,aq (a 8) (i+1)),(a 8,ab vs ep)]⟩
theorem Cx (X Z:Str)(m e:Nat)(vs:LV)(i:Nat)(t0:Tok)(TS:Str)(p:Nat)(sb:Bool)(k:Int)(t2:Tok)(dq:LV)(ta la tl ep:Nat)(J6:e<5)(hn:X.length=m+1)(hm:m+1<2^60)(he:(0+(S [47]).length≤X.length&&Builtin.Str.subAt X (S [47]) (X.length- (S [47]).length))=false)(hz:ng X (S [47,e+48])=Z)(hZ:Z.length≤1000)(hx:vs[i]?=some (.int e t0)) (hb:dq.length≤1000) (a:N2):eR w aa b1 b2 2 true (zO (wd w b1 b2) X Z m e vs i t0 TS p sb k t2 dq ta la tl ep a):=
 eO B (ol 0x8b8 (.u [7,7] (bQ vs i (.int e t0) hx)::(ol 0x8883aaa3aaa3aaaa34a8aa8 (.u [] (jt B e J6)::(ol 0xa (.u [] (wz B X Z e m hn hm he hz hZ)::(ol 0xa (.u [2,2,2,2,2,3] (wA B TS p sb dq hb)::(ol 0xd []))))))))) (fe [(14,0)]) z3 [0,0,0,0,0,3,0,0,0] 0 6 fun t x X Fr=>by revert b1 b2 sb;exact EX (by kernel_rfl)
def Cy (ww:WW)(X Z:Str)(m e:Nat)(vs:LV)(i:Nat)(t0:Tok)(TS:Str)(p:Nat)(sb:Bool)(k:Int)(t2:Tok)(dq:LV)(ta la tl ep:Nat)(d2:Nat)(a:N2):SX Code Code:=⟨ni ww (a 7) (a 5),[(a 0,aX 880 (a 1)),(a 1,ak (cM (a 2) (a 6) (a 4) (lT sb) (sV []))),(a 2,aX 745 (a 3)),(a 3,ak (b5 TS (p:Nat))),(a 4,bK 0 []),(a 5,ah (ez ta la (a 0) tl (some (X,some d2))))],[(a 6,cq k t2 dq),(a 7,aq (a 8) i),(a 8,ab vs ep)],fun b f=>ni ww (a 7) (a 5),fun b f=>[(a 0,aX 880 (a 1)),(a 1,ak (cM (a 2) (a 6) (a 4) (lT sb) (sV []))),(a 2,aX 745 (a 3)),(a 3,ak (b5 TS (p:Nat))),(a 4,bK 0 []),(a 5,ah (ez ta la (a 0) tl (some (X,some e))))],fun b f=>[(a 6,cq (k+1) 0 (.str Z (b 1000)::dq)),(a 7,aq (a 8) (i+1)),(a 8,ab vs ep)]⟩
theorem G0 (X Z:Str)(m e:Nat)(vs:LV)(i:Nat)(t0:Tok)(TS:Str)(p:Nat)(sb:Bool)(k:Int)(t2:Tok)(dq:LV)(ta la tl ep:Nat)(d2:Nat)(J6:e<5)(hn:X.length=m+1)(hm:m+1<2^60)(he:(0+(S [47]).length≤X.length&&Builtin.Str.subAt X (S [47]) (X.length- (S [47]).length))=false)(hz:ng X (S [47,e+48])=Z)(hZ:Z.length≤1000)(hx:vs[i]?=some (.int e t0)) (hb:dq.length≤1000) (a:N2):eR w aa b1 b2 2 true (Cy (wd w b1 b2) X Z m e vs i t0 TS p sb k t2 dq ta la tl ep d2 a):=
 eO B (ol 0x8b8 (.u [7,7] (bQ vs i (.int e t0) hx)::(ol 0x8883aaa3aaa3aaaa34a8aa8 (.u [] (jt B e J6)::(ol 0xa (.u [] (wz B X Z e m hn hm he hz hZ)::(ol 0xa (.u [2,2,2,2,2,3] (wA B TS p sb dq hb)::(ol 0xd []))))))))) (fe [(14,0)]) z3 [0,0,0,0,0,3,0,0,0] 0 6 fun t x X Fr=>by revert b1 b2 sb;exact EX (by kernel_rfl)
def zQ (ww:WW)(X:Str)(vs:LV)(i:Nat)(TS:Str)(p:Nat)(sb:Bool)(k:Int)(t2:Tok)(dq:LV)(ta la tl ep:Nat)(a:N2):SX Code Result:=sB (ni ww (a 7) (a 5)) [(a 0,aX 880 (a 1)),(a 1,ak (cM (a 2) (a 6) (a 4) (lT sb) (sV []))),(a 2,aX 745 (a 3)),(a 3,ak (b5 TS (p:Nat))),(a 4,bK 0 []),(a 5,ah (ez ta la (a 0) tl (some (X,none))))] [(a 6,cq k t2 dq),(a 7,aq (a 8) i),(a 8,ab vs ep)] (fun b f=> .ok .next) (fun b f=>[(a 6,cq k t2 dq)])
theorem Cz (X:Str)(vs:LV)(i:Nat)(TS:Str)(p:Nat)(sb:Bool)(k:Int)(t2:Tok)(dq:LV)(ta la tl ep:Nat)(hx:vs[i]?=none) (a:N2) {frx:OE}:eP w aa b1 b2 2 frx true false (zQ (wd w b1 b2) X vs i TS p sb k t2 dq ta la tl ep a):=
 tX B aO.none (ol 0x8b8 (.u [7,7] (bA vs i hx)::(ol 0x1b []))) z2 z3 [3,3,3,3,3,3,3] 3 6 fun t x X Fr=>by revert b1 b2 sb;exact EX (by kernel_rfl)
def CA (ww:WW)(X:Str)(vs:LV)(i:Nat)(TS:Str)(p:Nat)(sb:Bool)(k:Int)(t2:Tok)(dq:LV)(ta la tl ep:Nat)(d2:Nat)(a:N2):SX Code Result:=sB (ni ww (a 7) (a 5)) [(a 0,aX 880 (a 1)),(a 1,ak (cM (a 2) (a 6) (a 4) (lT sb) (sV []))),(a 2,aX 745 (a 3)),(a 3,ak (b5 TS (p:Nat))),(a 4,bK 0 []),(a 5,ah (ez ta la (a 0) tl (some (X,some d2))))] [(a 6,cq k t2 dq),(a 7,aq (a 8) i),(a 8,ab vs ep)] (fun b f=> .ok .next) (fun b f=>[(a 6,cq k t2 dq)])
theorem G5 (X:Str)(vs:LV)(i:Nat)(TS:Str)(p:Nat)(sb:Bool)(k:Int)(t2:Tok)(dq:LV)(ta la tl ep:Nat)(d2:Nat)(hx:vs[i]?=none) (a:N2) {frx:OE}:eP w aa b1 b2 2 frx true false (CA (wd w b1 b2) X vs i TS p sb k t2 dq ta la tl ep d2 a):=
 tX B aO.none (ol 0x8b8 (.u [7,7] (bA vs i hx)::(ol 0x1b []))) z2 z3 [3,3,3,3,3,3,3] 3 6 fun t x X Fr=>by revert b1 b2 sb;exact EX (by kernel_rfl)
end
def Bn (a:N2)(TX:Str)(p:Nat)(sb:Bool)(ta la tl:Nat)(X:Str)(ob:ON):Ow:=
 [(a 0,aX 880 (a 1)),(a 1,ak (cM (a 2) (a 6) (a 4) (lT sb) (sV []))),(a 2,aX 745 (a 3)),(a 3,ak (b5 TX p)),(a 4,bK 0 []),(a 5,ah (ez ta la (a 0) tl (some (X,ob))))]
theorem jc {α β:Type}(f:α→β)(R:List α)(i:Nat)(h:i<R.length):(R.take (i+1)).reverse.map f=f R[i]::(R.take i).reverse.map f:=by
 rw[dv h,List.reverse_append];rfl
noncomputable def iy (ob:ON)(R:LN):ON:=match R.getLast? with
 |some b=>some b
 |none=>ob
section
variable (b1 b2:Bool){w:WW}{aa:Heap}(B:BB w aa b1 b2)
include B
theorem tW (a:N2)(TX:Str)(p:Nat)(sb:Bool)(ta la tl ep:Nat)(ds:LN)(bq:ds≠[])(cJ:∀ x∈ds,x<5)(mj:ds.length≤50)(R:LN)(hR:∀ x∈R,x<5)(τ:NT)(qs:List Str)(hq:qs.length+R.length≤900)(k:Int):
  ∀ n i (ob:ON)(t2:Tok)(τ2:NT) x,i+n=R.length→
   d3 pw (wd w b1 b2) aa 2 (ni (wd w b1 b2) (a 7) (a 5)) (rt (Bn a TX p sb ta la tl (P ds) ob) x++[(a 6,cq (k+i) t2 (ag ((R.take i).reverse.map (fun b=>P (ds++[b]))++qs) τ2)),(a 7,aq (a 8) i),(a 8,ab (af R τ) ep)])
    (fun r L=>∃ t2 τ2 L1,r=.ok .next∧nL L1=Bn a TX p sb ta la tl (P ds) (iy ob (R.drop i))∧L=L1++[(a 6,cq (k+R.length) t2 (ag (R.reverse.map (fun b=>P (ds++[b]))++qs) τ2))]):=by
 intro n
 induction n with
 |zero=>
  intro i ob t2 τ2 x hi;have hx:(af R τ)[i]?=none:=cF _ _ _ (eU (by omega))
  have hd:iy ob (R.drop i)=ob:=by rw[List.drop_eq_nil_of_le (by omega)];rfl
  have ht:R.take i=R:=fT (by omega);have J7:i=R.length:=by omega
  rw[hd,ht];cases ob with
  |none=>
   refine((Cz b1 b2 B (P ds) (af R τ) i TX p sb (k+i) t2 (ag (R.reverse.map (fun b=>P (ds++[b]))++qs) τ2) ta la tl ep hx a).g (fun _=>0) x).mono lr fun r L hP=>?_;obtain⟨b,L1,hL,hr,hn⟩:=hP;refine⟨t2,τ2,L1,?_,hn,by rw[hL,J7]⟩;cases r with
   |error e=>cases hr
   |ok f=>cases f<;>first|rfl|cases hr
  |some d2=>
   refine((G5 b1 b2 B (P ds) (af R τ) i TX p sb (k+i) t2 (ag (R.reverse.map (fun b=>P (ds++[b]))++qs) τ2) ta la tl ep d2 hx a).g (fun _=>0) x).mono lr fun r L hP=>?_;obtain⟨b,L1,hL,hr,hn⟩:=hP;refine⟨t2,τ2,L1,?_,hn,by rw[hL,J7]⟩;cases r with
   |error e=>cases hr
   |ok f=>cases f<;>first|rfl|cases hr
 |succ n ih=>
  intro i ob t2 τ2 x hi;have gM:i<R.length:=by omega
  obtain⟨d,eS,rfl⟩:=List.exists_cons_of_ne_nil bq;have hx:(af R τ)[i]?=some (.int R[i] (τ i)):=cf _ _ _ _ (cy gM)
  have he:=Cu d eS (cJ d (.head _)) (fun x hx=>cJ x (.tail _ hx));have hz:=GY (d::eS) bq R[i];have hZ:(P (d::eS++[R[i]])).length≤1000:=by
   have q:(P (d::eS++[R[i]])).length≤2*(d::eS++[R[i]]).length:=fi 47 _;simp only[List.length_append,dS,List.length_nil] at q mj;omega
  have hb:(ag ((R.take i).reverse.map (fun b=>P (d::eS++[b]))++qs) τ2).length≤1000:=by
   rw[aI,List.length_append,bU,List.length_reverse,dR];omega
  have G7:R.drop i=R[i]::R.drop (i+1):=List.drop_eq_getElem_cons gM;have iz:iy ob (R.drop i)=iy (some R[i]) (R.drop (i+1)):=by
   rw[G7];unfold iy;cases hd:R.drop (i+1) with
   |nil=>rfl
   |cons y ys=>rw[List.getLast?_cons_cons,List.getLast?_eq_some_getLast (List.cons_ne_nil y ys)]
  have Bo:=fun(b:Nat) x'=>ih (i+1) (some R[i]) 0 (fun j=>match j with|0=>b|j+1=>τ2 j) x' (by omega);have Bp:k+(i:Int)+1=k+((i+1:Nat):Int):=by omega
  rw[iz];refine aJ.t ?_;cases ob with
  |none=>
   refine(Cx b1 b2 B (P (d::eS)) (P (d::eS++[R[i]])) (2*eS.length) R[i] (af R τ) i (τ i) TX p sb (k+i) t2 (ag ((R.take i).reverse.map (fun b=>P (d::eS++[b]))++qs) τ2) ta la tl ep (hR _ (List.getElem_mem gM)) (qx d eS) (by simp only[dS] at mj;omega) he hz hZ hx hb a).z lr (fun b f x'=>?_) (fun _=>0) x;have y:=(Bo (b 1000) x').f (fr:=none);rw[jc (fun b=>P (d::eS++[b])) R i gM,←Bp] at y;exact y
  |some d2=>
   refine(G0 b1 b2 B (P (d::eS)) (P (d::eS++[R[i]])) (2*eS.length) R[i] (af R τ) i (τ i) TX p sb (k+i) t2 (ag ((R.take i).reverse.map (fun b=>P (d::eS++[b]))++qs) τ2) ta la tl ep d2 (hR _ (List.getElem_mem gM)) (qx d eS) (by simp only[dS] at mj;omega) he hz hZ hx hb a).z lr (fun b f x'=>?_) (fun _=>0) x;have y:=(Bo (b 1000) x').f (fr:=none);rw[jc (fun b=>P (d::eS++[b])) R i gM,←Bp] at y;exact y
omit B in
theorem gm:∀ (l:LN)(τ:NT),(af l τ).reverse=af l.reverse fun i=>τ (l.length-1-i)
 |[],_=>rfl
 |d::l,τ=>by
  show(Value.int d (τ 0)::af l _).reverse=_;rw[List.reverse_cons,gm l,List.reverse_cons,iZ];show _++[Value.int d (τ 0)]=_++[Value.int d (τ ((d::l).length-1- (0+l.reverse.length)))];congr 1
  ·refine fW _ _ _ fun i hi=>?_
   rw[List.length_reverse] at hi;show τ (l.length-1-i+1)=τ ((l.length+1)-1-i);congr 1;omega
  ·rw[List.length_reverse]
   show[Value.int d (τ 0)]=[Value.int d (τ (l.length+1-1- (0+l.length)))];have:l.length+1-1- (0+l.length)=0:=by omega
   rw[this]
omit B in
noncomputable def tY (n:Nat)(τ:NT):NT:=fun i=>τ (n-1-i)
theorem qz (a:N2)(TX:Str)(p:Nat)(sb:Bool)(ta la tl ep:Nat)(ds:LN)(bq:ds≠[])(cJ:∀ x∈ds,x<5)(mj:ds.length≤50)(row:LN)(hR:∀ x∈row,x<5)(τ:NT)(qs:List Str)(hq:qs.length+row.length≤900)(k:Int)(t2:Tok)(hU:NT)(ob:ON)(x:Nat→Tk):
  d3 pw (wd w b1 b2) aa 2 (ni (wd w b1 b2) (a 7) (a 5)) (rt (Bn a TX p sb ta la tl (P ds) ob) x++[(a 6,cq k t2 (ag qs hU)),(a 7,aq (a 8) 0),(a 8,ab (af row.reverse τ) ep)])
    (fun r L=>∃ t2 τ2 L1,r=.ok .next∧nL L1=Bn a TX p sb ta la tl (P ds) (iy ob row.reverse)∧L=L1++[(a 6,cq (k+row.length) t2 (ag (row.map (fun b=>P (ds++[b]))++qs) τ2))]):=by
 have z:=tW b1 b2 B a TX p sb ta la tl ep ds bq cJ mj row.reverse (fun x hx=>hR x (List.mem_reverse.mp hx)) τ qs (by rw[List.length_reverse];exact hq) k row.reverse.length 0 ob t2 hU x (by simp);rw[List.reverse_reverse,List.length_reverse] at z;have e:k+((0:Nat):Int)=k:=by omega
 rw[e] at z;exact z
omit B in
def tZ (B:BB w aa b1 b2)(TX:Str)(p:Nat)(sb:Bool)(ds:LN)(bq:ds≠[])(cJ:∀ x∈ds,x<5)(mj:ds.length≤50)(τ:NT)(qs:List Str)(hq:qs.length≤900)(hU:NT)(ob:ON):gw w aa b1 b2:=
 Ci 2 true false 6 (fun _ rs=>ni (wd w b1 b2) (adr rs 7) (adr rs 5)) (fun _ rs=>Bn (adr rs) TX p sb (gD (jq rs 5 0)) (gD (jq rs 5 1)) (gD (jq rs 5 3)) (P ds) ob)
  (fun _ rs=>[(adr rs 6,cq (eN (bx rs 6 1)) (cD (bx rs 6 1)) (ag qs hU)),(adr rs 7,aq (adr rs 8) 0),(adr rs 8,ab (af [] τ) (aH rs 8))]) (fun _ _ _=> .ok .next)
  (fun _ rs _=>Bn (adr rs) TX p sb (gD (jq rs 5 0)) (gD (jq rs 5 1)) (gD (jq rs 5 3)) (P ds) ob) (fun _ rs b f=>[(adr rs 6,cq (eN (bx rs 6 1)) (b 0) (ag qs (f 0)))])
  fun c rs t x=>(qz b1 b2 B (adr rs) TX p sb _ _ _ (aH rs 8) ds bq cJ mj [] (fun _ h=>nomatch h) τ qs (by simpa using hq) (eN (bx rs 6 1)) (cD (bx rs 6 1)) hU ob x).mono lr fun r L hP=>by
   obtain⟨t2,τ2,L1,rfl,h3,h4⟩:=hP;have e:eN (bx rs 6 1)+(([]:LN).length:Int)=eN (bx rs 6 1):=by simp
   rw[e] at h4;exact⟨fun _=>t2,fun _=>τ2,L1,h4,rfl,h3⟩
omit B in
def rX (B:BB w aa b1 b2)(TX:Str)(p:Nat)(sb:Bool)(ds:LN)(bq:ds≠[])(cJ:∀ x∈ds,x<5)(mj:ds.length≤50)(r0:Nat)(row:LN)(hR:∀ x∈r0::row,x<5)(τ:NT)(qs:List Str)(hq:qs.length+(r0::row).length≤900)(hU:NT)(ob:ON):gw w aa b1 b2:=
 Ci 2 true false 6 (fun _ rs=>ni (wd w b1 b2) (adr rs 7) (adr rs 5)) (fun _ rs=>Bn (adr rs) TX p sb (gD (jq rs 5 0)) (gD (jq rs 5 1)) (gD (jq rs 5 3)) (P ds) ob)
  (fun _ rs=>[(adr rs 6,cq (eN (bx rs 6 1)) (cD (bx rs 6 1)) (ag qs hU)),(adr rs 7,aq (adr rs 8) 0),(adr rs 8,ab (af (r0::row).reverse τ) (aH rs 8))]) (fun _ _ _=> .ok .next)
  (fun _ rs _=>Bn (adr rs) TX p sb (gD (jq rs 5 0)) (gD (jq rs 5 1)) (gD (jq rs 5 3)) (P ds) (some r0)) (fun _ rs b f=>[(adr rs 6,cq (eN (bx rs 6 1)+((r0::row).length:Int)) (b 0) (ag ((r0::row).map (fun b=>P (ds++[b]))++qs) (f 0)))])
  fun c rs t x=>(qz b1 b2 B (adr rs) TX p sb _ _ _ (aH rs 8) ds bq cJ mj (r0::row) hR τ qs hq (eN (bx rs 6 1)) (cD (bx rs 6 1)) hU ob x).mono lr fun r L hP=>by
   obtain⟨t2,τ2,L1,rfl,h3,h4⟩:=hP;have e:iy ob (r0::row).reverse=some r0:=by unfold iy;rw[List.getLast?_reverse];rfl
   rw[e] at h3;exact⟨fun _=>t2,fun _=>τ2,L1,h4,rfl,h3⟩
end
theorem jd (A:Around)(args:Args):(A.under (.builtin "generator.__next__" args)).frames=A.frames∧(Code.builtin "generator.__next__" args).weight≤1:=by
 refine⟨?_,?_⟩
 ·show pushEnvs [] A.frames=A.frames
  rfl
 ·rw[←dH]
  have:cp (.builtin "generator.__next__" args)=0:=by kernel_rfl
  omega
section
variable (b1 b2:Bool){w:WW}{aa:Heap}(B:BB w aa b1 b2)
include B
theorem qA {X:Str}{a0:N2}{σ:gT}{SS:Str→Bool}{n:Nat}{gs:GenState}{L:Ow}(hS:zM (wd w b1 b2) aa X a0 σ SS n gs L):
  ∃ c₀ t₀ jX,((gs=.fresh c₀∧t₀=denote table c₀∧jX=[])∨(∃ rY wB wC cl,gs=.suspended rY wB c₀ wC jX cl∧t₀=rY (.send .none)))∧
   ∀ (A:Around)(P:End→Shared→Prop)(Fr:Ow)(h:Heap)(g:Array GenState)(d:Drawn)(os:OsState)(tok size:Nat),Ar 1 A→Rp aa h (L++Fr) size→
    (∀ a p ek D x h' g' aN aC,(∀ i,i≤6→a i=a0 i)→eC pw (wd w b1 b2) D SS n→bh g g'→Rp aa h' (rt (gN a X σ.p σ.sb ek) x++gR a σ D++Fr) aC→
     SegX (model pw (wd w b1 b2)) A (gC (wd w b1 b2) a) (den (gC (wd w b1 b2) a)) (gF (wd w b1 b2) a p) ⟨h',g',d,aN,os⟩ P)→
    SegX (model pw (wd w b1 b2)) A c₀ t₀ jX ⟨h,g,d,tok,os⟩ P:=by
 cases hS with
 |@susp L1 k l c p' fs a p ek D ha hk hL hD=>
  refine⟨c,k (.send .none),fs,.inr ⟨k,l,p',false,rfl,rfl⟩,?_⟩;intro A P Fr h g d os tok size hA hR kk;refine hk.2 A P (L1++gR a σ D++Fr) h g d os tok size hA (fun _ z=>nomatch z) hR fun so L' h' g' aN aC hZ G D'=>?_;obtain⟨rfl,rfl⟩:=hZ;obtain⟨x,tG⟩:=Rp.norm (show Rp aa h' (L1++gR a σ D++Fr) aC from D') hL;exact kk a p ek D x h' g' aN aC ha hD G tG
 |@fresh L1 hL CB hn=>
  refine⟨_,_,[],.inl ⟨rfl,rfl,rfl⟩,?_⟩;intro A P Fr h g d os tok size hA hR kk;obtain⟨x,D1⟩:=Rp.norm hR hL;let y:Nat→Tk:=fun i=>match i with|0=>x 5|1=>x 0|i=>x i
  have perm:(rt (gS a0 X σ.p σ.sb++[(a0 6,ah (fE (a0 0)))]) x++[(a0 5,cq σ.k σ.t2 σ.vs)]++Fr).Perm
    (rt [(a0 6,ah (fE (a0 0))),(a0 0,aX 880 (a0 1))] y++([(a0 1,bg (x 1) (ak (cM (a0 2) (a0 5) (a0 4) (lT σ.sb) (sV [])))),(a0 2,bg (x 2) (aX 745 (a0 3))),(a0 3,bg (x 3) (ak (b5 X σ.p))),(a0 4,bg (x 4) (bK 0 []))]++[(a0 5,cq σ.k σ.t2 σ.vs)]++Fr)):=by
   show([(a0 0,bg (x 0) (aX 880 (a0 1))),(a0 1,bg (x 1) (ak (cM (a0 2) (a0 5) (a0 4) (lT σ.sb) (sV [])))),(a0 2,bg (x 2) (aX 745 (a0 3))),(a0 3,bg (x 3) (ak (b5 X σ.p))),(a0 4,bg (x 4) (bK 0 [])),(a0 6,bg (x 5) (ah (fE (a0 0))))]++[(a0 5,cq σ.k σ.t2 σ.vs)]++Fr:Ow).Perm
    ([(a0 6,bg (x 5) (ah (fE (a0 0)))),(a0 0,bg (x 0) (aX 880 (a0 1)))]++([(a0 1,bg (x 1) (ak (cM (a0 2) (a0 5) (a0 4) (lT σ.sb) (sV [])))),(a0 2,bg (x 2) (aX 745 (a0 3))),(a0 3,bg (x 3) (ak (b5 X σ.p))),(a0 4,bg (x 4) (bK 0 []))]++[(a0 5,cq σ.k σ.t2 σ.vs)]++Fr))
   generalize (a0 0,bg (x 0) (aX 880 (a0 1)))=e0;generalize (a0 1,bg (x 1) (ak (cM (a0 2) (a0 5) (a0 4) (lT σ.sb) (sV []))))=e1;generalize (a0 2,bg (x 2) (aX 745 (a0 3)))=e2;generalize (a0 3,bg (x 3) (ak (b5 X σ.p)))=e3;generalize (a0 4,bg (x 4) (bK 0 []))=e4;generalize (a0 6,bg (x 5) (ah (fE (a0 0))))=e6;generalize (a0 5,cq σ.k σ.t2 σ.vs)=e5;simp only[List.cons_append,List.nil_append];have:([e0,e1,e2,e3,e4,e6]++(e5::Fr)).Perm ([e6]++[e0,e1,e2,e3,e4]++(e5::Fr)):=List.Perm.append_right _ (List.perm_append_comm (l₁:=[e0,e1,e2,e3,e4]) (l₂:=[e6]));simpa using this
  have D2:=D1.perm perm;rw[←jm];refine tQ b1 b2 B (a0 6) (a0 0) (a0 1) y A P _ h g d os tok size hA (fun _ z=>nomatch z) D2 fun so L' h' g' aN aC hZ G D'=>?_;obtain⟨se,sa,led,L2,rfl,rfl,wD⟩:=hZ;intro p;let a:N2:=fun i=>match i with|7=>sa|8=>se|i=>a0 i
  obtain⟨z,D3⟩:=Rp.norm D' wD;let u:Nat→Tk:=fun i=>match i with|0=>z 0|5=>z 1|6=>z 2|i=>⟨(x i).h,(x i).k,(x i).v,(x i).e⟩
  have G8:(rt [(a0 0,aX 880 (a0 1)),(a0 6,ah (ju (a0 0) se sa)),(sa,yH se)] z++[(se,dn ⟨#[],0,.fresh 0 0 led⟩)]++([(a0 1,bg (x 1) (ak (cM (a0 2) (a0 5) (a0 4) (lT σ.sb) (sV [])))),(a0 2,bg (x 2) (aX 745 (a0 3))),(a0 3,bg (x 3) (ak (b5 X σ.p))),(a0 4,bg (x 4) (bK 0 []))]++[(a0 5,cq σ.k σ.t2 σ.vs)]++Fr)).Perm
    (rt (gN a X σ.p σ.sb none) u++gR a σ ⟨#[],0,.fresh 0 0 led⟩++Fr):=by
   show([(a0 0,bg (z 0) (aX 880 (a0 1))),(a0 6,bg (z 1) (ah (ju (a0 0) se sa))),(sa,bg (z 2) (yH se))]++[(se,dn ⟨#[],0,.fresh 0 0 led⟩)]++([(a0 1,bg (x 1) (ak (cM (a0 2) (a0 5) (a0 4) (lT σ.sb) (sV [])))),(a0 2,bg (x 2) (aX 745 (a0 3))),(a0 3,bg (x 3) (ak (b5 X σ.p))),(a0 4,bg (x 4) (bK 0 []))]++[(a0 5,cq σ.k σ.t2 σ.vs)]++Fr):Ow).Perm
    ([(a0 0,bg (z 0) (aX 880 (a0 1))),(a0 1,bg (x 1) (ak (cM (a0 2) (a0 5) (a0 4) (lT σ.sb) (sV [])))),(a0 2,bg (x 2) (aX 745 (a0 3))),(a0 3,bg (x 3) (ak (b5 X σ.p))),(a0 4,bg (x 4) (bK 0 [])),(a0 6,bg (z 1) (ah (ju (a0 0) se sa))),(sa,bg (z 2) (yH se))]++[(a0 5,cq σ.k σ.t2 σ.vs),(se,dn ⟨#[],0,.fresh 0 0 led⟩)]++Fr)
   generalize (a0 0,bg (z 0) (aX 880 (a0 1)))=e0;generalize (a0 1,bg (x 1) (ak (cM (a0 2) (a0 5) (a0 4) (lT σ.sb) (sV []))))=e1;generalize (a0 2,bg (x 2) (aX 745 (a0 3)))=e2;generalize (a0 3,bg (x 3) (ak (b5 X σ.p)))=e3;generalize (a0 4,bg (x 4) (bK 0 []))=e4;generalize (a0 6,bg (z 1) (ah (ju (a0 0) se sa)))=e6;generalize (a0 5,cq σ.k σ.t2 σ.vs)=e5;generalize (sa,bg (z 2) (yH se))=e7;generalize (se,dn ⟨#[],0,.fresh 0 0 led⟩)=e8;simp only[List.cons_append,List.nil_append];refine List.Perm.cons _ ?_;have:([e6,e7,e8]++[e1,e2,e3,e4]++(e5::Fr)).Perm ([e1,e2,e3,e4]++[e6,e7,e8]++(e5::Fr)):=List.Perm.append_right _ List.perm_append_comm;refine this.trans ?_;simp only[List.cons_append,List.nil_append];refine List.Perm.cons _ (List.Perm.cons _ (List.Perm.cons _ (List.Perm.cons _ (List.Perm.cons _ (List.Perm.cons _ (List.Perm.swap _ _ _))))))
  subst CB hn;exact kk a p none ⟨#[],0,.fresh 0 0 led⟩ u h' g' aN aC (fun i hi=>by
   match i,hi with
   |0,_=>rfl
   |1,_=>rfl
   |2,_=>rfl
   |3,_=>rfl
   |4,_=>rfl
   |5,_=>rfl
   |6,_=>rfl) (eC.new led) G (D3.perm G8)
omit B in
theorem mm {m:Nat}{A:Around}(hA:Ar (m+1) A)(args:Args):Ar m (A.under (.builtin "generator.__next__" args)):=by
 have h1:=hA.dep;have h2:=hA.un;have h3:=(jd A args).2;have u:=ei (.builtin "generator.__next__" args);refine⟨hA.hd,?_,?_⟩
 ·show A.depth+(Code.builtin "generator.__next__" args).weight+50*m<_
  omega
 ·show A.units+(Code.builtin "generator.__next__" args).cUnits+300*m<_
  omega
omit B in
theorem mn {prog:Program}{w:WW}{A:Around}{Q:Fin→Shared→Prop}{E:Value→Shared→Prop}{s:Shared}{gi:Nat}{gs:GenState}{l:LV}{k:GenResult→Sem Fin}{c₀:Code}{t₀:Sem Fin}{jX:List Frame}(hg:s.gens[gi]?=some gs)
  (CC:(gs=.fresh c₀∧t₀=denote table c₀∧jX=[])∨(∃ rY wB wC cl,gs=.suspended rY wB c₀ wC jX cl∧t₀=rY (.send .none)))
  (x:SegX (model prog w) A c₀ t₀ jX (s.setGen gi .running) (fun e fj=>wpAny (model prog w) A (k e.result) Q E (fj.setGen gi e.genState))):wpAny (model prog w) A (.resume gi (.send .none) l k) Q E s:=fun Γ p iX=>
 wake_any Fin prog w hg (CC.elim (fun h=> .inl ⟨h.1,rfl,h.2⟩) .inr) (fun Γ=>Γ.In A) (fun _ h=>h) x Γ p iX
theorem mq {X:Str}{a0:N2}{σ ed:gT}{SS:Str→Bool}{n:Nat}{gs:GenState}{L:Ow}{s:Str}(hS:zM (wd w b1 b2) aa X a0 σ SS n gs L)(hy:kg X σ SS s ed)(hn:n<100)
  {A:Around} {R:Result→Shared→Prop} {Fr:Ow} {h:Heap} {g:Array GenState} {d:Drawn} {os:OsState} {tok size gi ga:Nat} {nm qn:Value} (hA:Ar 4 A) (hR:Rp aa h ((ga,dy gi nm qn)::L++Fr) size) (hg:g[gi]?=some gs)
  (kk:∀ tk Gu L' h' g' aN aC,zM (wd w b1 b2) aa X a0 ed (zL SS (fX s)) (n+1) Gu L'→g'[gi]?=some Gu→fY gi g g'→Rp aa h' ((ga,dy gi nm qn)::L'++Fr) aC→R (.ok (.ret (.str s tk))) ⟨h',g',d,aN,os⟩):
  codeAny (model pw (wd w b1 b2)) A (.builtin "generator.__next__" ⟨[.ref ga],[]⟩) R ⟨h,g,d,tok,os⟩:=by
 have CD:h.IsGen ga gi:=⟨_,nm,qn,hR.get (.head _) (fun _=>rfl),rfl,rfl,rfl⟩;have yI:=mm hA ⟨[.ref ga],[]⟩;have i6:(A.under (.builtin "generator.__next__" ⟨[.ref ga],[]⟩)).depth<recursionLimit:=by have:=yI.dep;omega
 have rz:h.NoLimit:=B.lim.keeps hR.keep;obtain⟨c₀,t₀,jX,CC,wF⟩:=qA b1 b2 B hS;refine dw entry_gen_next ?_;show wpAny _ _ (Builtin.Generator.genWake (.ref ga) (.send .none)) _ _ _;unfold Builtin.Generator.genWake;refine aw (wpAny_holding (wpAny_genNumber CD (aw (wpAny_genState hg ?_))));have hx:∀ (k:GenResult→Sem Fin),(∀ v s',wpAny (model pw (wd w b1 b2)) (A.under (.builtin "generator.__next__" ⟨[.ref ga],[]⟩)) (ret v) (fun fin s'=>match fin with|.done f=>R (.ok f) s'|.again c'=>c'.quiet=true∧codeAny (model pw (wd w b1 b2)) A c' R s') (fun e s'=>R (.error e) s') s'→wpAny (model pw (wd w b1 b2)) (A.under (.builtin "generator.__next__" ⟨[.ref ga],[]⟩)) (k (.yielded v)) (fun fin s'=>match fin with|.done f=>R (.ok f) s'|.again c'=>c'.quiet=true∧codeAny (model pw (wd w b1 b2)) A c' R s') (fun e s'=>R (.error e) s') s')→
   wpAny (model pw (wd w b1 b2)) (A.under (.builtin "generator.__next__" ⟨[.ref ga],[]⟩)) (.resume gi (.send .none) [] k) (fun fin s'=>match fin with|.done f=>R (.ok f) s'|.again c'=>c'.quiet=true∧codeAny (model pw (wd w b1 b2)) A c' R s') (fun e s'=>R (.error e) s') ⟨h,g,d,tok,os⟩:=by
  intro k hk;refine mn hg CC ?_;have J8:Rp aa h (L++((ga,dy gi nm qn)::Fr)) size:=hR.perm (by
   show((ga,dy gi nm qn)::(L++Fr)).Perm (L++((ga,dy gi nm qn)::Fr));exact List.perm_middle.symm)
  refine wF _ _ _ h (g.setIfInBounds gi .running) d os tok size (yI.le (by decide)) J8 fun a p ek D x h' g' aN aC ha hD G D'=>?_;refine nu b1 b2 B hy hD hn a p ek x _ _ _ h' g' d os aN aC yI (fun _ z=>nomatch z) D' fun so L' jM nc mi fI hZ G' tG=>?_;obtain⟨tk,l,k2,c,fs,D2,L1,rfl,rfl,hL,I7,hK⟩:=hZ;intro p2;refine hk _ _ (aG ?_);have NG:(false||fs.any Frame.guarded)=false:=by rw[tS hK.1];rfl
  have J9:(End.susp (.str s tk) false l k2 c p2 fs).genState=.suspended k2 l c p2 fs false:=by
   show GenState.suspended k2 l c p2 fs (false||fs.any Frame.guarded)=_;rw[NG]
  rw[J9];refine kk tk _ _ jM _ mi fI (.susp ha hK hL I7) (n6 hg (G.trans G')) ?_ (tG.perm ?_)
  ·exact((fY.set rfl).trans (G.trans G').E2).trans (fY.set rfl)
  ·show(L1++gR a ed D2++((ga,dy gi nm qn)::Fr)).Perm ((ga,dy gi nm qn)::(L1++gR a ed D2++Fr))
   exact List.perm_middle
 rcases CC with⟨rfl,rfl,rfl⟩|⟨rY,wB,wC,cl,rfl,rfl⟩
 ·refine aw (wpAny_roomToWake rz i6 ?_)
  show wpAny _ _ (Sem.resume gi (.send .none) [] _) _ _ _;exact hx _ fun v s' h=>h
 ·refine aw (wpAny_roomToWake rz i6 ?_)
  show wpAny _ _ (Sem.resume gi (.send .none) [] _) _ _ _;exact hx _ fun v s' h=>h
theorem pk {X:Str}{a0:N2}{σ:gT}{SS:Str→Bool}{n:Nat}{gs:GenState}{L:Ow}(hS:zM (wd w b1 b2) aa X a0 σ SS n gs L)(hy:tR X σ SS)
  {F:List Env} {wf lf:Nat} {q1 q2:pj} (hF:kf F [wf,lf])
  {A:Around} {R:Result→Shared→Prop} {Fr:Ow} {h:Heap} {g:Array GenState} {d:Drawn} {os:OsState} {tok size gi ga:Nat} {nm qn:Value} (hA:Ar 5 A) (iY:A.frames=some F)
  (hR:Rp aa h ((ga,dy gi nm qn)::L++([(wf,q1.o),(lf,q2.o)]++Fr)) size) (hg:g[gi]?=some gs)
  (kk:∀ b t h' g' aN aC,fY gi g g'→g'[gi]?=some .finished→Rp aa h' ((b,cZ t)::(wf,q1.o)::(lf,q2.o)::Fr) aC→R (.error (.ref b)) ⟨h',g',d,aN,os⟩):
  codeAny (model pw (wd w b1 b2)) A (.builtin "generator.__next__" ⟨[.ref ga],[]⟩) R ⟨h,g,d,tok,os⟩:=by
 have CD:h.IsGen ga gi:=⟨_,nm,qn,hR.get (.head _) (fun _=>rfl),rfl,rfl,rfl⟩;have yI:=mm hA ⟨[.ref ga],[]⟩;have i6:(A.under (.builtin "generator.__next__" ⟨[.ref ga],[]⟩)).depth<recursionLimit:=by have:=yI.dep;omega
 have rz:h.NoLimit:=B.lim.keeps hR.keep;obtain⟨c₀,t₀,jX,CC,wF⟩:=qA b1 b2 B hS;refine dw entry_gen_next ?_;show wpAny _ _ (Builtin.Generator.genWake (.ref ga) (.send .none)) _ _ _;unfold Builtin.Generator.genWake;refine aw (wpAny_holding (wpAny_genNumber CD (aw (wpAny_genState hg ?_))));have hx:∀ (k:GenResult→Sem Fin)(jp:PUnit→Sem Fin),(∀ s',wpAny (model pw (wd w b1 b2)) (A.under (.builtin "generator.__next__" ⟨[.ref ga],[]⟩)) (newExc (.type "StopIteration") []>>=fun e=>raiseNew e>>=jp) (fun(fin:Fin) s'=>match fin with|.done f=>R (.ok f) s'|.again c'=>c'.quiet=true∧codeAny (model pw (wd w b1 b2)) A c' R s') (fun e s'=>R (.error e) s') s'→wpAny (model pw (wd w b1 b2)) (A.under (.builtin "generator.__next__" ⟨[.ref ga],[]⟩)) (k (.returned .none)) (fun fin s'=>match fin with|.done f=>R (.ok f) s'|.again c'=>c'.quiet=true∧codeAny (model pw (wd w b1 b2)) A c' R s') (fun e s'=>R (.error e) s') s')→
   wpAny (model pw (wd w b1 b2)) (A.under (.builtin "generator.__next__" ⟨[.ref ga],[]⟩)) (.resume gi (.send .none) [] k) (fun fin s'=>match fin with|.done f=>R (.ok f) s'|.again c'=>c'.quiet=true∧codeAny (model pw (wd w b1 b2)) A c' R s') (fun e s'=>R (.error e) s') ⟨h,g,d,tok,os⟩:=by
  intro k jp hk;refine mn hg CC ?_;have J8:Rp aa h (L++([(wf,q1.o),(lf,q2.o)]++Fr)) size:=hR.sub (List.sublist_cons_self _ _);refine wF _ _ _ h (g.setIfInBounds gi .running) d os tok size (yI.le (by decide)) J8 fun a p ek D x h' g' aN aC ha hD G D'=>?_;rw[←a5] at D';refine qw b1 b2 B hy hD a p F wf lf q1 q2 hF ek x _ _ _ h' g' d os aN aC yI (fun l hl=>?_) D' fun so L' jM nc mi fI hZ G' tG=>?_
  ·injection hl with hl
   rw[←hl,(jd A ⟨[.ref ga],[]⟩).1];exact iY
  obtain⟨rfl,rfl⟩:=hZ;show wpAny _ _ (k (.returned .none)) _ _ _;refine hk _ ?_;refine aw ?_;simp only[newExc,newTuple];refine aw (wpAny_newObj_type ?_ (by size_fits));have D2:=tG.alloc (o:=⟨.type "tuple",none,.seq #[] 0,#[]⟩) rfl;refine aw (m:=firstArgMember _ _) (wpAny_of_eq (a:=Value.none) (by first|rfl|(simp only[firstArgMember];rfl)) ?_);refine wpAny_newObj_type ?_ (by size_fits);have D3:=D2.alloc (o:=cZ fI) rfl;refine aw (wpAny_raiseNew_none (show(A.under _).handled=none from hA.hd) ?_);have key:=kk (fI+1) fI _ (nc.setIfInBounds gi .finished) mi (fI+1+1) (((fY.set rfl).trans (G.trans G').E2).trans (fY.set rfl)) (n6 hg (G.trans G')) (D3.sub (((List.sublist_cons_self _ _)).cons_cons _));have es:jM.objs.size=fI:=tG.sz;simp only[Heap.size_push,Shared.setGen,es];exact key
 rcases CC with⟨rfl,rfl,rfl⟩|⟨rY,wB,wC,cl,rfl,rfl⟩
 ·refine aw (wpAny_roomToWake rz i6 ?_)
  show wpAny _ _ (Sem.resume gi (.send .none) [] _) _ _ _;exact hx _ _ fun s' h=>h
 ·refine aw (wpAny_roomToWake rz i6 ?_)
  show wpAny _ _ (Sem.resume gi (.send .none) [] _) _ _ _;exact hx _ _ fun s' h=>h
end
def CE (a:N2):SX Code Result:=sC (.call (.type "int") ⟨[.str (S [48]) 0],[]⟩) [] [] (fun b f=> .ok (.ret (.int 0 0)))
section
variable (b1 b2:Bool){w:WW}{aa:Heap}(B:BB w aa b1 b2)
include B
theorem G9 (a:N2){frx:OE}:eP w aa b1 b2 1 frx false false (CE a):=
 tX B aO.none (ol 0xbbbbb []) z2 z3 [] 0 0
def CF (a:N2):SX Code Result:=sC (.call (.type "int") ⟨[.str (S [49]) 0],[]⟩) [] [] (fun b f=> .ok (.ret (.int 1 0)))
theorem Ha (a:N2){frx:OE}:eP w aa b1 b2 1 frx false false (CF a):=
 tX B aO.none (ol 0xbbbbb []) z2 z3 [] 0 0
def CG (a:N2):SX Code Result:=sC (.call (.type "int") ⟨[.str (S [50]) 0],[]⟩) [] [] (fun b f=> .ok (.ret (.int 2 0)))
theorem Hb (a:N2){frx:OE}:eP w aa b1 b2 1 frx false false (CG a):=
 tX B aO.none (ol 0xbbbbb []) z2 z3 [] 0 0
def CH (a:N2):SX Code Result:=sC (.call (.type "int") ⟨[.str (S [51]) 0],[]⟩) [] [] (fun b f=> .ok (.ret (.int 3 0)))
theorem Hc (a:N2){frx:OE}:eP w aa b1 b2 1 frx false false (CH a):=
 tX B aO.none (ol 0xbbbbb []) z2 z3 [] 0 0
def CI (a:N2):SX Code Result:=sC (.call (.type "int") ⟨[.str (S [52]) 0],[]⟩) [] [] (fun b f=> .ok (.ret (.int 4 0)))
theorem Hd (a:N2){frx:OE}:eP w aa b1 b2 1 frx false false (CI a):=
 tX B aO.none (ol 0xbbbbb []) z2 z3 [] 0 0
theorem intD (d:Nat)(hd:d<5)(a:N2):
  EZ w aa b1 b2 1 false false (.call (.type "int") ⟨[.str (S [d+48]) 0],[]⟩) [] [] (fun _=> .ok (.ret (.int d 0))) (fun _=>[]) (fun _=>[]):=by
 match d,hd with
 |0,_=>exact(G9 b1 b2 B a).g
 |1,_=>exact(Ha b1 b2 B a).g
 |2,_=>exact(Hb b1 b2 B a).g
 |3,_=>exact(Hc b1 b2 B a).g
 |4,_=>exact(Hd b1 b2 B a).g
end
def rZ {b1 b2:Bool}{w:WW}{aa:Heap}(B:BB w aa b1 b2)(d:Nat)(hd:d<5):gw w aa b1 b2:=
 fB 1 false false 0 (fun _ _=> .call (.type "int") ⟨[.str (S [d+48]) 0],[]⟩) (fun _ _=>[]) (fun _ _=>[]) (fun _ _ _=> .ok (.ret (.int d 0))) (fun _ _ _=>[]) (fun _ _ _=>[]) fun c rs=>intD b1 b2 B d hd (adr rs)
noncomputable def au (r:N2):LV:=[.ref (r 0),.ref (r 1),.ref (r 2),.ref (r 3),.ref (r 4)]
theorem cj (r:N2)(d:Nat)(hd:d<5):(au r)[d]?=some (.ref (r d)):=by
 match d,hd with
 |0,_=>rfl
 |1,_=>rfl
 |2,_=>rfl
 |3,_=>rfl
 |4,_=>rfl
theorem n9 (vs:LV):(slicePick ⟨vs⟩ none none (some (-1))).toList=vs.reverse:=by
 have h1:sliceBounds none none (some (-1)) (⟨vs⟩:Array Value).size=((vs.length:Int)-1, -1, -1):=rfl;unfold slicePick;rw[h1];have h2:sliceRange ((vs.length:Int)-1) (-1) (-1)=(List.range vs.length).map fun k=>vs.length-1-k:=by
  unfold sliceRange;have hc:(if(vs.length:Int)-1> -1 then((vs.length:Int)-1- -1- -1-1) / - -1 else 0).toNat=vs.length:=by
   split
   ·have:((vs.length:Int)-1- -1- -1-1) / - -1=vs.length:=by
     rw[show- -1=(1:Int) from rfl,Int.ediv_one];omega
    rw[this];omega
   ·omega
  simp only[show ¬ ((-1:Int)>0) from by decide,if_false];rw[hc];refine List.map_congr_left fun k hk=>?_;omega
 show((sliceRange ((vs.length:Int)-1) (-1) (-1)).filterMap ((⟨vs⟩:Array Value)[·]?))=vs.reverse
 rw[h2,List.filterMap_map];have key:∀ (n:Nat),(List.range n).filterMap (fun k=>vs.reverse[k]?)=vs.reverse.take n:=by
  intro n
  induction n with
  |zero=>rfl
  |succ n ih=>
   rw[List.range_succ,List.filterMap_append,ih,List.take_add_one];congr 1
 have h3:=key vs.length;rw[fT (by simp)] at h3;rw[←h3];refine cg fun k hk=>?_;have hk:k<vs.length:=List.mem_range.mp hk;show(⟨vs⟩:Array Value)[vs.length-1-k]?=_
 rw[List.getElem?_reverse hk];simp
noncomputable def wG (pb:Option (Str×ON)):ON:=match pb with
 |none=>none
 |some p=>p.2
def qB (a:N2)(TX:Str)(p:Nat)(sb:Bool):Ow:=[(a 0,aX 880 (a 1)),(a 1,ak (cM (a 2) (a 6) (a 4) (lT sb) (sV []))),(a 2,aX 745 (a 3)),(a 3,ak (b5 TX p)),(a 4,bK 0 [])]
def o4 (w:WW)(aa:Heap)(ga fr gi:Nat)(nm qn:Value)(x:SV×Nat×Nat)(Fr:Ow):Out:=
 runK pw w aa (dF w) 5 none 9999 (ol 0x1b1d []) (.bL (bO w ga fr)) (startT (dF w) (bO w ga fr)) ([(ga,dy gi nm qn)]++Fr) x
section
variable (b1 b2:Bool){w:WW}{aa:Heap}
theorem lE (ga fr gi:Nat)(nm qn:Value)(x:SV×Nat×Nat)(Fr:Ow):(o4 (wd w b1 b2) aa ga fr gi nm qn x Fr).c8=.bL (bO (wd w b1 b2) ga fr):=by
 revert b1 b2;exact fb (by kernel_rfl)
variable (B:BB w aa b1 b2)
include B
theorem ua (a:N2)(ga gi:Nat)(nm qn:Value)(x4:SV×Nat×Nat)(sR:Ow)(ta la tl et eta er:Nat)(pb:Option (Str×ON))(TX:Str)(p:Nat)(sb:Bool)(dp:LN)(d:Nat)(hd:d<5)(mj:(dp++[d]).length≤50)(bq:dp++[d]≠[])(cJ:∀ x∈dp++[d],x<5)(wH:LV)(yJ:wH.length≤1000)(r:N2)(ay hU:NT)(qs:List Str)(r0:Nat)(row:LN)(NH:qs.length+(r0::row).length≤900)(hR:∀ x∈r0::row,x<5)(k:Int)(t2 tk:Tok)(x:Nat→Tk)
  {A:Around} {R:Result→Shared→Prop} {Fr:Ow} {h:Heap} {g g0:Array GenState} {d' d0:Drawn} {os qf:OsState} {tok size:Nat} {fr':OE} (hA:Ar 3 A)
  (hD:Rp aa h (rt ((a 5,ah (ez ta la (a 0) tl pb))::qB a TX p sb) x++[(ga,dy gi nm qn),(a 6,cq k t2 (ag qs hU)),(tl,ab wH et),(ta,ab (au r) eta),(r d,ab (af (r0::row) ay) er)]++Fr) size)
  (kk:∀ L1 wI bG h' g' aN aC,nL L1=(a 5,ah (ez ta la (a 0) tl (some (P (dp++[d]),some r0))))::qB a TX p sb→bh g g'→
   Rp aa h' (L1++[(ga,dy gi nm qn),(a 6,cq (k+((r0::row).length:Int)) wI (ag ((r0::row).map (fun b=>P (dp++[d]++[b]))++qs) bG)),(tl,ab (wH++[.str (P (dp++[d])) tk]) (et+1)),(ta,ab (au r) eta),(r d,ab (af (r0::row) ay) er)]++Fr) aC→
   codeAny (model pw (wd w b1 b2)) A (bO (wd w b1 b2) ga (a 5)) R ⟨h',g',d',aN,os⟩):
  Go (VV pw (wd w b1 b2) aa (dF (wd w b1 b2)) A R fr' g0 d0 qf) (o4 (wd w b1 b2) aa ga (a 5) gi nm qn x4 sR).c8 ((o4 (wd w b1 b2) aa ga (a 5) gi nm qn x4 sR).k (.ok (.ret (.str (P (dp++[d])) tk)))) ⟨h,g,d',tok,os⟩:=by
 have hr:(match Builtin.Str.lastOccurrence (P (dp++[d])) (S [47]) 0 (P (dp++[d])).length with|some i=>(i:Int)|none=> -1)=pP (P (dp++[d])):=rfl;have hj:pP (P (dp++[d]))+1=pP (P (dp++[d]))+1:=rfl;have hq:cu (P (dp++[d])) (some (pP (P (dp++[d]))+1)) none=S [d+48]:=gW dp (fun x hx=>cJ x (List.mem_append_left _ hx)) d hd;have hy:(S [d+48]).length≤1000:=by show 1≤1000;decide
 have J':(au r)[d]?=some (.ref (r d)):=cj r d hd
 have ie:(slicePick ⟨af (r0::row) ay⟩ none none (some (-1))).toList=af (r0::row).reverse (tY (r0::row).length ay):=by
  rw[n9];exact gm _ _
 have Bq:(af (r0::row) ay).length≤1000:=by rw[bf];omega
 refine jS B (lv:=2) (fr:=none) 9999 (ol 0x11199991b9 (.u [8] ((bD wH yJ))::(ol 0x2aaa2a (.u [] ((eD B (P (dp++[d])) (S [d+48]) _ _ hr hj hq hy))::(.u [] ((rZ B d hd))::(ol 0x1f1f1f (.u [9] ((aY (au r) d (.ref (r d)) (by omega) J'))::(ol 0xbb3f3f3f (.u [0,10] ((gj (af (r0::row) ay) (af (r0::row).reverse (tY (r0::row).length ay)) none none (some (-1)) (by decide) ie Bq))::(ol 0xb11b1b1 (.u [6,6,6,6,6,5,6,0,0] ((rX _ _ B TX p sb (dp++[d]) bq cJ mj r0 row hR (tY (r0::row).length ay) qs NH hU (wG pb)))::(ol 0xd [])))))))))))) [5,0,0,0,0,0,4,0,2,1,0] 0 (fun c L=>(c,nL (aT 6 L),aR 6 L))
  (fun X _=>(bO (wd w b1 b2) ga (a 5),(a 5,ah (ez ta la (a 0) tl (some (P (dp++[d]),some r0))))::qB a TX p sb,[(ga,dy gi nm qn),(a 6,cq (k+((r0::row).length:Int)) ((X.1 26).u.n 1) (ag ((r0::row).map (fun b=>P (dp++[d]++[b]))++qs) ((X.1 26).u.f 0))),(tl,ab (wH++[.str (P (dp++[d])) tk]) (et+1)),(ta,ab (au r) eta),(r d,ab (af (r0::row) ay) er)])) ?_ ?_ hA (fun _ z=>nomatch z) hD ?_
 ·clear kk hD;intro X Fr;revert sb pb;revert b1 b2;exact Gy (by kernel_rfl)
 ·rw[show(o4 (wd w b1 b2) aa ga (a 5) gi nm qn x4 sR).c8=.bL (bO (wd w b1 b2) ga (a 5)) from lE b1 b2 ga (a 5) gi nm qn x4 sR]
  trivial
 ·intro X c' L' h' g' aN aC hv G D'
  obtain⟨rfl,h2,h3⟩:=pS hv;refine kk (aT 6 L') ((X.1 26).u.n 1) ((X.1 26).u.f 0) h' g' aN aC h2 G ?_;rw[←h3,take_drop];exact D'
theorem wJ (a:N2)(ga gi:Nat)(nm qn:Value)(x4:SV×Nat×Nat)(sR:Ow)(ta la tl et eta er:Nat)(pb:Option (Str×ON))(TX:Str)(p:Nat)(sb:Bool)(dp:LN)(d:Nat)(hd:d<5)(mj:(dp++[d]).length≤50)(bq:dp++[d]≠[])(cJ:∀ x∈dp++[d],x<5)(wH:LV)(yJ:wH.length≤1000)(r:N2)(ay hU:NT)(qs:List Str)(Ka:qs.length≤900)(k:Int)(t2 tk:Tok)(x:Nat→Tk)
  {A:Around} {R:Result→Shared→Prop} {Fr:Ow} {h:Heap} {g g0:Array GenState} {d' d0:Drawn} {os qf:OsState} {tok size:Nat} {fr':OE} (hA:Ar 3 A)
  (hD:Rp aa h (rt ((a 5,ah (ez ta la (a 0) tl pb))::qB a TX p sb) x++[(ga,dy gi nm qn),(a 6,cq k t2 (ag qs hU)),(tl,ab wH et),(ta,ab (au r) eta),(r d,ab (af ([]:LN) ay) er)]++Fr) size)
  (kk:∀ L1 wI bG h' g' aN aC,nL L1=(a 5,ah (ez ta la (a 0) tl (some (P (dp++[d]),wG pb))))::qB a TX p sb→bh g g'→
   Rp aa h' (L1++[(ga,dy gi nm qn),(a 6,cq k wI (ag qs bG)),(tl,ab (wH++[.str (P (dp++[d])) tk]) (et+1)),(ta,ab (au r) eta),(r d,ab (af ([]:LN) ay) er)]++Fr) aC→
   codeAny (model pw (wd w b1 b2)) A (bO (wd w b1 b2) ga (a 5)) R ⟨h',g',d',aN,os⟩):
  Go (VV pw (wd w b1 b2) aa (dF (wd w b1 b2)) A R fr' g0 d0 qf) (o4 (wd w b1 b2) aa ga (a 5) gi nm qn x4 sR).c8 ((o4 (wd w b1 b2) aa ga (a 5) gi nm qn x4 sR).k (.ok (.ret (.str (P (dp++[d])) tk)))) ⟨h,g,d',tok,os⟩:=by
 have hr:(match Builtin.Str.lastOccurrence (P (dp++[d])) (S [47]) 0 (P (dp++[d])).length with|some i=>(i:Int)|none=> -1)=pP (P (dp++[d])):=rfl;have hj:pP (P (dp++[d]))+1=pP (P (dp++[d]))+1:=rfl;have hq:cu (P (dp++[d])) (some (pP (P (dp++[d]))+1)) none=S [d+48]:=gW dp (fun x hx=>cJ x (List.mem_append_left _ hx)) d hd;have hy:(S [d+48]).length≤1000:=by show 1≤1000;decide
 have J':(au r)[d]?=some (.ref (r d)):=cj r d hd
 have ie:(slicePick ⟨af ([]:LN) ay⟩ none none (some (-1))).toList=af ([]:LN).reverse (tY ([]:LN).length ay):=by
  rw[n9];exact gm _ _
 have Bq:(af ([]:LN) ay).length≤1000:=by rw[bf];simp
 refine jS B (lv:=2) (fr:=none) 9999 (ol 0x11199991b9 (.u [8] ((bD wH yJ))::(ol 0x2aaa2a (.u [] ((eD B (P (dp++[d])) (S [d+48]) _ _ hr hj hq hy))::(.u [] ((rZ B d hd))::(ol 0x1f1f1f (.u [9] ((aY (au r) d (.ref (r d)) (by omega) J'))::(ol 0xbb3f3f3f (.u [0,10] ((gj (af ([]:LN) ay) (af ([]:LN).reverse (tY 0 ay)) none none (some (-1)) (by decide) ie Bq))::(ol 0xb11b1b1 (.u [6,6,6,6,6,5,6,0,0] ((tZ _ _ B TX p sb (dp++[d]) bq cJ mj (tY 0 ay) qs Ka hU (wG pb)))::(ol 0xd [])))))))))))) [5,0,0,0,0,0,4,0,2,1,0] 0 (fun c L=>(c,nL (aT 6 L),aR 6 L))
  (fun X _=>(bO (wd w b1 b2) ga (a 5),(a 5,ah (ez ta la (a 0) tl (some (P (dp++[d]),wG pb))))::qB a TX p sb,[(ga,dy gi nm qn),(a 6,cq k ((X.1 26).u.n 1) (ag qs ((X.1 26).u.f 0))),(tl,ab (wH++[.str (P (dp++[d])) tk]) (et+1)),(ta,ab (au r) eta),(r d,ab (af ([]:LN) ay) er)])) ?_ ?_ hA (fun _ z=>nomatch z) hD ?_
 ·clear kk hD;intro X Fr;revert sb pb;revert b1 b2;exact Gy (by kernel_rfl)
 ·rw[show(o4 (wd w b1 b2) aa ga (a 5) gi nm qn x4 sR).c8=.bL (bO (wd w b1 b2) ga (a 5)) from lE b1 b2 ga (a 5) gi nm qn x4 sR]
  trivial
 ·intro X c' L' h' g' aN aC hv G D'
  obtain⟨rfl,h2,h3⟩:=pS hv;refine kk (aT 6 L') ((X.1 26).u.n 1) ((X.1 26).u.f 0) h' g' aN aC h2 G ?_;rw[←h3,take_drop];exact D'
end
inductive wK (TX:Str):Nat→Bool→List Nat→Prop where
 |done {p} (h:TX.length=p):wK TX p false []
 |more {p d rest} (h:TX.cps.toList.drop p=aV 32 (d::rest)):wK TX p true (d::rest)
inductive ub:List LN→List Nat→List Nat→List LN→List Nat→Prop where
 |pop {ds stk rest}:ub (ds::stk) rest ds stk rest
 |read {d rest}:ub [] (d::rest) [d] [] rest
inductive cU (T:Nat→List Nat):List LN→List Nat→List Nat→List LN→Prop where
 |done {seen}:cU T [] [] seen []
 |skip {stk rest seen dp d stk' rest' out} (h:ub stk rest (dp++[d]) stk' rest') (hb:stk.length≤400) (mj:dp.length≤40) (hd:d<5) (jr:∀ x∈dp,x<5) (hm:d∈seen) (z:cU T stk' rest' seen out):cU T stk rest seen out
 |take {stk rest seen dp d stk' rest' out} (h:ub stk rest (dp++[d]) stk' rest') (hb:stk.length≤400) (mj:dp.length≤40) (hd:d<5) (jr:∀ x∈dp,x<5) (hm:d∉seen) (hs:seen.length≤40) (hr:(T d).length≤40) (hT:∀ x∈T d,x<5)
   (z:cU T ((T d).map (fun b=>dp++[d]++[b])++stk') rest' (d::seen) out):cU T stk rest seen ((dp++[d])::out)
theorem zR {stk rest ds stk' rest'}(h:ub stk rest ds stk' rest'):stk'.length≤stk.length:=by
 cases h with
 |pop=>simp
 |read=>simp
def k6 (seen:LN):Str→Bool:=fun k=>(seen.map ao).contains k
theorem qC {a b:Nat}(h:ao a=ao b):a=b:=by
 unfold ao S at h;injection h with h
 injection h with h
 injection h with h
 omega
theorem qD (seen:LN)(d:Nat):k6 seen (ao d)=decide (d∈seen):=by
 unfold k6;rw[Bool.eq_iff_iff];simp only[List.contains_iff_mem,dU,List.mem_map];exact⟨fun⟨a,ha,hb⟩=>qC hb▸ha,fun h=>⟨d,h,rfl⟩⟩
theorem wL (seen:LN)(d:Nat):zL (k6 seen) (ao d)=k6 (d::seen):=by
 funext k;unfold zL k6;rw[Bool.eq_iff_iff];simp only[List.map_cons,Bool.or_eq_true,List.contains_iff_mem,dU,ba];exact⟨fun h=>h.elim .inr .inl,fun h=>h.elim .inr .inl⟩
def qE (TX:Str)(σ:gT)(stk:List LN)(rest:LN):Prop:=wK TX σ.p σ.sb rest∧∃ τ,σ.vs=ag (stk.map P) τ
theorem mr {l:LN}{p c:Nat}{m:LN}(h:l.drop p=c::m):l[p]?=some c∧l.drop (p+1)=m:=by
 constructor
 ·have:(l.drop p)[0]?=some c:=by rw[h];rfl
  rw[List.getElem?_drop] at this;simpa using this
 ·rw[←List.drop_drop,h];rfl
theorem qF {TX:Str}{σ:gT}{stk:List LN}{rest ds:LN}{stk':List LN}{rest':LN}(hX:TX.length<2^60)(vh:qE TX σ stk rest)(h:ub stk rest ds stk' rest')(hb:stk.length≤400)(hd:∀ x∈ds,x<5):
  ∃ ed,eF TX σ (P ds) ed∧qE TX ed stk' rest':=by
 obtain⟨p,sb,k,t2,vs⟩:=σ;obtain⟨h1,τ,h2⟩:=vh;simp only at h1 h2;cases h with
 |pop=>
  subst h2;exact⟨⟨p,sb,k+1,0,ag (stk'.map P) fun i=>τ (i+1)⟩,.P (vs:=ag (stk'.map P) fun i=>τ (i+1)) (by rw[aI,bU];simp at hb;omega),h1,_,rfl⟩
 |@read d=>
  cases h1 with
  |more h=>
   have r4:vs=[]:=h2;subst r4;have MN:d<5:=hd d (.head _);cases rest' with
   |nil=>
    have h:TX.cps.toList.drop p=[d+48]:=h;obtain⟨g1,g2⟩:=mr h;have hlen:TX.length=p+1:=by
     have:=congrArg List.length h;rw[List.length_drop] at this;have e:TX.cps.toList.length=TX.length:=Array.length_toList;rw[e] at this;simp at this;omega
    have hc:TX.cps[p]?=some (d+48):=by rw[←Array.getElem?_toList];exact g1
    exact⟨⟨p+1,false,k,t2,[]⟩,.L MN hc hlen (by omega),.done hlen,τ,rfl⟩
   |cons e rest'=>
    have h:TX.cps.toList.drop p=(d+48)::32::aV 32 (e::rest'):=h;obtain⟨g1,g2⟩:=mr h;obtain⟨g3,g4⟩:=mr g2;have hc:TX.cps[p]?=some (d+48):=by rw[←Array.getElem?_toList];exact g1
    have hs:TX.cps[p+1]?=some 32:=by rw[←Array.getElem?_toList];exact g3
    have gM:p+1+1<TX.length:=by
     have:=congrArg List.length g4;rw[List.length_drop,dW] at this;have e:TX.cps.toList.length=TX.length:=Array.length_toList;omega
    exact⟨⟨p+1+1,true,k,t2,[]⟩,.M MN hc hs hX gM,.more g4,τ,rfl⟩
theorem od {T:Nat→List Nat}{TX:Str}(hX:TX.length<2^60){stk:List LN}{rest seen:LN}{out:List LN}(hw:cU T stk rest seen out):
  ∀ {σ:gT},qE TX σ stk rest→
   (out=[]∧tR TX σ (k6 seen))∨
   (∃ dp d stk' rest' cB ed,out=(dp++[d])::cB∧dp.length≤40∧d<5∧(∀ x∈dp,x<5)∧seen.length≤40∧(T d).length≤40∧(∀ x∈T d,x<5)∧stk'.length≤400∧kg TX σ (k6 seen) (P (dp++[d])) ed∧qE TX ed stk' rest'∧
    cU T ((T d).map (fun b=>dp++[d]++[b])++stk') rest' (d::seen) cB):=by
 have wM:∀ (dp:LN)(d:Nat),(∀ x∈dp,x<5)→d<5→(fX (P (dp++[d]))).length≤1000:=fun dp d h1 h2=>by
  rw[gW dp h1 d h2];show 1≤1000;decide
 have He:∀ (dp:LN)(d:Nat),(∀ x∈dp,x<5)→d<5→∀ x∈dp++[d],x<5:=fun dp d h1 h2 x hx=>by
  rcases cS.mp hx with hx|hx
  ·exact h1 x hx
  ·rw[List.mem_singleton.mp hx];exact h2
 induction hw with
 |done=>
  intro σ vh;obtain⟨p,sb,k,t2,vs⟩:=σ;obtain⟨h1,τ,h2⟩:=vh;simp only at h1 h2;have r4:vs=[]:=h2;subst r4;cases h1 with
  |done h=>exact .inl ⟨rfl,.fin h (by omega)⟩
 |skip h hb mj hd jr hm z ih=>
  intro σ vh;rename_i seen dp d stk' rest' out;obtain⟨ed,hs,wN⟩:=qF hX vh h hb (He _ _ jr hd);have hv:k6 seen (fX (P (dp++[d])))=true:=by rw[gW dp jr d hd,qD];exact cT hm
  rcases ih wN with⟨h1,h2⟩|⟨NI,d2,Kb,Hf,Kc,NJ,q1,q2,q3,q4,q5,q6,q7,q8,q9,Kd,Ke⟩
  ·exact .inl ⟨h1,.skip hs (wM _ _ jr hd) hv h2⟩
  ·exact .inr ⟨NI,d2,Kb,Hf,Kc,NJ,q1,q2,q3,q4,q5,q6,q7,q8,.skip hs (wM _ _ jr hd) hv q9,Kd,Ke⟩
 |take h hb mj hd jr hm hs hr hT z ih=>
  intro σ vh;rename_i stk rest seen dp d stk' rest' out;obtain⟨ed,Fd,wN⟩:=qF hX vh h hb (He _ _ jr hd);have hv:k6 seen (fX (P (dp++[d])))=false:=by rw[gW dp jr d hd,qD];exact decide_eq_false hm
  refine .inr ⟨dp,d,stk',rest',out,ed,rfl,mj,hd,jr,hs,hr,hT,?_,.new Fd (wM _ _ jr hd) hv,wN,z⟩;exact Nat.le_trans (zR h) hb
theorem iC {α:Type}(f:Nat→α)(is js:LN)(h:is.isPerm js=true)(tail:List α):(is.map f++tail).Perm (js.map f++tail):=
 ((List.isPerm_iff.mp h).map f).append_right tail
def bo (r:N2)(T:Nat→List Nat)(ay:Nat→Nat→Tok)(er:N2)(i:Nat):Nat×Obj:=(r i,ab (af (T i) (ay i)) (er i))
def aA (r:N2)(T:Nat→List Nat)(ay:Nat→Nat→Tok)(er:N2):Ow:=[bo r T ay er 0,bo r T ay er 1,bo r T ay er 2,bo r T ay er 3,bo r T ay er 4]
noncomputable def others (d:Nat):LN:=match d with
 |0=>[1,2,3,4]
 |1=>[0,2,3,4]
 |2=>[0,1,3,4]
 |3=>[0,1,2,4]
 |_=>[0,1,2,3]
theorem eE (r:N2)(T:Nat→List Nat)(ay:Nat→Nat→Tok)(er:N2)(d:Nat)(hd:d<5):(aA r T ay er).Perm (bo r T ay er d::(others d).map (bo r T ay er)):=by
 have h:=iC (bo r T ay er) [0,1,2,3,4] (d::others d) (by
  match d,hd with
  |0,_=>rfl
  |1,_=>rfl
  |2,_=>rfl
  |3,_=>rfl
  |4,_=>rfl) []
 simpa [aA] using h
noncomputable def aW (a:N2)(gx:Nat):N2:=fun i=>match i with
 |5=>gx
 |6=>a 5
 |i=>a i
theorem ki (t:NT):∀ (l:LV)(n:Nat),pZ (c7 t l n)=pZ l
 |[],_=>rfl
 |v::l,n=>by
  show nV (aZ (t n) v)::pZ (c7 t l (n+1))=nV v::pZ l;rw[ki t l (n+1)];congr 1;cases v<;>rfl
theorem og (x:Tk):∀ (l:List DictEntry)(n:Nat),BP (jH x l n)=BP l
 |[],_=>rfl
 |v::l,n=>by
  show(⟨0,nV (aZ (x.k n) v.key),nV (aZ (x.v n) v.val)⟩:DictEntry)::BP (jH x l (n+1))=⟨0,nV v.key,nV v.val⟩::BP l;rw[og x l (n+1)];congr 1;have:∀ (t:Tok)(v:Value),nV (aZ t v)=nV v:=fun t v=>by cases v<;>rfl
  rw[this,this]
theorem zS (x:Tk)(o:Obj):nO (bg x o)=nO o:=by
 obtain⟨c,d,dt,s⟩:=o;cases dt with
 |seq xs e=>simp only[nO,bg,yW,ki]
 |dict es e=>simp only[nO,bg,yW,og]
 |fields xs=>simp only[nO,bg,yW,ki]
 |cell v=>
  cases v with
  |none=>rfl
  |some v=>cases v<;>rfl
 |_=>rfl
theorem wO:∀ (N:Ow)(x:Nat→Tk),nL (rt N x)=nL N
 |[],_=>rfl
 |p::N,x=>by
  show(p.1,nO (bg (x 0) p.2))::nL (rt N _)=(p.1,nO p.2)::nL N;rw[zS,wO N]
theorem Hg (a:N2)(X:Str)(p:Nat)(sb:Bool)(ek:Option (Str×Str)):nL (gN a X p sb ek)=gN a X p sb ek:=by
 cases sb<;>cases ek<;>rfl
def Kf (x:Tk)(yX:List (Str×Value)):pj:=⟨.type "frame",none,(match (bg x (ah yX)).data with|.dict es _=>es|_=>#[]),x.e,#[]⟩
noncomputable def Hh {α:Type}(a b c d e f g h i j k l m o:α):Nat→α:=fun n=>match n with|0=>a|1=>b|2=>c|3=>d|4=>e|5=>f|6=>g|7=>h|8=>i|9=>j|10=>k|11=>l|12=>m|_=>o
noncomputable def CJ (t:Tk)(u:Nat→Tk):Nat→Tk:=fun i=>match i with|0=>t|i+1=>u i
noncomputable def Kg (z u:Nat→Tk):Nat→Tk:=fun i=>match i with|5=>u 5|6=>u 6|i=>z (i+1)
noncomputable def MO {α:Type}(a b c d e f g h i:α):Nat→α:=fun n=>match n with|0=>a|1=>b|2=>c|3=>d|4=>e|5=>f|6=>g|7=>h|_=>i
section
variable (b1 b2:Bool){w:WW}{aa:Heap}
theorem qG (ga fr:Nat):(bO (wd w b1 b2) ga fr).envs=[]:=by revert b1 b2;exact fb (by kernel_rfl)
theorem ny (ga fr:Nat):cp (bO (wd w b1 b2) ga fr)=0:=by revert b1 b2;exact fb (by kernel_rfl)
theorem sU {m:Nat}{A:Around}(hA:Ar (m+1) A)(ga fr:Nat):Ar m (A.under (bO (wd w b1 b2) ga fr)):=by
 have h1:=hA.dep;have h2:=hA.un;have h3:(bO (wd w b1 b2) ga fr).weight=0:=by rw[←dH];exact ny b1 b2 ga fr
 have u:=ei (bO (wd w b1 b2) ga fr);refine⟨hA.hd,?_,?_⟩
 ·show A.depth+(bO (wd w b1 b2) ga fr).weight+50*m<_
  omega
 ·show A.units+(bO (wd w b1 b2) ga fr).cUnits+300*m<_
  omega
theorem qH {A:Around}(ga fr:Nat):(A.under (bO (wd w b1 b2) ga fr)).frames=A.frames:=by
 show pushEnvs (bO (wd w b1 b2) ga fr).envs A.frames=_;rw[qG];rfl
variable (B:BB w aa b1 b2)
include B
theorem oh (ga gx gi:Nat)(nm qn:Value){A:Around}{R:Result→Shared→Prop}{Fr:Ow}{h:Heap}{g:Array GenState}{d':Drawn}{os:OsState}{tok size:Nat}(hA:Ar 6 A)(hD:Rp aa h ((ga,dy gi nm qn)::Fr) size)
  (kk:∀ x4 h' g' aN aC,bh g g'→Rp aa h' ((ga,dy gi nm qn)::Fr) aC→codeAny (model pw (wd w b1 b2)) (A.under (bO (wd w b1 b2) ga gx)) (.builtin "generator.__next__" ⟨[.ref ga],[]⟩)
   (fun r s=>Go (VV pw (wd w b1 b2) aa (dF (wd w b1 b2)) A R none g d' os) (o4 (wd w b1 b2) aa ga gx gi nm qn x4 Fr).c8 ((o4 (wd w b1 b2) aa ga gx gi nm qn x4 Fr).k r) s) ⟨h',g',d',aN,os⟩):
  codeAny (model pw (wd w b1 b2)) A (bO (wd w b1 b2) ga gx) R ⟨h,g,d',tok,os⟩:=by
 have O:(VV pw (wd w b1 b2) aa (dF (wd w b1 b2)) A R none g d' os).Ok 5:=⟨B.kt,B.lim,hA,fun _ z=>nomatch z⟩;refine fA (V:=VV pw (wd w b1 b2) aa (dF (wd w b1 b2)) A R none g d' os) O hD ?_;refine sJ B (lv:=5) (fr:=none) 9999 (ol 0x1b1d []) [0] 0 (fun o L=>(o.code,L)) (fun _ _=>(.builtin "generator.__next__" ⟨[.ref ga],[]⟩,[(ga,dy gi nm qn)])) ?_ ?_ hA (fun _ z=>nomatch z) (rs:=[(ga,dy gi nm qn)]) hD fun x4 L' h' g' aN aC hv G _ _ D'=>?_
 ·clear kk O;intro X Fr;revert b1 b2;exact dI (by kernel_rfl)
 ·exact trivial
 ·obtain⟨h1,h2⟩:=yA hv
  subst h2;have z:=kk x4 h' g' aN aC G D';rw[h1];have e:around A (o4 (wd w b1 b2) aa ga gx gi nm qn x4 Fr).c8=A.under (bO (wd w b1 b2) ga gx):=by rw[lE b1 b2];rfl
  rw[←e] at z;exact z
theorem wQ (ga gx gi:Nat)(nm qn:Value)(x4:SV×Nat×Nat)(sR:Ow){A:Around}{R:Result→Shared→Prop}{Fr:Ow}{h:Heap}{g g0:Array GenState}{d':Drawn}{os:OsState}{tok size b t:Nat}(hA:Ar 6 A)(hD:Rp aa h ((b,cZ t)::Fr) size)
  (kk:∀ h' g' aN aC,bh g g'→Rp aa h' Fr aC→R (.ok .next) ⟨h',g',d',aN,os⟩):
  Go (VV pw (wd w b1 b2) aa (dF (wd w b1 b2)) A R none g0 d' os) (o4 (wd w b1 b2) aa ga gx gi nm qn x4 sR).c8 ((o4 (wd w b1 b2) aa ga gx gi nm qn x4 sR).k (.error (.ref b))) ⟨h,g,d',tok,os⟩:=by
 refine l5 B (lv:=5) (fr:=none) 9999 [.o 0,.i] [] 1 (fun r L=>(nU true r,L)) (fun _ _=>(.ok .next,[])) ?_ ?_ hA (fun _ z=>nomatch z) (rs:=[(b,cZ t)]) hD fun X r L' h' g' aN aC hv G D'=>?_
 ·clear kk;intro X Fr;revert b1 b2;exact dI (by kernel_rfl)
 ·rw[lE b1 b2];trivial
 ·obtain⟨h1,h2⟩:=yA hv
  have zk:r=.ok .next:=h1
  subst zk h2;exact kk h' g' aN aC G D'
theorem uc {T:Nat→List Nat}{TX:Str}(hX:TX.length<2^60)(a0:N2)(gx ga gi:Nat)(nm qn:Value)(ta la tl eta:Nat)(r:N2)(ay:Nat→Nat→Tok)(er:N2){F:List Env}{lf:Nat}{q2:pj}(hF:kf (kI (wd w b1 b2) gx::F) [gx,lf])
  {A:Around} {R:Result→Shared→Prop} {d':Drawn} {os:OsState} (hA:Ar 6 A) (iY:A.frames=some (kI (wd w b1 b2) gx::F)) (Fr:Ow):
  ∀ (out stk:List LN)(rest seen:LN)(hw:cU T stk rest seen out)(σ:gT)(vh:qE TX σ stk rest)(told:List Str)(wR:told.length+out.length≤900)(dg:NT)(et:Nat)(pb:Option (Str×ON))(x:Nat→Tk)(gs:GenState)(GL:Ow)
   (hS:zM (wd w b1 b2) aa TX a0 σ (k6 seen) seen.length gs GL) (h:Heap) (g:Array GenState) (tok size:Nat) (hg:g[gi]?=some gs)
   (hD:Rp aa h ((ga,dy gi nm qn)::GL++(rt [(gx,ah (ez ta la (a0 0) tl pb))] x++[(tl,ab (ag told dg) et),(ta,ab (au r) eta)]++(aA r T ay er++((lf,q2.o)::Fr)))) size)
   (kk:∀ bG E5 Hi x' h' g' aN aC,fY gi g g'→g'[gi]?=some .finished→Rp aa h' (rt [(gx,ah (ez ta la (a0 0) tl Hi))] x'++[(tl,ab (ag (told++out.map P) bG) E5),(ta,ab (au r) eta)]++(aA r T ay er++((lf,q2.o)::Fr))) aC→R (.ok .next) ⟨h',g',d',aN,os⟩),
   codeAny (model pw (wd w b1 b2)) A (bO (wd w b1 b2) ga gx) R ⟨h,g,d',tok,os⟩:=by
 intro out
 induction out with
 |nil=>
  intro stk rest seen hw σ vh told wR dg et pb x gs GL hS h g tok size hg hD kk;refine oh b1 b2 B ga gx gi nm qn hA hD fun x4 h1 g1 qI fJ G1 D1=>?_;rcases od hX hw vh with⟨_,he⟩|⟨_,_,_,_,_,_,q,_⟩
  ·have p1:((ga,dy gi nm qn)::GL++(rt [(gx,ah (ez ta la (a0 0) tl pb))] x++[(tl,ab (ag told dg) et),(ta,ab (au r) eta)]++(aA r T ay er++((lf,q2.o)::Fr)))).Perm
     ((ga,dy gi nm qn)::GL++([(gx,(Kf (x 0) (ez ta la (a0 0) tl pb)).o),(lf,q2.o)]++([(tl,ab (ag told dg) et),(ta,ab (au r) eta)]++aA r T ay er++Fr))):=by
    refine List.Perm.append_left _ ?_;exact iC (MO (gx,(Kf (x 0) (ez ta la (a0 0) tl pb)).o) (tl,ab (ag told dg) et) (ta,ab (au r) eta) (bo r T ay er 0) (bo r T ay er 1) (bo r T ay er 2) (bo r T ay er 3) (bo r T ay er 4) (lf,q2.o)) [0,1,2,3,4,5,6,7,8] [0,8,1,2,3,4,5,6,7] (by decide) Fr
   refine pk b1 b2 B hS he hF (sU b1 b2 hA ga gx) ((qH b1 b2 ga gx).trans iY) (D1.perm p1) (G1.1 _ _ hg) fun b t h2 g2 k7 d7 G2 zT D2=>?_;refine wQ b1 b2 B ga gx gi nm qn x4 _ hA D2 fun h3 g3 i5 d8 G3 D3=>?_;refine kk dg et pb x h3 g3 i5 d8 ((G1.E2.trans G2).trans G3.E2) (G3.1 _ _ zT) (D3.perm ?_);have e:told++([]:List LN).map P=told:=by simp
   rw[e];exact iC (MO (gx,(Kf (x 0) (ez ta la (a0 0) tl pb)).o) (lf,q2.o) (tl,ab (ag told dg) et) (ta,ab (au r) eta) (bo r T ay er 0) (bo r T ay er 1) (bo r T ay er 2) (bo r T ay er 3) (bo r T ay er 4)) [0,1,2,3,4,5,6,7,8] [0,2,3,4,5,6,7,8,1] (by decide) Fr
  ·cases q
 |cons p out ih=>
  intro stk rest seen hw σ vh told wR dg et pb x gs GL hS h g tok size hg hD kk;refine oh b1 b2 B ga gx gi nm qn hA hD fun x4 h1 g1 qI fJ G1 D1=>?_;rcases od hX hw vh with⟨q,_⟩|⟨dp,d,stk',rest',cB,ed,q,mj,hd,jr,ie,Bq,hT,J9,hy,wN,Kh⟩
  ·cases q
  ·simp only[List.cons.injEq] at q
   obtain⟨rfl,rfl⟩:=q;have bq:dp++[d]≠[]:=by simp
   have cJ:∀ y∈dp++[d],y<5:=fun y hy=>by
    rcases cS.mp hy with hy|hy
    ·exact jr y hy
    ·rw[List.mem_singleton.mp hy];exact hd
   refine mq b1 b2 B hS hy (by omega) ((sU b1 b2 hA ga gx).le (by decide)) D1 (G1.1 _ _ hg) fun tk Gu L' h2 g2 k7 d7 B7 NK G2 D2=>?_;rw[gW dp jr d hd,wL] at B7;obtain⟨p',ue,k',wI,yG⟩:=ed;obtain⟨Bk,hU,r4⟩:=wN;simp only at Bk r4;subst r4;generalize A0:seen.length+1=n' at B7;cases B7 with
   |fresh hL CB hn=>omega
   |@susp L1 kz lz cz pz fz a pp ek D ha hk hL NL=>
    obtain⟨u,D3⟩:=Rp.norm (L1:=L1) (Y:=gR a ⟨p',ue,k',wI,ag (stk'.map P) hU⟩ D) (Fr:=(ga,dy gi nm qn)::(rt [(gx,ah (ez ta la (a0 0) tl pb))] x++[(tl,ab (ag told dg) et),(ta,ab (au r) eta)]++(aA r T ay er++((lf,q2.o)::Fr)))) (D2.perm (by
     show((ga,dy gi nm qn)::((L1++gR a ⟨p',ue,k',wI,ag (stk'.map P) hU⟩ D)++_)).Perm ((L1++gR a ⟨p',ue,k',wI,ag (stk'.map P) hU⟩ D)++((ga,dy gi nm qn)::_));exact List.perm_middle.symm)) hL
    have Ki:a 0=a0 0:=ha 0 (by omega);rw[←Ki] at D3 kk;let MP:Ow:=[(a 6,bg (u 5) (ah (pf (a 0) (a 8) (a 7) ek))),(a 7,bg (u 6) (yH (a 8))),(a 8,dn D)]++((others d).map (bo r T ay er)++((lf,q2.o)::Fr));have D4:Rp aa h2 (rt ((aW a gx 5,ah (ez ta la (aW a gx 0) tl pb))::qB (aW a gx) TX p' ue) (CJ (x 0) u)++[(ga,dy gi nm qn),(aW a gx 6,cq k' wI (ag (stk'.map P) hU)),(tl,ab (ag told dg) et),(ta,ab (au r) eta),bo r T ay er d]++MP) d7:=by
     refine(D3.perm (List.Perm.append_left _ (List.Perm.cons _ (List.Perm.append_left _ (List.Perm.append_right _ (eE r T ay er d hd)))))).perm ?_;exact iC (Hh (a 0,bg (u 0) (aX 880 (a 1))) (a 1,bg (u 1) (ak (cM (a 2) (a 5) (a 4) (lT ue) (sV [])))) (a 2,bg (u 2) (aX 745 (a 3))) (a 3,bg (u 3) (ak (b5 TX p'))) (a 4,bg (u 4) (bK 0 [])) (a 6,bg (u 5) (ah (pf (a 0) (a 8) (a 7) ek))) (a 7,bg (u 6) (yH (a 8)))
      (a 5,cq k' wI (ag (stk'.map P) hU)) (a 8,dn D) (ga,dy gi nm qn) (gx,bg (x 0) (ah (ez ta la (a 0) tl pb))) (tl,ab (ag told dg) et) (ta,ab (au r) eta) (bo r T ay er d))
      [0,1,2,3,4,5,6,7,8,9,10,11,12,13] [10,0,1,2,3,4,9,7,11,12,13,5,6,8] (by decide) ((others d).map (bo r T ay er)++((lf,q2.o)::Fr))
    have fin:∀ (k2:Int)(t3:Tok)(mu:NT)(I9:ON)(CK:Ow) h3 g3 i5 d8,nL CK=(aW a gx 5,ah (ez ta la (aW a gx 0) tl (some (P (dp++[d]),I9))))::qB (aW a gx) TX p' ue→bh g2 g3→
      Rp aa h3 (CK++[(ga,dy gi nm qn),(aW a gx 6,cq k2 t3 (ag ((T d).map (fun b=>P (dp++[d]++[b]))++stk'.map P) mu)),(tl,ab (ag told dg++[.str (P (dp++[d])) tk]) (et+1)),(ta,ab (au r) eta),bo r T ay er d]++MP) d8→
      codeAny (model pw (wd w b1 b2)) A (bO (wd w b1 b2) ga gx) R ⟨h3,g3,d',i5,os⟩:=by
     intro k2 t3 mu I9 CK h3 g3 i5 d8 Hj G3 D5;obtain⟨z,D6⟩:=Rp.norm D5 Hj;have MQ:zM (wd w b1 b2) aa TX a0 ⟨p',ue,k2,t3,ag ((T d).map (fun b=>P (dp++[d]++[b]))++stk'.map P) mu⟩ (k6 (d::seen)) n' (.suspended kz lz cz pz fz false) (rt (gN a TX p' ue ek) (Kg z u)++gR a ⟨p',ue,k2,t3,ag ((T d).map (fun b=>P (dp++[d]++[b]))++stk'.map P) mu⟩ D):=
      .susp ha hk (by rw[wO,Hg]) NL
     rw[←A0] at MQ;refine ih _ rest' (d::seen) Kh ⟨p',ue,k2,t3,ag ((T d).map (fun b=>P (dp++[d]++[b]))++stk'.map P) mu⟩ ⟨Bk,mu,?_⟩ (told++[P (dp++[d])]) (by simp at wR ⊢;omega) (bW told.length dg tk) (et+1) (some (P (dp++[d]),I9)) (fun _=>z 0) _ _ MQ h3 g3 i5 d8 (G3.1 _ _ NK) ?_ ?_
     ·show ag _ mu=ag _ mu
      rw[List.map_append,List.map_map];rfl
     ·rw[←dJ,←Ki]
      refine(D6.perm (?_:List.Perm _ _)).perm (List.Perm.append_left _ (List.Perm.append_left _ (List.Perm.append_right _ (eE r T ay er d hd).symm)));exact iC (Hh (gx,bg (z 0) (ah (ez ta la (a 0) tl (some (P (dp++[d]),I9))))) (a 0,bg (z 1) (aX 880 (a 1))) (a 1,bg (z 2) (ak (cM (a 2) (a 5) (a 4) (lT ue) (sV [])))) (a 2,bg (z 3) (aX 745 (a 3))) (a 3,bg (z 4) (ak (b5 TX p'))) (a 4,bg (z 5) (bK 0 []))
       (ga,dy gi nm qn) (a 5,cq k2 t3 (ag ((T d).map (fun b=>P (dp++[d]++[b]))++stk'.map P) mu)) (tl,ab (ag told dg++[.str (P (dp++[d])) tk]) (et+1)) (ta,ab (au r) eta) (bo r T ay er d)
       (a 6,bg (u 5) (ah (pf (a 0) (a 8) (a 7) ek))) (a 7,bg (u 6) (yH (a 8))) (a 8,dn D))
       [0,1,2,3,4,5,6,7,8,9,10,11,12,13] [6,1,2,3,4,5,11,12,7,13,0,8,9,10] (by decide) ((others d).map (bo r T ay er)++((lf,q2.o)::Fr))
     ·intro bG E5 Hi x' h' g' aN aC GB zT D7
      refine kk bG E5 Hi x' h' g' aN aC (((G1.E2.trans G2).trans G3.E2).trans GB) zT ?_;rw[←Ki] at D7;have e:told++List.map P ((dp++[d])::out)=told++[P (dp++[d])]++List.map P out:=by simp
      rw[e];exact D7
    have yI:Ar 3 A:=hA.le (by decide);cases E6:T d with
    |nil=>
     have Kj:bo r T ay er d=(r d,ab (af ([]:LN) (ay d)) (er d)):=by unfold bo;rw[E6]
     rw[Kj] at D4 fin;refine wJ b1 b2 B (aW a gx) ga gi nm qn x4 _ ta la tl et eta (er d) pb TX p' ue dp d hd (by simp;omega) bq cJ (ag told dg) (by rw[aI];omega) r (ay d) hU (stk'.map P) (by simp;omega) k' wI tk (CJ (x 0) u) yI D4 fun CK t3 mu h3 g3 i5 d8 Hj G3 D5=>?_;refine fin k' t3 mu (wG pb) CK h3 g3 i5 d8 Hj G3 ?_;rw[E6];exact D5
    |cons r0 row=>
     have Kj:bo r T ay er d=(r d,ab (af (r0::row) (ay d)) (er d)):=by unfold bo;rw[E6]
     rw[Kj] at D4 fin;have NM:(r0::row).length≤40:=E6▸Bq;refine ua b1 b2 B (aW a gx) ga gi nm qn x4 _ ta la tl et eta (er d) pb TX p' ue dp d hd (by simp;omega) bq cJ (ag told dg) (by rw[aI];omega) r (ay d) hU (stk'.map P) r0 row (by rw[bU];omega) (E6▸hT) k' wI tk (CJ (x 0) u) yI D4 fun CK t3 mu h3 g3 i5 d8 Hj G3 D5=>?_;refine fin (k'+((r0::row).length:Int)) t3 mu (some r0) CK h3 g3 i5 d8 Hj G3 ?_;rw[E6];exact D5
end
def Hk (w0:WW)(e e2:Nat)(xs:LV)(a:N2):SX Code Code:=sC ((atC (kJ (wt w0)) (a 1) (a 2) (a 0) (a 4) [])) [(a 0,ak [])] [(a 1,aq (a 3) 0),(a 2,ab [] e2),(a 3,ab xs e)] (fun b f=>cV (atC (kJ (wt w0)) (a 1) (a 2) (a 0) (a 4) []))
section
variable (b1 b2:Bool){w:WW}{aa:Heap}(B:BB w aa b1 b2)
include B
theorem NN (w0:WW)(e e2:Nat)(xs:LV)(a:N2):eR w aa b1 b2 2 true (Hk w0 e e2 xs a):=
 eO B (ol (cond b2 0xd 0x22b2b2d) []) z2 z3 [0,0,0,0] 0 1
def Kk (w0:WW)(e e2:Nat)(xs:LV)(i:Nat)(vs:LV)(o:Option (Nat))(y:Value)(ys:LV)(e3:Nat)(a:N2):SX Code Code:=⟨cV (atC (kJ (wt w0)) (a 1) (a 2) (a 0) (a 5) []),[(a 0,ak (cE (S [119,97,121]) o))],[(a 1,aq (a 3) i),(a 2,ab vs e2),(a 3,ab xs e),(a 4,ab ys e3)],fun b f=>cV (atC (kJ (wt w0)) (a 1) (a 2) (a 0) (a 5) []),fun b f=>[(a 0,ak (cE (S [119,97,121]) (some (a 4))))],fun b f=>[(a 1,aq (a 3) (i+1)),(a 2,ab (vs++[y]) (e2+1)),(a 3,ab xs e),(a 4,ab ys e3)]⟩
theorem NO (w0:WW)(e e2:Nat)(xs:LV)(i:Nat)(vs:LV)(o:Option (Nat))(y:Value)(ys:LV)(e3:Nat)(a:N2)(hx:xs[i]?=some (.ref (a 4))) (hy:ys.getLast?=some y) (hb:vs.length≤1000):eR w aa b1 b2 2 true (Kk w0 e e2 xs i vs o y ys e3 a):=
 eO B (ol 0x2b2 (.u [1,2] (bQ xs i (.ref (a 4)) hx)::(ol 0x333bb555 (.u [4] (jW ys y hy)::(ol 0xb5 (.u [4] (bD vs hb)::(ol 0xd []))))))) z2 z3 [4,2,0,1,0] 0 1 fun t x X Fr=>by revert b1 b2 o;exact d4 (by kernel_rfl)
def Kl (w0:WW)(e e2:Nat)(xs:LV)(i:Nat)(vs:LV)(o:Option (Nat))(a:N2):SX Code Result:=sB (cV (atC (kJ (wt w0)) (a 1) (a 2) (a 0) (a 4) [])) [(a 0,ak (cE (S [119,97,121]) o))] [(a 1,aq (a 3) i),(a 2,ab vs e2),(a 3,ab xs e)] (fun b f=> .ok .next) (fun b f=>[(a 2,ab vs e2),(a 3,ab xs e)])
theorem NP (w0:WW)(e e2:Nat)(xs:LV)(i:Nat)(vs:LV)(o:Option (Nat))(a:N2)(hx:xs[i]?=none) {frx:OE}:eP w aa b1 b2 2 frx true true (Kl w0 e e2 xs i vs o a):=
 tX B aO.none (ol 0x2b2 (.u [1,2] (bA xs i hx)::(ol 0x1 []))) z2 z3 [3,3,2] 2 1 fun t x X Fr=>by revert b1 b2 o;exact d4 (by kernel_rfl)
def Hl (w0:WW)(e e2:Nat)(xs:LV)(a:N2):SX Code Code:=sC ((atC (l9 (wt w0)) (a 1) (a 2) (a 0) (a 4) [])) [(a 0,ak [])] [(a 1,aq (a 3) 0),(a 2,ab [] e2),(a 3,ab xs e)] (fun b f=>cV (atC (l9 (wt w0)) (a 1) (a 2) (a 0) (a 4) []))
theorem NQ (w0:WW)(e e2:Nat)(xs:LV)(a:N2):eR w aa b1 b2 2 true (Hl w0 e e2 xs a):=
 eO B (ol (cond b2 0xd 0x22b2b2d) []) z2 z3 [0,0,0,0] 0 1
def Km (w0:WW)(e e2:Nat)(xs:LV)(i:Nat)(vs:LV)(o:Option (Nat))(y:Value)(ys:LV)(e3:Nat)(a:N2):SX Code Code:=⟨cV (atC (l9 (wt w0)) (a 1) (a 2) (a 0) (a 5) []),[(a 0,ak (cE (S [111,110,101]) o))],[(a 1,aq (a 3) i),(a 2,ab vs e2),(a 3,ab xs e),(a 4,ab ys e3)],fun b f=>cV (atC (l9 (wt w0)) (a 1) (a 2) (a 0) (a 5) []),fun b f=>[(a 0,ak (cE (S [111,110,101]) (some (a 4))))],fun b f=>[(a 1,aq (a 3) (i+1)),(a 2,ab (vs++[y]) (e2+1)),(a 3,ab xs e),(a 4,ab ys e3)]⟩
theorem NR (w0:WW)(e e2:Nat)(xs:LV)(i:Nat)(vs:LV)(o:Option (Nat))(y:Value)(ys:LV)(e3:Nat)(a:N2)(hx:xs[i]?=some (.ref (a 4))) (hy:ys.getLast?=some y) (hb:vs.length≤1000):eR w aa b1 b2 2 true (Km w0 e e2 xs i vs o y ys e3 a):=
 eO B (ol 0x2b2 (.u [1,2] (bQ xs i (.ref (a 4)) hx)::(ol 0x333bb555 (.u [4] (jW ys y hy)::(ol 0xb5 (.u [4] (bD vs hb)::(ol 0xd []))))))) z2 z3 [4,2,0,1,0] 0 1 fun t x X Fr=>by revert b1 b2 o;exact d4 (by kernel_rfl)
def Kn (w0:WW)(e e2:Nat)(xs:LV)(i:Nat)(vs:LV)(o:Option (Nat))(a:N2):SX Code Result:=sB (cV (atC (l9 (wt w0)) (a 1) (a 2) (a 0) (a 4) [])) [(a 0,ak (cE (S [111,110,101]) o))] [(a 1,aq (a 3) i),(a 2,ab vs e2),(a 3,ab xs e)] (fun b f=> .ok .next) (fun b f=>[(a 2,ab vs e2),(a 3,ab xs e)])
theorem NS (w0:WW)(e e2:Nat)(xs:LV)(i:Nat)(vs:LV)(o:Option (Nat))(a:N2)(hx:xs[i]?=none) {frx:OE}:eP w aa b1 b2 2 frx true true (Kn w0 e e2 xs i vs o a):=
 tX B aO.none (ol 0x2b2 (.u [1,2] (bA xs i hx)::(ol 0x1 []))) z2 z3 [3,3,2] 2 1 fun t x X Fr=>by revert b1 b2 o;exact d4 (by kernel_rfl)
def zU (w0:WW)(e e2:Nat)(xs:LV)(ms:LV)(e3:Nat)(a:N2):SX Code Code:=sC ((atC (ma (wt w0)) (a 2) (a 3) (a 0) (a 6) [(a 1)])) [(a 0,ak []),(a 1,cR (a 5))] [(a 2,aq (a 4) 0),(a 3,ab [] e2),(a 4,ab xs e),(a 5,ab ms e3)] (fun b f=>cV (atC (ma (wt w0)) (a 2) (a 3) (a 0) (a 6) [(a 1)]))
theorem NU (w0:WW)(e e2:Nat)(xs:LV)(ms:LV)(e3:Nat)(a:N2):eR w aa b1 b2 2 true (zU w0 e e2 xs ms e3 a):=
 eO B (ol (cond b2 0xd 0x33b3b3d) []) z2 z3 [0,0,0,0,0,0] 0 2
def Ko (w0:WW)(e e2:Nat)(xs:LV)(ms:LV)(e3:Nat)(i:Nat)(vs:LV)(o:Option (Nat))(d:Nat)(t0:Tok)(a:N2):SX Code Code:=⟨cV (atC (ma (wt w0)) (a 2) (a 3) (a 0) (a 6) [(a 1)]),[(a 0,ak (dm (S [98]) o)),(a 1,cR (a 5))],[(a 2,aq (a 4) i),(a 3,ab vs e2),(a 4,ab xs e),(a 5,ab ms e3)],fun b f=>cV (atC (ma (wt w0)) (a 2) (a 3) (a 0) (a 6) [(a 1)]),fun b f=>[(a 0,ak (dm (S [98]) (some d))),(a 1,cR (a 5))],fun b f=>[(a 2,aq (a 4) (i+1)),(a 3,ab (vs++[.int d t0]) (e2+1)),(a 4,ab xs e),(a 5,ab ms e3)]⟩
theorem NV (w0:WW)(e e2:Nat)(xs:LV)(ms:LV)(e3:Nat)(i:Nat)(vs:LV)(o:Option (Nat))(d:Nat)(t0:Tok)(a:N2)(hx:xs[i]?=some (.int d t0)) (ha:∀ t,∀ y∈ms,alike y (aZ t (.int d 0))=true) (hv:∀ t,ms.any (fun y=>eqv y (aZ t (.int d 0)))=false) (hb:vs.length≤1000):eR w aa b1 b2 2 true (Ko w0 e e2 xs ms e3 i vs o d t0 a):=
 eO B (ol 0x3b3 (.u [2,3] (bQ xs i (.int d t0) hx)::(ol 0x333466 (.u [5] (jO ms (.int d 0) false ha hv)::(ol 0x4b6 (.u [5] (bD vs hb)::(ol 0xd []))))))) z2 z3 [4,4,2,0,1,0] 0 2 fun t x X Fr=>by revert b1 b2 o;exact d4 (by kernel_rfl)
def Kp (w0:WW)(e e2:Nat)(xs:LV)(ms:LV)(e3:Nat)(i:Nat)(vs:LV)(o:Option (Nat))(d:Nat)(t0:Tok)(a:N2):SX Code Code:=⟨cV (atC (ma (wt w0)) (a 2) (a 3) (a 0) (a 6) [(a 1)]),[(a 0,ak (dm (S [98]) o)),(a 1,cR (a 5))],[(a 2,aq (a 4) i),(a 3,ab vs e2),(a 4,ab xs e),(a 5,ab ms e3)],fun b f=>cV (atC (ma (wt w0)) (a 2) (a 3) (a 0) (a 6) [(a 1)]),fun b f=>[(a 0,ak (dm (S [98]) (some d))),(a 1,cR (a 5))],fun b f=>[(a 2,aq (a 4) (i+1)),(a 3,ab vs e2),(a 4,ab xs e),(a 5,ab ms e3)]⟩
theorem NW (w0:WW)(e e2:Nat)(xs:LV)(ms:LV)(e3:Nat)(i:Nat)(vs:LV)(o:Option (Nat))(d:Nat)(t0:Tok)(a:N2)(hx:xs[i]?=some (.int d t0)) (ha:∀ t,∀ y∈ms,alike y (aZ t (.int d 0))=true) (hv:∀ t,ms.any (fun y=>eqv y (aZ t (.int d 0)))=true):eR w aa b1 b2 2 true (Kp w0 e e2 xs ms e3 i vs o d t0 a):=
 eO B (ol 0x3b3 (.u [2,3] (bQ xs i (.int d t0) hx)::(ol 0x333466 (.u [5] (jO ms (.int d 0) true ha hv)::(ol 0xd []))))) z2 z3 [3,3,1,2,1,0] 0 2 fun t x X Fr=>by revert b1 b2 o;exact d4 (by kernel_rfl)
def Kq (w0:WW)(e e2:Nat)(xs:LV)(ms:LV)(e3:Nat)(i:Nat)(vs:LV)(o:Option (Nat))(a:N2):SX Code Result:=sB (cV (atC (ma (wt w0)) (a 2) (a 3) (a 0) (a 6) [(a 1)])) [(a 0,ak (dm (S [98]) o)),(a 1,cR (a 5))] [(a 2,aq (a 4) i),(a 3,ab vs e2),(a 4,ab xs e),(a 5,ab ms e3)] (fun b f=> .ok .next) (fun b f=>[(a 3,ab vs e2),(a 4,ab xs e),(a 5,ab ms e3)])
theorem NX (w0:WW)(e e2:Nat)(xs:LV)(ms:LV)(e3:Nat)(i:Nat)(vs:LV)(o:Option (Nat))(a:N2)(hx:xs[i]?=none) {frx:OE}:eP w aa b1 b2 2 frx true true (Kq w0 e e2 xs ms e3 i vs o a):=
 tX B aO.none (ol 0x3b3 (.u [2,3] (bA xs i hx)::(ol 0x1 []))) z2 z3 [3,3,3,2,2] 2 2 fun t x X Fr=>by revert b1 b2 o;exact d4 (by kernel_rfl)
def CL (w0:WW)(e e2:Nat)(xs:LV)(a:N2):SX Code Code:=sC ((atC (qj (wt w0)) (a 1) (a 2) (a 0) (a 4) [])) [(a 0,ak [])] [(a 1,aq (a 3) 0),(a 2,ab [] e2),(a 3,ab xs e)] (fun b f=>cV (atC (qj (wt w0)) (a 1) (a 2) (a 0) (a 4) []))
theorem NY (w0:WW)(e e2:Nat)(xs:LV)(a:N2):eR w aa b1 b2 2 true (CL w0 e e2 xs a):=
 eO B (ol (cond b2 0xd 0x22b2b2d) []) z2 z3 [0,0,0,0] 0 1
def Kr (w0:WW)(e e2:Nat)(xs:LV)(i:Nat)(vs:LV)(o:Option (Nat))(d:Nat)(t0:Tok)(a:N2):SX Code Code:=⟨cV (atC (qj (wt w0)) (a 1) (a 2) (a 0) (a 4) []),[(a 0,ak (dm (S [97]) o))],[(a 1,aq (a 3) i),(a 2,ab vs e2),(a 3,ab xs e)],fun b f=>cV (atC (qj (wt w0)) (a 1) (a 2) (a 0) (a 4) []),fun b f=>[(a 0,ak (dm (S [97]) (some d)))],fun b f=>[(a 1,aq (a 3) (i+1)),(a 2,ab (vs++[.str (S [d+48]) (b 1000)]) (e2+1)),(a 3,ab xs e)]⟩
theorem NZ (w0:WW)(e e2:Nat)(xs:LV)(i:Nat)(vs:LV)(o:Option (Nat))(d:Nat)(t0:Tok)(a:N2)(hx:xs[i]?=some (.int d t0)) (hd:d<5) (hb:vs.length≤1000):eR w aa b1 b2 2 true (Kr w0 e e2 xs i vs o d t0 a):=
 eO B (ol 0x2b2 (.u [1,2] (bQ xs i (.int d t0) hx)::(ol 0x33aa3 (.u [] (jt B d hd)::(ol 0xb4 (.u [3] (bD vs hb)::(ol 0xd []))))))) (fe [(6,0)]) z3 [3,1,0,0] 0 1 fun t x X Fr=>by revert b1 b2 o;exact d4 (by kernel_rfl)
def Ks (w0:WW)(e e2:Nat)(xs:LV)(i:Nat)(vs:LV)(o:Option (Nat))(a:N2):SX Code Result:=sB (cV (atC (qj (wt w0)) (a 1) (a 2) (a 0) (a 4) [])) [(a 0,ak (dm (S [97]) o))] [(a 1,aq (a 3) i),(a 2,ab vs e2),(a 3,ab xs e)] (fun b f=> .ok .next) (fun b f=>[(a 2,ab vs e2),(a 3,ab xs e)])
theorem N0 (w0:WW)(e e2:Nat)(xs:LV)(i:Nat)(vs:LV)(o:Option (Nat))(a:N2)(hx:xs[i]?=none) {frx:OE}:eP w aa b1 b2 2 frx true true (Ks w0 e e2 xs i vs o a):=
 tX B aO.none (ol 0x2b2 (.u [1,2] (bA xs i hx)::(ol 0x1 []))) z2 z3 [3,3,2] 2 1 fun t x X Fr=>by revert b1 b2 o;exact d4 (by kernel_rfl)
end
theorem uf {ms:LN}{τ:NT}{y:Value}(h:y∈af ms τ):∃ m t,m∈ms∧y=.int (m:Nat) t:=by
 induction ms generalizing τ with
 |nil=>cases h
 |cons m ms ih=>
  rcases ba.mp (show y∈Value.int (m:Nat) (τ 0)::af ms _ from h) with rfl|h
  ·exact⟨m,_,.head _,rfl⟩
  ·obtain⟨m',t,hm,rfl⟩:=ih h
   exact⟨m',t,.tail _ hm,rfl⟩
theorem dX (ms:LN)(τ:NT)(d:Nat):∀ t,∀ y∈af ms τ,alike y (aZ t (.int d 0))=true:=fun t y hy=>by
 obtain⟨m,t',_,rfl⟩:=uf hy;rfl
theorem fu (ms:LN)(τ:NT)(d:Nat){v:Bool}(hv:decide (d∈ms)=v):∀ t,(af ms τ).any (fun y=>eqv y (aZ t (.int d 0)))=v:=fun t=>by
 subst hv
 induction ms generalizing τ with
 |nil=>rfl
 |cons m ms ih=>
  show(eqv (.int (m:Nat) (τ 0)) (.int d t)||(af ms _).any _)=_;rw[ih];show(decide ((m:Int)=(d:Int))||decide (d∈ms))=_;rw[Bool.eq_iff_iff];simp only[Bool.or_eq_true,dU,ba];constructor
  ·rintro(h|h)
   ·left;omega
   ·exact .inr h
  ·rintro(h|h)
   ·left;omega
   ·exact .inr h
theorem df {α:Type}(l:List α):decide (0<l.length)=!l.isEmpty:=by cases l<;>simp
section
variable (b1 b2:Bool){w:WW}{aa:Heap}(B:BB w aa b1 b2)
include B
theorem wU (w0:WW)(a:N2)(row:LN)(τ:NT)(e:Nat)(ms:LN)(c9:NT)(e3 e2:Nat)(hlen:row.length≤100){fr:OE}{lv:Nat}(eh:2≤lv)(x:Nat→Tk):
  gh w aa b1 b2 lv fr ((zU w0 e e2 (af row τ) (af ms c9) e3 a).c) (rt [(a 0,ak []),(a 1,cR (a 5))] x++[(a 2,aq (a 4) 0),(a 3,ab [] e2),(a 4,ab (af row τ) e),(a 5,ab (af ms c9) e3)])
   (fun r L=>∃ τ2 aQ z L1,z.isSome=!row.isEmpty∧r=.ok .next∧nL L1=[(a 0,ak (dm (S [98]) z)),(a 1,cR (a 5))]∧L=L1++[(a 3,ab (af (row.filter fun d=>decide (d∉ms)) τ2) aQ),(a 4,ab (af row τ) e),(a 5,ab (af ms c9) e3)]):=by
 refine(NU b1 b2 B w0 e e2 (af row τ) (af ms c9) e3 a).z eh (fun b f x'=>?_) (fun _=>0) x;refine bw row.length (fun i L=>∃ (o:ON)(x:Nat→Tk)(τ2:NT)(aQ:Nat),o.isSome=decide (0<i)∧L=rt [(a 0,ak (dm (S [98]) o)),(a 1,cR (a 5))] x++[(a 2,aq (a 4) i),(a 3,ab (af ((row.take i).filter fun d=>decide (d∉ms)) τ2) aQ),(a 4,ab (af row τ) e),(a 5,ab (af ms c9) e3)]) ?_ ?_ (bZ _) ⟨none,x',fun _=>0,e2,rfl,rfl⟩
 ·rintro i L hi ⟨o,x,τ2,aQ,ho,rfl⟩ ih
  have hx:(af row τ)[i]?=some (.int (row[i]:Nat) (τ i)):=cf _ _ _ _ (cy hi)
  have hb:(af ((row.take i).filter fun d=>decide (d∉ms)) τ2).length≤1000:=by
   rw[bf];have:=List.length_filter_le (fun d=>decide (d∉ms)) (row.take i);rw[dR] at this;omega
  by_cases hm:row[i]∈ms
  ·refine(NW b1 b2 B w0 e aQ (af row τ) (af ms c9) e3 i _ o row[i] (τ i) a hx (dX ms c9 row[i]) (fu ms c9 row[i] (cT hm))).z eh (fun b f cG=>ih _ ⟨some row[i],cG,τ2,aQ,by simp,?_⟩) (fun _=>0) x
   rw[dv hi,List.filter_append];simp only[dT,List.filter_nil,hm,not_true_eq_false,decide_false,Bool.false_eq_true,if_false,ck];rfl
  ·refine(NV b1 b2 B w0 e aQ (af row τ) (af ms c9) e3 i _ o row[i] (τ i) a hx (dX ms c9 row[i]) (fu ms c9 row[i] (decide_eq_false hm)) hb).z eh (fun b f cG=>ih _ ⟨some row[i],cG,bW ((row.take i).filter fun d=>decide (d∉ms)).length τ2 (τ i),aQ+1,by simp,?_⟩) (fun _=>0) x
   rw[dv hi,List.filter_append];simp only[dT,List.filter_nil,hm,not_false_eq_true,decide_true,if_true];rw[←cn];rfl
 ·rintro L ⟨o,x,τ2,aQ,ho,rfl⟩
  rw[fT lr];refine(NX b1 b2 B w0 e aQ (af row τ) (af ms c9) e3 row.length _ o a (cF _ _ _ (eU lr)) (fun _=>0) x).mono eh fun r L hP=>?_;obtain⟨b,f,L1,hL,hr,hn⟩:=hP;exact⟨τ2,aQ,o,L1,by rw[ho];exact df _,hr,hn,hL⟩
theorem CM (w0:WW)(a:N2)(ds:LN)(cJ:∀ d∈ds,d<5)(τ:NT)(e e2:Nat)(hlen:ds.length≤100){fr:OE}{lv:Nat}(eh:2≤lv)(x:Nat→Tk):
  gh w aa b1 b2 lv fr ((CL w0 e e2 (af ds τ) a).c) (rt [(a 0,ak [])] x++[(a 1,aq (a 3) 0),(a 2,ab [] e2),(a 3,ab (af ds τ) e)])
   (fun r L=>∃ τ2 aQ z L1,z.isSome=!ds.isEmpty∧r=.ok .next∧nL L1=[(a 0,ak (dm (S [97]) z))]∧L=L1++[(a 2,ab (ag (ds.map ao) τ2) aQ),(a 3,ab (af ds τ) e)]):=by
 refine(NY b1 b2 B w0 e e2 (af ds τ) a).z eh (fun b f x'=>?_) (fun _=>0) x;refine bw ds.length (fun i L=>∃ (o:ON)(x:Nat→Tk)(τ2:NT)(aQ:Nat),o.isSome=decide (0<i)∧L=rt [(a 0,ak (dm (S [97]) o))] x++[(a 1,aq (a 3) i),(a 2,ab (ag ((ds.take i).map ao) τ2) aQ),(a 3,ab (af ds τ) e)]) ?_ ?_ (bZ _) ⟨none,x',fun _=>0,e2,rfl,rfl⟩
 ·rintro i L hi ⟨o,x,τ2,aQ,ho,rfl⟩ ih
  have hx:(af ds τ)[i]?=some (.int (ds[i]:Nat) (τ i)):=cf _ _ _ _ (cy hi)
  have hb:(ag ((ds.take i).map ao) τ2).length≤1000:=by rw[aI,bU,dR];omega
  refine(NZ b1 b2 B w0 e aQ (af ds τ) i _ o ds[i] (τ i) a hx (cJ _ (List.getElem_mem hi)) hb).z eh (fun b f cG=>ih _ ⟨some ds[i],cG,bW ((ds.take i).map ao).length τ2 (b 1000),aQ+1,by simp,?_⟩) (fun _=>0) x;rw[dv hi,List.map_append];show _=rt _ _++[_,(a 2,ab (ag ((ds.take i).map ao++[ao ds[i]]) _) _),_];rw[←dJ];rfl
 ·rintro L ⟨o,x,τ2,aQ,ho,rfl⟩
  rw[fT lr];refine(N0 b1 b2 B w0 e aQ (af ds τ) ds.length _ o a (cF _ _ _ (eU lr)) (fun _=>0) x).mono eh fun r L hP=>?_;obtain⟨b,f,L1,hL,hr,hn⟩:=hP;exact⟨τ2,aQ,o,L1,by rw[ho];exact df _,hr,hn,hL⟩
end
noncomputable def az (l:LN):Nat:=l.getLast?.getD 0
@[simp] theorem cW (l:LN)(b:Nat):az (l++[b])=b:=by simp[az]
@[simp] theorem gE (b:Nat):az [b]=b:=rfl
inductive dr (T:Nat→List Nat):LN→List Nat→List Nat→List LN→List Nat→Prop
 |nil {p s}:dr T p [] s [] s
 |skip {p b bs s o s'} (h:b∈s) (z:dr T p bs s o s'):dr T p (b::bs) s o s'
 |take {p b bs s o1 s1 o2 s2} (h:b∉s) (z1:dr T (p++[b]) (T b) (b::s) o1 s1) (z2:dr T p bs s1 o2 s2):dr T p (b::bs) s ((p++[b])::(o1++o2)) s2
section
variable {T:Nat→List Nat}{p bs s:LN}{o:List LN}{s':LN}
theorem dr.mem (h:dr T p bs s o s'):∀ x,x∈s'↔x∈s∨∃ q∈o,az q=x:=by
 induction h with
 |nil=>simp
 |skip _ _ ih=>exact ih
 |@take p b bs s o1 s1 o2 s2 h z1 z2 i1 i2=>
  intro x;rw[i2,i1];simp only[ba,cS];constructor
  ·intro h
   rcases h with((rfl|h)|⟨q,hq,rfl⟩)|⟨q,hq,rfl⟩
   ·exact .inr ⟨_,.inl rfl,by simp⟩
   ·exact .inl h
   ·exact .inr ⟨q,.inr (.inl hq),rfl⟩
   ·exact .inr ⟨q,.inr (.inr hq),rfl⟩
  ·intro h
   rcases h with h|⟨q,rfl|hq|hq,rfl⟩
   ·exact .inl (.inl (.inr h))
   ·exact .inl (.inl (.inl (by simp)))
   ·exact .inl (.inr ⟨q,hq,rfl⟩)
   ·exact .inr ⟨q,hq,rfl⟩
theorem dr.sub (h:dr T p bs s o s'){x:Nat}(hx:x∈s):x∈s':=(h.mem x).mpr (.inl hx)
theorem dr.done (h:dr T p bs s o s'):∀ x∈bs,x∈s':=by
 induction h with
 |nil=>intro x hx;cases hx
 |skip h z ih=>
  intro x hx;rcases ba.mp hx with rfl|hx
  ·exact z.sub h
  ·exact ih x hx
 |take h z1 z2 i1 i2=>
  intro x hx;rcases ba.mp hx with rfl|hx
  ·exact z2.sub (z1.sub bT)
  ·exact i2 x hx
theorem dr.fresh (h:dr T p bs s o s'):∀ q∈o,az q∉s:=by
 induction h with
 |nil=>intro q hq;cases hq
 |skip _ _ ih=>exact ih
 |take h z1 z2 i1 i2=>
  intro q hq hs;rcases ba.mp hq with rfl|hq
  ·simp at hs;exact h hs
  ·rcases cS.mp hq with hq|hq
   ·exact i1 q hq (bE _ hs)
   ·exact i2 q hq (z1.sub (bE _ hs))
theorem dr.pre (h:dr T p bs s o s'):∀ q∈o,p<+:q∧p.length<q.length:=by
 induction h with
 |nil=>intro q hq;cases hq
 |skip _ _ ih=>exact ih
 |take h z1 z2 i1 i2=>
  intro q hq;rcases ba.mp hq with rfl|hq
  ·exact⟨List.prefix_append _ _,by simp⟩
  ·rcases cS.mp hq with hq|hq
   ·obtain⟨h1,h2⟩:=i1 q hq
    exact⟨(List.prefix_append _ _).trans h1,by simp at h2;omega⟩
   ·exact i2 q hq
theorem dr.N1 (h:dr T p bs s o s'):∀ q∈o,∀ x∈T (az q),x∈s':=by
 induction h with
 |nil=>intro q hq;cases hq
 |skip _ _ ih=>exact ih
 |take h z1 z2 i1 i2=>
  intro q hq x hx;rcases ba.mp hq with rfl|hq
  ·exact z2.sub (z1.done x (by simpa using hx))
  ·rcases cS.mp hq with hq|hq
   ·exact z2.sub (i1 q hq x hx)
   ·exact i2 q hq x hx
theorem dr.ord (h:dr T p bs s o s'):o.Pairwise fun q1 q2=>az q1≠az q2∧(az q2∈T (az q1)→q1<+:q2):=by
 induction h with
 |nil=>exact .nil
 |skip _ _ ih=>exact ih
 |@take p b bs s o1 s1 o2 s2 h z1 z2 i1 i2=>
  rw[List.pairwise_cons,List.pairwise_append];refine⟨fun q hq=>?_,i1,i2,fun q1 h1 q2 h2=>?_⟩
  ·rcases cS.mp hq with hq|hq
   ·exact⟨fun e=>z1.fresh q hq (by rw[←e];simp),fun _=>(z1.pre q hq).1⟩
   ·refine⟨fun e=>z2.fresh q hq (by rw[←e];simp;exact z1.sub bT),fun e=>?_⟩
    exact absurd (z1.done _ (by simpa using e)) (z2.fresh q hq)
  ·refine⟨fun e=>z2.fresh q2 h2 (by rw[←e];exact(z1.mem _).mpr (.inr ⟨q1,h1,rfl⟩)),fun e=>?_⟩
   exact absurd (z1.N1 q1 h1 _ e) (z2.fresh q2 h2)
theorem dr.par (h:dr T p bs s o s'):∀ q∈o,∃ q' b,q=q'++[b]∧(q'=p∧b∈bs∨q'∈o∧b∈T (az q')):=by
 induction h with
 |nil=>intro q hq;cases hq
 |skip _ _ ih=>
  intro q hq;obtain⟨q',b,h1,h2⟩:=ih q hq;exact⟨q',b,h1,h2.imp (fun⟨x,y⟩=>⟨x,bE _ y⟩) id⟩
 |@take p b bs s o1 s1 o2 s2 h z1 z2 i1 i2=>
  intro q hq;rcases ba.mp hq with rfl|hq
  ·exact⟨p,b,rfl,.inl ⟨rfl,bT⟩⟩
  ·rcases cS.mp hq with hq|hq
   ·obtain⟨q',b',h1,h2|h2⟩:=i1 q hq
    ·exact⟨q',b',h1,.inr ⟨by rw[h2.1];exact bT,by rw[h2.1];simpa using h2.2⟩⟩
    ·exact⟨q',b',h1,.inr ⟨bE _ (List.mem_append_left _ h2.1),h2.2⟩⟩
   ·obtain⟨q',b',h1,h2|h2⟩:=i2 q hq
    ·exact⟨q',b',h1,.inl ⟨h2.1,bE _ h2.2⟩⟩
    ·exact⟨q',b',h1,.inr ⟨bE _ (List.mem_append_right _ h2.1),h2.2⟩⟩
end
noncomputable def bP (V s:LN):Nat:=(V.filter fun x=>decide (x∉s)).length
theorem fZ (a:Nat)(V s:LN):bP (a::V) s=(if a∈s then 0 else 1)+bP V s:=by
 unfold bP;rw[dT];by_cases h:a∈s
 ·simp[h]
 ·simp[h];omega
theorem gG (V:LN){s s':LN}(h:∀ x∈s,x∈s'):bP V s'≤bP V s:=by
 induction V with
 |nil=>simp[bP]
 |cons a V ih=>
  rw[fZ,fZ];by_cases h1:a∈s'
  ·simp only[h1,if_true];omega
  ·have h2:a∉s:=fun h3=>h1 (h a h3)
   simp only[h1,h2,if_false];omega
theorem dY {V s:LN}{b:Nat}(hb:b∈V)(h:b∉s):bP V (b::s)<bP V s:=by
 induction V with
 |nil=>cases hb
 |cons a V ih=>
  have hle:bP V (b::s)≤bP V s:=gG V fun x hx=>bE _ hx;rw[fZ,fZ];rcases ba.mp hb with rfl|hb
  ·simp only[h,bT,if_true,if_false];omega
  ·have:=ih hb
   by_cases h1:a∈s
   ·simp only[h1,bE b h1,if_true];omega
   ·simp only[h1,if_false];split<;>omega
theorem zV (T:Nat→List Nat)(V:LN)(hT:∀ a∈V,∀ x∈T a,x∈V):∀ (n:Nat)(p bs s:LN),bP V s≤n→(∀ x∈bs,x∈V)→∃ o s',dr T p bs s o s':=by
 intro n
 induction n with
 |zero=>
  intro p bs
  induction bs with
  |nil=>exact fun s _ _=>⟨[],s,.nil⟩
  |cons b bs ih=>
   intro s hs hb;by_cases h:b∈s
   ·obtain⟨o,s',z⟩:=ih s hs fun x hx=>hb x (bE _ hx)
    exact⟨o,s',.skip h z⟩
   ·have:=dY (hb b bT) h
    omega
 |succ n N3=>
  intro p bs
  induction bs with
  |nil=>exact fun s _ _=>⟨[],s,.nil⟩
  |cons b bs ih=>
   intro s hs hb;by_cases h:b∈s
   ·obtain⟨o,s',z⟩:=ih s hs fun x hx=>hb x (bE _ hx)
    exact⟨o,s',.skip h z⟩
   ·have Hm:=hb b bT
    have:=dY Hm h;obtain⟨o1,s1,z1⟩:=N3 (p++[b]) (T b) (b::s) (by omega) (hT b Hm);obtain⟨o2,s2,z2⟩:=ih s1 (Nat.le_trans (gG V fun x hx=>z1.sub (bE _ hx)) hs) fun x hx=>hb x (bE _ hx);exact⟨_,_,.take h z1 z2⟩
structure Way where
 a:Nat
 ds:LN
 τ:NT
 e:Nat
def Way.o (p:Way):Nat×Obj:=(p.a,ab (af p.ds p.τ) p.e)
def aD (W:List Way):Ow:=W.map Way.o
noncomputable def ax (W:List Way):LV:=W.map fun p=> .ref p.a
theorem kj {W:List Way}{i:Nat}(h:i<W.length):(ax W)[i]?=some (.ref W[i].a):=by simp[ax,cy h]
theorem jA {W:List Way}:(ax W)[W.length]?=none:=by simp[ax]
theorem dN {W:List Way}{i:Nat}(h:i<W.length):(aD W).Perm (W[i].o::aD (W.take i++W.drop (i+1))):=by
 have e:W=W.take i++W[i]::W.drop (i+1):=by rw[←List.drop_eq_getElem_cons h,List.take_append_drop]
 have z:(W.take i++W[i]::W.drop (i+1)).Perm (W[i]::(W.take i++W.drop (i+1))):=List.perm_middle;have y:=z.map Way.o;rw[←e] at y;exact y
theorem jB {ds:LN}(τ:NT)(h:ds≠[]):∃ t,(af ds τ).getLast?=some (.int (az ds:Nat) t):=by
 refine⟨τ (ds.length-1),?_⟩;have hl:ds.length-1<ds.length:=by
  have:=List.length_pos_iff.mpr h;omega
 rw[List.getLast?_eq_getElem?,bf,cf ds τ (ds.length-1) (az ds) ?_];unfold az;rw[List.getLast?_eq_getElem?,cy hl];rfl
theorem gp {α β:Type}(f:α→β){W:List α}{i:Nat}(h:i<W.length):(W.take (i+1)).map f=(W.take i).map f++[f W[i]]:=by
 rw[dv h,List.map_append];rfl
theorem mw {W:List Way}{α:Prop}(hW:W≠[])(hz:(none:ON).isSome=!W.isEmpty):α:=by
 cases W with
 |nil=>exact absurd rfl hW
 |cons=>cases hz
section
variable (b1 b2:Bool){w:WW}{aa:Heap}(B:BB w aa b1 b2)
include B
theorem r6 (w0:WW)(a:N2)(W:List Way)(bq:∀ p∈W,p.ds≠[])(hlen:W.length≤100)(e e2:Nat){fr:OE}{lv:Nat}(eh:2≤lv)(x:Nat→Tk):
  gh w aa b1 b2 lv fr ((Hk w0 e e2 (ax W) a).c) (rt [(a 0,ak [])] x++[(a 1,aq (a 3) 0),(a 2,ab [] e2),(a 3,ab (ax W) e)]++aD W)
   (fun r L=>∃ τ2 aQ z L1,z.isSome=!W.isEmpty∧r=.ok .next∧nL L1=[(a 0,ak (cE (S [119,97,121]) z))]∧L=L1++[(a 2,ab (af (W.map fun p=>az p.ds) τ2) aQ),(a 3,ab (ax W) e)]++aD W):=by
 refine(NN b1 b2 B w0 e e2 (ax W) a).y eh (aD W) (fun b f x'=>?_) (fun _=>0) x;refine bw W.length (fun i L=>∃ (o:ON)(x:Nat→Tk)(τ2:NT)(aQ:Nat),o.isSome=decide (0<i)∧L.Perm (rt [(a 0,ak (cE (S [119,97,121]) o))] x++[(a 1,aq (a 3) i),(a 2,ab (af ((W.take i).map fun p=>az p.ds) τ2) aQ),(a 3,ab (ax W) e)]++aD W)) ?_ ?_ (bZ _) ⟨none,x',fun _=>0,e2,rfl,.refl _⟩
 ·rintro i L hi ⟨o,x,τ2,aQ,ho,hL⟩ ih
  let p:=W[i];obtain⟨t,ht⟩:=jB p.τ (bq p (List.getElem_mem hi));have hb:(af ((W.take i).map fun p=>az p.ds) τ2).length≤1000:=by rw[bf,bU,dR];omega
  let a':N2:=fun j=>match j with|4=>p.a|5=>a 4|j=>a j
  have z:=(NO b1 b2 B w0 e aQ (ax W) i (af ((W.take i).map fun p=>az p.ds) τ2) o (.int (az p.ds:Nat) t) (af p.ds p.τ) p.e a' (kj hi) ht hb).y (frx:=fr) eh (aD (W.take i++W.drop (i+1)))
   (P:=fun r L=>∃ τ2 aQ z L1,z.isSome=!W.isEmpty∧r=.ok .next∧nL L1=[(a 0,ak (cE (S [119,97,121]) z))]∧L=L1++[(a 2,ab (af (W.map fun p=>az p.ds) τ2) aQ),(a 3,ab (ax W) e)]++aD W)
   (fun b f cG=>ih _ ⟨some p.a,cG,bW ((W.take i).map fun p=>az p.ds).length τ2 t,aQ+1,by simp,?_⟩) (fun _=>0) x
  ·refine aJ.perm z (hL.trans ?_)
   show(_++_++aD W).Perm (rt [(a 0,ak (cE (S [119,97,121]) o))] x++[(a 1,aq (a 3) i),(a 2,ab (af ((W.take i).map fun p=>az p.ds) τ2) aQ),(a 3,ab (ax W) e),p.o]++aD (W.take i++W.drop (i+1)));have y:=(dN hi).append_left (rt [(a 0,ak (cE (S [119,97,121]) o))] x++[(a 1,aq (a 3) i),(a 2,ab (af ((W.take i).map fun p=>az p.ds) τ2) aQ),(a 3,ab (ax W) e)]);simpa using y
  ·rw[gp _ hi,←cn]
   show(rt [(a 0,ak (cE (S [119,97,121]) (some p.a)))] cG++[(a 1,aq (a 3) (i+1)),(a 2,ab (af ((W.take i).map fun p=>az p.ds) τ2++[.int (az p.ds:Nat) t]) (aQ+1)),(a 3,ab (ax W) e),p.o]++aD (W.take i++W.drop (i+1))).Perm _;have y:=((dN hi).append_left (rt [(a 0,ak (cE (S [119,97,121]) (some p.a)))] cG++[(a 1,aq (a 3) (i+1)),(a 2,ab (af ((W.take i).map fun p=>az p.ds) τ2++[.int (az p.ds:Nat) t]) (aQ+1)),(a 3,ab (ax W) e)])).symm;simpa using y
 ·rintro L ⟨o,x,τ2,aQ,ho,hL⟩
  rw[fT lr] at hL;refine aJ.perm ?_ hL;refine(((NP b1 b2 B w0 e aQ (ax W) W.length _ o a jA (fun _=>0) x).mono eh fun r L h=>h).frame (aD W)).mono lr fun r L hP=>?_;obtain⟨L',rfl,b,f,L1,hL,hr,hn⟩:=hP;exact⟨τ2,aQ,o,L1,by rw[ho];exact df _,hr,hn,by rw[hL];rfl⟩
theorem wV (w0:WW)(a:N2)(W:List Way)(bq:∀ p∈W,p.ds≠[])(hlen:W.length≤100)(e e2:Nat){fr:OE}{lv:Nat}(eh:2≤lv)(x:Nat→Tk):
  gh w aa b1 b2 lv fr ((Hl w0 e e2 (ax W) a).c) (rt [(a 0,ak [])] x++[(a 1,aq (a 3) 0),(a 2,ab [] e2),(a 3,ab (ax W) e)]++aD W)
   (fun r L=>∃ τ2 aQ z L1,z.isSome=!W.isEmpty∧r=.ok .next∧nL L1=[(a 0,ak (cE (S [111,110,101]) z))]∧L=L1++[(a 2,ab (af (W.map fun p=>az p.ds) τ2) aQ),(a 3,ab (ax W) e)]++aD W):=by
 refine(NQ b1 b2 B w0 e e2 (ax W) a).y eh (aD W) (fun b f x'=>?_) (fun _=>0) x;refine bw W.length (fun i L=>∃ (o:ON)(x:Nat→Tk)(τ2:NT)(aQ:Nat),o.isSome=decide (0<i)∧L.Perm (rt [(a 0,ak (cE (S [111,110,101]) o))] x++[(a 1,aq (a 3) i),(a 2,ab (af ((W.take i).map fun p=>az p.ds) τ2) aQ),(a 3,ab (ax W) e)]++aD W)) ?_ ?_ (bZ _) ⟨none,x',fun _=>0,e2,rfl,.refl _⟩
 ·rintro i L hi ⟨o,x,τ2,aQ,ho,hL⟩ ih
  let p:=W[i];obtain⟨t,ht⟩:=jB p.τ (bq p (List.getElem_mem hi));have hb:(af ((W.take i).map fun p=>az p.ds) τ2).length≤1000:=by rw[bf,bU,dR];omega
  let a':N2:=fun j=>match j with|4=>p.a|5=>a 4|j=>a j
  have z:=(NR b1 b2 B w0 e aQ (ax W) i (af ((W.take i).map fun p=>az p.ds) τ2) o (.int (az p.ds:Nat) t) (af p.ds p.τ) p.e a' (kj hi) ht hb).y (frx:=fr) eh (aD (W.take i++W.drop (i+1)))
   (P:=fun r L=>∃ τ2 aQ z L1,z.isSome=!W.isEmpty∧r=.ok .next∧nL L1=[(a 0,ak (cE (S [111,110,101]) z))]∧L=L1++[(a 2,ab (af (W.map fun p=>az p.ds) τ2) aQ),(a 3,ab (ax W) e)]++aD W)
   (fun b f cG=>ih _ ⟨some p.a,cG,bW ((W.take i).map fun p=>az p.ds).length τ2 t,aQ+1,by simp,?_⟩) (fun _=>0) x
  ·refine aJ.perm z (hL.trans ?_)
   show(_++_++aD W).Perm (rt [(a 0,ak (cE (S [111,110,101]) o))] x++[(a 1,aq (a 3) i),(a 2,ab (af ((W.take i).map fun p=>az p.ds) τ2) aQ),(a 3,ab (ax W) e),p.o]++aD (W.take i++W.drop (i+1)));have y:=(dN hi).append_left (rt [(a 0,ak (cE (S [111,110,101]) o))] x++[(a 1,aq (a 3) i),(a 2,ab (af ((W.take i).map fun p=>az p.ds) τ2) aQ),(a 3,ab (ax W) e)]);simpa using y
  ·rw[gp _ hi,←cn]
   show(rt [(a 0,ak (cE (S [111,110,101]) (some p.a)))] cG++[(a 1,aq (a 3) (i+1)),(a 2,ab (af ((W.take i).map fun p=>az p.ds) τ2++[.int (az p.ds:Nat) t]) (aQ+1)),(a 3,ab (ax W) e),p.o]++aD (W.take i++W.drop (i+1))).Perm _;have y:=((dN hi).append_left (rt [(a 0,ak (cE (S [111,110,101]) (some p.a)))] cG++[(a 1,aq (a 3) (i+1)),(a 2,ab (af ((W.take i).map fun p=>az p.ds) τ2++[.int (az p.ds:Nat) t]) (aQ+1)),(a 3,ab (ax W) e)])).symm;simpa using y
 ·rintro L ⟨o,x,τ2,aQ,ho,hL⟩
  rw[fT lr] at hL;refine aJ.perm ?_ hL;refine(((NS b1 b2 B w0 e aQ (ax W) W.length _ o a jA (fun _=>0) x).mono eh fun r L h=>h).frame (aD W)).mono lr fun r L hP=>?_;obtain⟨L',rfl,b,f,L1,hL,hr,hn⟩:=hP;exact⟨τ2,aQ,o,L1,by rw[ho];exact df _,hr,hn,by rw[hL];rfl⟩
end
section
variable {b1 b2:Bool}{w:WW}{aa:Heap}
def Kt (B:BB w aa b1 b2)(w0:WW)(d:Nat)(ds:LN)(cJ:∀ x∈d::ds,x<5)(τ:NT)(hlen:(d::ds).length≤100):gw w aa b1 b2:=
 dk 2 true true 1 none (fun cc rr=>(CL w0 (aH rr 3) (aH rr 2) (af (d::ds) τ) (ef 4 [j6 cc] rr)).c) (fun _ rr=>[(adr rr 0,ak [])])
  (fun _ rr=>[(adr rr 1,aq (adr rr 3) 0),(adr rr 2,ab [] (aH rr 2)),(adr rr 3,ab (af (d::ds) τ) (aH rr 3))]) (fun _ _ _ _=> .ok .next) (fun _ rr b _=>[(adr rr 0,ak [(S [97],.int (b 1:Nat) 0)])]) (fun _ rr b f=>[(adr rr 2,ab (ag ((d::ds).map ao) (f 0)) (b 0)),(adr rr 3,ab (af (d::ds) τ) (aH rr 3))])
  fun cc rr t x=>(CM b1 b2 B w0 (ef 4 [j6 cc] rr) (d::ds) cJ τ (aH rr 3) (aH rr 2) hlen lr x).mono lr fun r L hP=>by
   obtain⟨τ2,aQ,z,L1,hz,rfl,hn,rfl⟩:=hP;cases z with
   |none=>cases hz
   |some z=>exact⟨fun i=>match i with|0=>aQ|_=>z,fun _=>τ2,L1,rfl,rfl,hn⟩
def wW (B:BB w aa b1 b2)(w0:WW)(d:Nat)(row:LN)(τ:NT)(ms:LN)(c9:NT)(hlen:(d::row).length≤100):gw w aa b1 b2:=
 dk 2 true true 2 none (fun cc rr=>(zU w0 (aH rr 4) (aH rr 3) (af (d::row) τ) (af ms c9) (aH rr 5) (ef 6 [j6 cc] rr)).c) (fun _ rr=>[(adr rr 0,ak []),(adr rr 1,cR (adr rr 5))])
  (fun _ rr=>[(adr rr 2,aq (adr rr 4) 0),(adr rr 3,ab [] (aH rr 3)),(adr rr 4,ab (af (d::row) τ) (aH rr 4)),(adr rr 5,ab (af ms c9) (aH rr 5))]) (fun _ _ _ _=> .ok .next) (fun _ rr b _=>[(adr rr 0,ak [(S [98],.int (b 1:Nat) 0)]),(adr rr 1,cR (adr rr 5))])
  (fun _ rr b f=>[(adr rr 3,ab (af ((d::row).filter fun d=>decide (d∉ms)) (f 0)) (b 0)),(adr rr 4,ab (af (d::row) τ) (aH rr 4)),(adr rr 5,ab (af ms c9) (aH rr 5))])
  fun cc rr t x=>(wU b1 b2 B w0 (ef 6 [j6 cc] rr) (d::row) τ (aH rr 4) ms c9 (aH rr 5) (aH rr 3) hlen lr x).mono lr fun r L hP=>by
   obtain⟨τ2,aQ,z,L1,hz,rfl,hn,rfl⟩:=hP;cases z with
   |none=>cases hz
   |some z=>exact⟨fun i=>match i with|0=>aQ|_=>z,fun _=>τ2,L1,rfl,rfl,hn⟩
def zW (B:BB w aa b1 b2)(w0:WW)(τ:NT)(ms:LN)(c9:NT):gw w aa b1 b2:=
 dk 2 true true 2 none (fun cc rr=>(zU w0 (aH rr 4) (aH rr 3) (af [] τ) (af ms c9) (aH rr 5) (ef 6 [j6 cc] rr)).c) (fun _ rr=>[(adr rr 0,ak []),(adr rr 1,cR (adr rr 5))])
  (fun _ rr=>[(adr rr 2,aq (adr rr 4) 0),(adr rr 3,ab [] (aH rr 3)),(adr rr 4,ab (af [] τ) (aH rr 4)),(adr rr 5,ab (af ms c9) (aH rr 5))]) (fun _ _ _ _=> .ok .next) (fun _ rr b _=>[(adr rr 0,ak []),(adr rr 1,cR (adr rr 5))])
  (fun _ rr b f=>[(adr rr 3,ab [] (b 0)),(adr rr 4,ab (af [] τ) (aH rr 4)),(adr rr 5,ab (af ms c9) (aH rr 5))])
  fun cc rr t x=>(wU b1 b2 B w0 (ef 6 [j6 cc] rr) [] τ (aH rr 4) ms c9 (aH rr 5) (aH rr 3) (by simp) lr x).mono lr fun r L hP=>by
   obtain⟨τ2,aQ,z,L1,hz,rfl,hn,rfl⟩:=hP;cases z with
   |some z=>cases hz
   |none=>exact⟨fun i=>aQ,fun _=>τ2,L1,rfl,rfl,hn⟩
end
def Hn (w0:WW)(e e2:Nat)(xs:LV)(a:N2):SX Code Code:=sC ((atC (md (wt w0)) (a 1) (a 2) (a 0) (a 4) [])) [(a 0,ak [])] [(a 1,aq (a 3) 0),(a 2,ab [] e2),(a 3,ab xs e)] (fun b f=>cV (atC (md (wt w0)) (a 1) (a 2) (a 0) (a 4) []))
section
variable (b1 b2:Bool){w:WW}{aa:Heap}(B:BB w aa b1 b2)
include B
theorem N4 (w0:WW)(e e2:Nat)(xs:LV)(a:N2):eR w aa b1 b2 2 true (Hn w0 e e2 xs a):=
 eO B (ol (cond b2 0xd 0x22b2b2d) []) z2 z3 [0,0,0,0] 0 1
def Ku (w0:WW)(e e2:Nat)(xs:LV)(i:Nat)(vs:LV)(o:Option (Nat))(d0:Nat)(ds:LN)(τ:NT)(e3:Nat)(a:N2):SX Code Code:=⟨cV (atC (md (wt w0)) (a 1) (a 2) (a 0) (a 5) []),[(a 0,ak (cE (S [119,97,121]) o))],[(a 1,aq (a 3) i),(a 2,ab vs e2),(a 3,ab xs e),(a 4,ab (af (d0::ds) τ) e3)],fun b f=>cV (atC (md (wt w0)) (a 1) (a 2) (a 0) (a 5) []),fun b f=>[(a 0,ak (cE (S [119,97,121]) (some (a 4))))],fun b f=>[(a 1,aq (a 3) (i+1)),(a 2,ab (vs++[.str (aj 47 (d0::ds)) (b 1000)]) (e2+1)),(a 3,ab xs e),(a 4,ab (af (d0::ds) τ) e3)]⟩
theorem N5 (w0:WW)(e e2:Nat)(xs:LV)(i:Nat)(vs:LV)(o:Option (Nat))(d0:Nat)(ds:LN)(τ:NT)(e3:Nat)(a:N2)(hx:xs[i]?=some (.ref (a 4))) (cJ:∀ d∈d0::ds,d<5) (hlen:(d0::ds).length≤100) (hb:vs.length≤1000):eR w aa b1 b2 3 true (Ku w0 e e2 xs i vs o d0 ds τ e3 a):=
 eO B (ol 0x2b2 (.u [1,2] (bQ xs i (.ref (a 4)) hx)::(ol 0x33355b5b1 (.ud [0,1,0,4] (Kt B w0 d0 ds cJ τ hlen) (fun u1=>(ol 0x111 (.u [1] (hM 47 (d0::ds) hlen ((u1.u).f 0))::(ol 0xb7 (.u [6] (bD vs hb)::(ol 0xd []))))))::[])))) (fe [(14,0)]) z3 [6,4,0,3,2] 2 1 fun t x X Fr=>by revert b1 b2 o;exact d4 (by kernel_rfl)
def Kv (w0:WW)(e e2:Nat)(xs:LV)(i:Nat)(vs:LV)(o:Option (Nat))(a:N2):SX Code Result:=sB (cV (atC (md (wt w0)) (a 1) (a 2) (a 0) (a 4) [])) [(a 0,ak (cE (S [119,97,121]) o))] [(a 1,aq (a 3) i),(a 2,ab vs e2),(a 3,ab xs e)] (fun b f=> .ok .next) (fun b f=>[(a 2,ab vs e2),(a 3,ab xs e)])
theorem N6 (w0:WW)(e e2:Nat)(xs:LV)(i:Nat)(vs:LV)(o:Option (Nat))(a:N2)(hx:xs[i]?=none) {frx:OE}:eP w aa b1 b2 2 frx true true (Kv w0 e e2 xs i vs o a):=
 tX B aO.none (ol 0x2b2 (.u [1,2] (bA xs i hx)::(ol 0x1 []))) z2 z3 [3,3,2] 2 1 fun t x X Fr=>by revert b1 b2 o;exact d4 (by kernel_rfl)
end
structure Way.Ok (p:Way):Prop where
 ne:p.ds≠[]
 lt:∀ d∈p.ds,d<5
 len:p.ds.length≤100
section
variable (b1 b2:Bool){w:WW}{aa:Heap}(B:BB w aa b1 b2)
include B
theorem CN (w0:WW)(a:N2)(W:List Way)(hW:∀ p∈W,p.Ok)(hlen:W.length≤100)(e e2:Nat){fr:OE}{lv:Nat}(eh:3≤lv)(x:Nat→Tk):
  gh w aa b1 b2 lv fr ((Hn w0 e e2 (ax W) a).c) (rt [(a 0,ak [])] x++[(a 1,aq (a 3) 0),(a 2,ab [] e2),(a 3,ab (ax W) e)]++aD W)
   (fun r L=>∃ τ2 aQ z L1,z.isSome=!W.isEmpty∧r=.ok .next∧nL L1=[(a 0,ak (cE (S [119,97,121]) z))]∧L=L1++[(a 2,ab (ag (W.map fun p=>aj 47 p.ds) τ2) aQ),(a 3,ab (ax W) e)]++aD W):=by
 refine(N4 b1 b2 B w0 e e2 (ax W) a).y (by omega) (aD W) (fun b f x'=>?_) (fun _=>0) x;refine bw W.length (fun i L=>∃ (o:ON)(x:Nat→Tk)(τ2:NT)(aQ:Nat),o.isSome=decide (0<i)∧L.Perm (rt [(a 0,ak (cE (S [119,97,121]) o))] x++[(a 1,aq (a 3) i),(a 2,ab (ag ((W.take i).map fun p=>aj 47 p.ds) τ2) aQ),(a 3,ab (ax W) e)]++aD W)) ?_ ?_ (bZ _) ⟨none,x',fun _=>0,e2,rfl,.refl _⟩
 ·rintro i L hi ⟨o,x,τ2,aQ,ho,hL⟩ ih
  let p:=W[i];have hp:p.Ok:=hW p (List.getElem_mem hi);obtain⟨d0,ds,hd⟩:=List.exists_cons_of_ne_nil hp.ne;have hb:(ag ((W.take i).map fun p=>aj 47 p.ds) τ2).length≤1000:=by rw[aI,bU,dR];omega
  let a':N2:=fun j=>match j with|4=>p.a|5=>a 4|j=>a j
  have z:=(N5 b1 b2 B w0 e aQ (ax W) i (ag ((W.take i).map fun p=>aj 47 p.ds) τ2) o d0 ds p.τ p.e a' (kj hi) (hd▸hp.lt) (hd▸hp.len) hb).y (frx:=fr) eh (aD (W.take i++W.drop (i+1)))
   (P:=fun r L=>∃ τ2 aQ z L1,z.isSome=!W.isEmpty∧r=.ok .next∧nL L1=[(a 0,ak (cE (S [119,97,121]) z))]∧L=L1++[(a 2,ab (ag (W.map fun p=>aj 47 p.ds) τ2) aQ),(a 3,ab (ax W) e)]++aD W)
   (fun b f cG=>ih _ ⟨some p.a,cG,bW ((W.take i).map fun p=>aj 47 p.ds).length τ2 (b 1000),aQ+1,by simp,?_⟩) (fun _=>0) x
  ·refine aJ.perm z (hL.trans ?_)
   show(_++_++aD W).Perm (rt [(a 0,ak (cE (S [119,97,121]) o))] x++[(a 1,aq (a 3) i),(a 2,ab (ag ((W.take i).map fun p=>aj 47 p.ds) τ2) aQ),(a 3,ab (ax W) e),(p.a,ab (af (d0::ds) p.τ) p.e)]++aD (W.take i++W.drop (i+1)));rw[←hd];have y:=(dN hi).append_left (rt [(a 0,ak (cE (S [119,97,121]) o))] x++[(a 1,aq (a 3) i),(a 2,ab (ag ((W.take i).map fun p=>aj 47 p.ds) τ2) aQ),(a 3,ab (ax W) e)]);simpa [Way.o,p] using y
  ·rw[gp _ hi,←dJ]
   show(rt [(a 0,ak (cE (S [119,97,121]) (some p.a)))] cG++[(a 1,aq (a 3) (i+1)),(a 2,ab (ag ((W.take i).map fun p=>aj 47 p.ds) τ2++[.str (aj 47 (d0::ds)) (b 1000)]) (aQ+1)),(a 3,ab (ax W) e),(p.a,ab (af (d0::ds) p.τ) p.e)]++aD (W.take i++W.drop (i+1))).Perm _;rw[←hd];have y:=((dN hi).append_left (rt [(a 0,ak (cE (S [119,97,121]) (some p.a)))] cG++[(a 1,aq (a 3) (i+1)),(a 2,ab (ag ((W.take i).map fun p=>aj 47 p.ds) τ2++[.str (aj 47 p.ds) (b 1000)]) (aQ+1)),(a 3,ab (ax W) e)])).symm;simpa [Way.o,p] using y
 ·rintro L ⟨o,x,τ2,aQ,ho,hL⟩
  rw[fT lr] at hL;refine aJ.perm ?_ hL;refine(((N6 b1 b2 B w0 e aQ (ax W) W.length _ o a jA (fun _=>0) x).mono (by omega) fun r L h=>h).frame (aD W)).mono lr fun r L hP=>?_;obtain⟨L',rfl,b,f,L1,hL,hr,hn⟩:=hP;exact⟨τ2,aQ,o,L1,by rw[ho];exact df _,hr,hn,by rw[hL];rfl⟩
end
def CO (w0:WW)(ta la r wa e:Nat)(vs:LV)(mv:ON)(a:N2)(xt:Nat→Tk):Ow:=rt [(a 0,ah (aB ta la (a 2) (some (r,some (wa,none)))))] xt++[(a 1,ai (cb mv)),(a 2,ab vs e)]
def mx (b1 b2:Bool){w:WW}{aa:Heap}(B:BB w aa b1 b2)(w0:WW)(ta la r wa e:Nat)(vs:LV)(mv:ON)(a:N2)(xt:Nat→Tk)(x:SV×Nat×Nat)(Fr:Ow):Out:=runK pw (wd w b1 b2) aa (dF (wd w b1 b2)) 2 none 9999 (ol 0x133b3b1d []) .base (toF (bu (oneAt 0 (subAt [1,3] (gg (wt w0)))) (bS (wt w0) (a 0) (a 1)))) (CO w0 ta la r wa e vs mv a xt++Fr) x
section
variable (b1 b2:Bool){w:WW}{aa:Heap}(B:BB w aa b1 b2)
include B
theorem CP (w0:WW)(ta la r wa e:Nat)(vs:LV)(mv:ON)(a:N2)(xt:Nat→Tk)(x:SV×Nat×Nat)(Fr:Ow):(fun o:Out=>(o.kind,ij o.tr,o.rest [0,2,2,1,0,0] 0)=(2,ik o.tr,Fr)) (mx b1 b2 B w0 ta la r wa e vs mv a xt x Fr):=by
 revert b1 b2;exact dI (by kernel_rfl)
def je (w0:WW)(ta la r wa e:Nat)(vs:LV)(mv:ON)(a:N2)(xt:Nat→Tk)(x:SV×Nat×Nat)(Fr:Ow):N2:=adr ((mx b1 b2 B w0 ta la r wa e vs mv a xt x Fr).get [0,2,2,1,0,0])
def CQ (w0:WW)(ta la r wa e:Nat)(vs:LV)(mv:ON)(a b:N2):Ow:=[((b 0),ak []),((a 0),ah (aB ta la (a 2) (some (r,some (wa,none)))))]
def zX (w0:WW)(ta la r wa e:Nat)(vs:LV)(mv:ON)(a b:N2):Ow:=[((a 1),ai (cb mv)),((b 3),aq (a 2) 0),((b 4),ab [] 0),((a 2),ab vs e)]
theorem CR (w0:WW)(ta la r wa e:Nat)(vs:LV)(mv:ON)(a:N2)(xt:Nat→Tk)(x:SV×Nat×Nat)(Fr:Ow):(fun o:Out=>(o.code,nL (aT 2 (o.get [0,2,2,1,0,0])),aR 2 (o.get [0,2,2,1,0,0]))=(atC (l9 (wt w0)) ((je b1 b2 B w0 ta la r wa e vs mv a xt x Fr) 3) ((je b1 b2 B w0 ta la r wa e vs mv a xt x Fr) 4) ((je b1 b2 B w0 ta la r wa e vs mv a xt x Fr) 0) (a 0) [],CQ w0 ta la r wa e vs mv a (je b1 b2 B w0 ta la r wa e vs mv a xt x Fr),zX w0 ta la r wa e vs mv a (je b1 b2 B w0 ta la r wa e vs mv a xt x Fr))) (mx b1 b2 B w0 ta la r wa e vs mv a xt x Fr):=by
 revert b1 b2;exact dI (by kernel_rfl)
def Br (w0:WW)(ta la r wa e:Nat)(vs:LV)(mv:ON)(z e2:Nat)(ms:LV)(a b:N2)(y:Nat→Tk):Ow:=rt [((b 0),ak [(S [111,110,101],.ref z)]),((a 0),ah (aB ta la (a 2) (some (r,some (wa,none)))))] y++[((a 1),ai (cb mv)),((b 4),ab ms e2),((a 2),ab vs e)]
def CS (w0:WW)(ta la r wa e:Nat)(vs:LV)(mv:ON)(a:N2)(xt:Nat→Tk)(x1:SV×Nat×Nat)(bI:Ow)(z e2:Nat)(ms:LV)(y:Nat→Tk)(x:SV×Nat×Nat)(Fr:Ow):Out:=runK pw (wd w b1 b2) aa (dF (wd w b1 b2)) 2 none 9999 (ol 0x11133 []) (mx b1 b2 B w0 ta la r wa e vs mv a xt x1 bI).c8 ((mx b1 b2 B w0 ta la r wa e vs mv a xt x1 bI).k (.ok .next)) (Br w0 ta la r wa e vs mv z e2 ms a (je b1 b2 B w0 ta la r wa e vs mv a xt x1 bI) y++Fr) x
noncomputable def wX (w0:WW)(ta la r wa e:Nat)(vs:LV)(mv:ON)(z e2:Nat)(ms:LV)(a b c:N2):Result:=.ok .next
def wY (w0:WW)(ta la r wa e:Nat)(vs:LV)(mv:ON)(z e2:Nat)(ms:LV)(a b c:N2):Ow:=[((a 0),ah (aB ta la (a 2) (some (r,some (wa,none)))))]
def sW (w0:WW)(ta la r wa e:Nat)(vs:LV)(mv:ON)(z e2:Nat)(ms:LV)(a b c:N2):Ow:=[((a 1),cR (b 4)),((b 4),ab ms e2),((a 2),ab vs e)]
theorem CU (w0:WW)(ta la r wa e:Nat)(vs:LV)(mv:ON)(a:N2)(xt:Nat→Tk)(x1:SV×Nat×Nat)(bI:Ow)(z e2:Nat)(ms:LV)(y:Nat→Tk)(x:SV×Nat×Nat)(Fr:Ow):(fun o:Out=>(o.kind,ij o.tr,o.rest [1,1,1,1] 1,o.res,nL (aT 1 (o.get [1,1,1,1])),aR 1 (o.get [1,1,1,1]))=
  (1,ik o.tr,Fr,wX w0 ta la r wa e vs mv z e2 ms a (je b1 b2 B w0 ta la r wa e vs mv a xt x1 bI) (bJ (fun _ _=>0) x (o.get [1,1,1,1])),wY w0 ta la r wa e vs mv z e2 ms a (je b1 b2 B w0 ta la r wa e vs mv a xt x1 bI) (bJ (fun _ _=>0) x (o.get [1,1,1,1])),sW w0 ta la r wa e vs mv z e2 ms a (je b1 b2 B w0 ta la r wa e vs mv a xt x1 bI) (bJ (fun _ _=>0) x (o.get [1,1,1,1])))) (CS b1 b2 B w0 ta la r wa e vs mv a xt x1 bI z e2 ms y x Fr):=by
 revert b1 b2;exact dI (by kernel_rfl)
def CV (w0:WW)(ta la r wa e:Nat)(vs:LV)(mv:ON)(nw:Nat)(a:N2)(xt:Nat→Tk):Ow:=rt [(a 0,ah (aB ta la (a 2) (some (r,some (wa,some nw)))))] xt++[(a 1,ai (cb mv)),(a 2,ab vs e)]
def my (b1 b2:Bool){w:WW}{aa:Heap}(B:BB w aa b1 b2)(w0:WW)(ta la r wa e:Nat)(vs:LV)(mv:ON)(nw:Nat)(a:N2)(xt:Nat→Tk)(x:SV×Nat×Nat)(Fr:Ow):Out:=runK pw (wd w b1 b2) aa (dF (wd w b1 b2)) 2 none 9999 (ol 0x133b3b1d []) .base (toF (bu (oneAt 0 (subAt [1,3] (gg (wt w0)))) (bS (wt w0) (a 0) (a 1)))) (CV w0 ta la r wa e vs mv nw a xt++Fr) x
theorem CW (w0:WW)(ta la r wa e:Nat)(vs:LV)(mv:ON)(nw:Nat)(a:N2)(xt:Nat→Tk)(x:SV×Nat×Nat)(Fr:Ow):(fun o:Out=>(o.kind,ij o.tr,o.rest [0,2,2,1,0,0] 0)=(2,ik o.tr,Fr)) (my b1 b2 B w0 ta la r wa e vs mv nw a xt x Fr):=by
 revert b1 b2;exact dI (by kernel_rfl)
def jf (w0:WW)(ta la r wa e:Nat)(vs:LV)(mv:ON)(nw:Nat)(a:N2)(xt:Nat→Tk)(x:SV×Nat×Nat)(Fr:Ow):N2:=adr ((my b1 b2 B w0 ta la r wa e vs mv nw a xt x Fr).get [0,2,2,1,0,0])
def CX (w0:WW)(ta la r wa e:Nat)(vs:LV)(mv:ON)(nw:Nat)(a b:N2):Ow:=[((b 0),ak []),((a 0),ah (aB ta la (a 2) (some (r,some (wa,some nw)))))]
def zY (w0:WW)(ta la r wa e:Nat)(vs:LV)(mv:ON)(nw:Nat)(a b:N2):Ow:=[((a 1),ai (cb mv)),((b 3),aq (a 2) 0),((b 4),ab [] 0),((a 2),ab vs e)]
theorem CY (w0:WW)(ta la r wa e:Nat)(vs:LV)(mv:ON)(nw:Nat)(a:N2)(xt:Nat→Tk)(x:SV×Nat×Nat)(Fr:Ow):(fun o:Out=>(o.code,nL (aT 2 (o.get [0,2,2,1,0,0])),aR 2 (o.get [0,2,2,1,0,0]))=(atC (l9 (wt w0)) ((jf b1 b2 B w0 ta la r wa e vs mv nw a xt x Fr) 3) ((jf b1 b2 B w0 ta la r wa e vs mv nw a xt x Fr) 4) ((jf b1 b2 B w0 ta la r wa e vs mv nw a xt x Fr) 0) (a 0) [],CX w0 ta la r wa e vs mv nw a (jf b1 b2 B w0 ta la r wa e vs mv nw a xt x Fr),zY w0 ta la r wa e vs mv nw a (jf b1 b2 B w0 ta la r wa e vs mv nw a xt x Fr))) (my b1 b2 B w0 ta la r wa e vs mv nw a xt x Fr):=by
 revert b1 b2;exact dI (by kernel_rfl)
def Bs (w0:WW)(ta la r wa e:Nat)(vs:LV)(mv:ON)(nw:Nat)(z e2:Nat)(ms:LV)(a b:N2)(y:Nat→Tk):Ow:=rt [((b 0),ak [(S [111,110,101],.ref z)]),((a 0),ah (aB ta la (a 2) (some (r,some (wa,some nw)))))] y++[((a 1),ai (cb mv)),((b 4),ab ms e2),((a 2),ab vs e)]
def CZ (w0:WW)(ta la r wa e:Nat)(vs:LV)(mv:ON)(nw:Nat)(a:N2)(xt:Nat→Tk)(x1:SV×Nat×Nat)(bI:Ow)(z e2:Nat)(ms:LV)(y:Nat→Tk)(x:SV×Nat×Nat)(Fr:Ow):Out:=runK pw (wd w b1 b2) aa (dF (wd w b1 b2)) 2 none 9999 (ol 0x11133 []) (my b1 b2 B w0 ta la r wa e vs mv nw a xt x1 bI).c8 ((my b1 b2 B w0 ta la r wa e vs mv nw a xt x1 bI).k (.ok .next)) (Bs w0 ta la r wa e vs mv nw z e2 ms a (jf b1 b2 B w0 ta la r wa e vs mv nw a xt x1 bI) y++Fr) x
noncomputable def wZ (w0:WW)(ta la r wa e:Nat)(vs:LV)(mv:ON)(nw:Nat)(z e2:Nat)(ms:LV)(a b c:N2):Result:=.ok .next
def w3 (w0:WW)(ta la r wa e:Nat)(vs:LV)(mv:ON)(nw:Nat)(z e2:Nat)(ms:LV)(a b c:N2):Ow:=[((a 0),ah (aB ta la (a 2) (some (r,some (wa,some nw)))))]
def sX (w0:WW)(ta la r wa e:Nat)(vs:LV)(mv:ON)(nw:Nat)(z e2:Nat)(ms:LV)(a b c:N2):Ow:=[((a 1),cR (b 4)),((b 4),ab ms e2),((a 2),ab vs e)]
theorem C2 (w0:WW)(ta la r wa e:Nat)(vs:LV)(mv:ON)(nw:Nat)(a:N2)(xt:Nat→Tk)(x1:SV×Nat×Nat)(bI:Ow)(z e2:Nat)(ms:LV)(y:Nat→Tk)(x:SV×Nat×Nat)(Fr:Ow):(fun o:Out=>(o.kind,ij o.tr,o.rest [1,1,1,1] 1,o.res,nL (aT 1 (o.get [1,1,1,1])),aR 1 (o.get [1,1,1,1]))=
  (1,ik o.tr,Fr,wZ w0 ta la r wa e vs mv nw z e2 ms a (jf b1 b2 B w0 ta la r wa e vs mv nw a xt x1 bI) (bJ (fun _ _=>0) x (o.get [1,1,1,1])),w3 w0 ta la r wa e vs mv nw z e2 ms a (jf b1 b2 B w0 ta la r wa e vs mv nw a xt x1 bI) (bJ (fun _ _=>0) x (o.get [1,1,1,1])),sX w0 ta la r wa e vs mv nw z e2 ms a (jf b1 b2 B w0 ta la r wa e vs mv nw a xt x1 bI) (bJ (fun _ _=>0) x (o.get [1,1,1,1])))) (CZ b1 b2 B w0 ta la r wa e vs mv nw a xt x1 bI z e2 ms y x Fr):=by
 revert b1 b2;exact dI (by kernel_rfl)
end
section
variable {prog:Program}{w:WW}{aa:Heap}{kt:KT}
theorem aJ.norm {lv:Nat}{fr:OE}{c:Code}{L L0 La Y:Ow}{P:Result→Ow→Prop}{k:Nat}(h1:nL (aT k L)=L0)(h2:aR k L=La)(z:∀ x,aJ prog w aa lv fr c (rt L0 x++La++Y) P):aJ prog w aa lv fr c (L++Y) P:=by
 obtain⟨x',jJ⟩:=il (aT k L);have z:=z x';rw[←h1,←h2] at z;intro A R Fr hh g d os tok size hA hf hD kk;refine z A R Fr hh g d os tok size hA hf ?_ kk;rw[←take_drop k L] at hD;simp only[a5] at hD ⊢;exact hD.same jJ.1.append
theorem aJ.jY {lv:Nat}{fr:OE}{o:Out}{c:Code}{ps:LN}{L0 La Y:Ow}{P:Result→Ow→Prop}{k:Nat}(h:(o.code,nL (aT k (o.get ps)),aR k (o.get ps))=(c,L0,La))(z:∀ x,aJ prog w aa lv fr c (rt L0 x++La++Y) P):aJ prog w aa lv fr o.code (o.get ps++Y) P:=by
 obtain⟨h1,h2,h3⟩:=pS h;rw[h1];exact aJ.norm h2 h3 z
def ug (p q:Nat×Obj):Nat:=by classical exact if p=q then 1 else 0
noncomputable def cnt (p:Nat×Obj):Ow→Nat
 |[]=>0
 |q::l=>ug p q+cnt p l
theorem f5 (p:Nat×Obj):∀ l m:Ow,cnt p (l++m)=cnt p l+cnt p m
 |[],m=>by simp[cnt]
 |q::l,m=>by show ug p q+cnt p (l++m)=ug p q+cnt p l+cnt p m;rw[f5 p l m];omega
theorem cnt_cons (p q:Nat×Obj)(l:Ow):cnt p (q::l)=ug p q+cnt p l:=rfl
theorem cnt_nil (p:Nat×Obj):cnt p []=0:=rfl
theorem MR {s t a b:Nat}(h:a=b)(e:s+b=t+a):s=t:=by omega
theorem cC {L L':Ow}(h:∀ p,cnt p L=cnt p L'):L.Perm L':=by
 classical
 rw[List.perm_iff_count];intro p;have e:∀ l:Ow,List.count p l=cnt p l:=by
  intro l
  induction l with
  |nil=>rfl
  |cons q l ih=>
   rw[List.count_cons,ih,cnt_cons];unfold ug;by_cases hq:p=q
   ·subst hq;simp;omega
   ·have:¬ q=p:=fun h=>hq h.symm
    simp[hq,this]
 rw[e,e,h]
theorem Rp.iF {aa h:Heap}{L1 Y N:Ow}{size:Nat}(D:Rp aa h (L1++Y) size)(e:nL L1=N):∃ x,Rp aa h (rt N x++Y) size:=by
 obtain⟨x,hx⟩:=il L1;exact⟨x,by rw[←e];exact D.same hx.1.append⟩
end
section
variable (b1 b2:Bool){w:WW}{aa:Heap}(B:BB w aa b1 b2)
include B
abbrev pn (w:World)(aa:Heap)(b1 b2:Bool):=aM pw (wd w b1 b2) aa
theorem zZ (w0:WW)(a:N2)(ta la r wa:Nat)(mv:ON)(W:List Way)(bq:∀ p∈W,p.ds≠[])(hW:W≠[])(hlen:W.length≤100)(e:Nat)(xt:Nat→Tk):
  pn w aa b1 b2 3 none (toF (bu (oneAt 0 (subAt [1,3] (gg (wt w0)))) (bS (wt w0) (a 0) (a 1)))) (rt [(a 0,ah (aB ta la (a 2) (some (r,some (wa,none)))))] xt++[(a 1,ai (cb mv)),(a 2,ab (ax W) e)]++aD W)
   (fun fin L=>∃ ml τ2 e2 y,fin=.done .next∧L=rt [(a 0,ah (aB ta la (a 2) (some (r,some (wa,none)))))] y++[(a 1,cR ml),(ml,ab (af (W.map fun p=>az p.ds) τ2) e2),(a 2,ab (ax W) e)]++aD W):=by
 refine sL (kt:=dF (wd w b1 b2)) fun A R Fr h g d os tok size hA hf hD kk=>?_;rw[a5] at hD;let b:=fun x=>je b1 b2 B w0 ta la r wa e (ax W) mv a xt x (aD W++Fr);refine fh B (lv:=2) (fr:=none) 9999 _ _ _ (fun x Fr=>CP b1 b2 B w0 ta la r wa e (ax W) mv a xt x Fr) trivial hA (fun _ z=>nomatch z) hD
  (fun x r' L=>∃ z e2 τ2 L1 y,r'=.ok .next∧nL L1=[(b x 0,ak [(S [111,110,101],.ref z)])]∧L=L1++[(b x 4,ab (af (W.map fun p=>az p.ds) τ2) e2),(a 2,ab (ax W) e)]++aD W++(rt [(a 0,ah (aB ta la (a 2) (some (r,some (wa,none)))))] y++[(a 1,ai (cb mv))])) (fun x=>?_) fun x1 r1 L1 h1 g1 qI fJ hP G1 uh D1=>?_
 ·refine(aJ.jY (CR b1 b2 B w0 ta la r wa e (ax W) mv a xt x (aD W++Fr)) fun y=>?_:)
  let a':N2:=ix [b x 0,b x 3,b x 4,a 2,a 0];have z:=(wV b1 b2 B w0 a' W bq hlen e 0 (fr:=none) (lv:=2) lr y).frame (rt [(a 0,ah (aB ta la (a 2) (some (r,some (wa,none)))))] (fun i=>y (i+1))++[(a 1,ai (cb mv))]);refine(aJ.perm z ?_).mono lr ?_
  ·show((rt [(b x 0,ak [])] y++rt [(a 0,ah (aB ta la (a 2) (some (r,some (wa,none)))))] (fun i=>y (i+1)))++[(a 1,ai (cb mv)),(b x 3,aq (a 2) 0),(b x 4,ab [] 0),(a 2,ab (ax W) e)]++aD W).Perm
    (rt [(b x 0,ak [])] y++[(b x 3,aq (a 2) 0),(b x 4,ab [] 0),(a 2,ab (ax W) e)]++aD W++(rt [(a 0,ah (aB ta la (a 2) (some (r,some (wa,none)))))] (fun i=>y (i+1))++[(a 1,ai (cb mv))]))
   exact pm [0,3,4,5,6,1,2]
  ·rintro r' L ⟨L',rfl,τ2,aQ,zz,L1,hz,hr,hn,rfl⟩
   cases zz with
   |none=>exact mw hW hz
   |some zz=>
    exact⟨zz,aQ,τ2,L1,_,hr,hn,rfl⟩
 ·obtain⟨z,e2,τ2,w4,y,rfl,hn,rfl⟩:=hP
  have rm:=D1.perm (L':=w4++(rt [(a 0,ah (aB ta la (a 2) (some (r,some (wa,none)))))] y++([(a 1,ai (cb mv)),(b x1 4,ab (af (W.map fun p=>az p.ds) τ2) e2),(a 2,ab (ax W) e)]++(aD W++Fr)))) ((pm [0,4,5,1,2,3,6]));obtain⟨y',D2⟩:=Rp.iF rm hn;have D3:Rp aa h1 (Br w0 ta la r wa e (ax W) mv z e2 (af (W.map fun p=>az p.ds) τ2) a (b x1) (fun i=>match i with|0=>y' 0|i+1=>y i)++(aD W++Fr)) fJ:=D2;refine l5 B (lv:=2) (fr:=none) 9999 _ _ _ (fun r L=>(r,nL (aT 1 L),aR 1 L)) (fun x L=>(wX w0 ta la r wa e (ax W) mv z e2 (af (W.map fun p=>az p.ds) τ2) a (b x1) (bJ (fun _ _=>0) x L),wY w0 ta la r wa e (ax W) mv z e2 (af (W.map fun p=>az p.ds) τ2) a (b x1) (bJ (fun _ _=>0) x L),sW w0 ta la r wa e (ax W) mv z e2 (af (W.map fun p=>az p.ds) τ2) a (b x1) (bJ (fun _ _=>0) x L)))
   (fun x nz=>CU b1 b2 B w0 ta la r wa e (ax W) mv a xt x1 (aD W++Fr) z e2 (af (W.map fun p=>az p.ds) τ2) (fun i=>match i with|0=>y' 0|i+1=>y i) x nz) uh hA (fun _ z=>nomatch z) D3 fun x2 r2 L2 h2 g2 k7 d7 hv G2 D4=>?_
  obtain⟨iG,i4,vi⟩:=pS hv;have iG:r2=.ok .next:=iG
  subst iG;obtain⟨y2,D5⟩:=Rp.iF (by rw[←take_drop 1 L2,a5] at D4;exact D4) i4;rw[vi] at D5;refine kk .next _ h2 g2 k7 d7 ⟨b x1 4,τ2,e2,y2,rfl,rfl⟩ (G1.trans G2) ?_
  have D6:Rp aa h2 (rt [(a 0,ah (aB ta la (a 2) (some (r,some (wa,none)))))] y2++([(a 1,cR (b x1 4)),(b x1 4,ab (af (W.map fun p=>az p.ds) τ2) e2),(a 2,ab (ax W) e)]++(aD W++Fr))) d7:=D5;simpa only[a5] using D6
theorem z0 (w0:WW)(a:N2)(ta la r wa nw:Nat)(mv:ON)(W:List Way)(bq:∀ p∈W,p.ds≠[])(hW:W≠[])(hlen:W.length≤100)(e:Nat)(xt:Nat→Tk):
  pn w aa b1 b2 3 none (toF (bu (oneAt 0 (subAt [1,3] (gg (wt w0)))) (bS (wt w0) (a 0) (a 1)))) (rt [(a 0,ah (aB ta la (a 2) (some (r,some (wa,some nw)))))] xt++[(a 1,ai (cb mv)),(a 2,ab (ax W) e)]++aD W)
   (fun fin L=>∃ ml τ2 e2 y,fin=.done .next∧L=rt [(a 0,ah (aB ta la (a 2) (some (r,some (wa,some nw)))))] y++[(a 1,cR ml),(ml,ab (af (W.map fun p=>az p.ds) τ2) e2),(a 2,ab (ax W) e)]++aD W):=by
 refine sL (kt:=dF (wd w b1 b2)) fun A R Fr h g d os tok size hA hf hD kk=>?_;rw[a5] at hD;let b:=fun x=>jf b1 b2 B w0 ta la r wa e (ax W) mv nw a xt x (aD W++Fr);refine fh B (lv:=2) (fr:=none) 9999 _ _ _ (fun x Fr=>CW b1 b2 B w0 ta la r wa e (ax W) mv nw a xt x Fr) trivial hA (fun _ z=>nomatch z) hD
  (fun x r' L=>∃ z e2 τ2 L1 y,r'=.ok .next∧nL L1=[(b x 0,ak [(S [111,110,101],.ref z)])]∧L=L1++[(b x 4,ab (af (W.map fun p=>az p.ds) τ2) e2),(a 2,ab (ax W) e)]++aD W++(rt [(a 0,ah (aB ta la (a 2) (some (r,some (wa,some nw)))))] y++[(a 1,ai (cb mv))])) (fun x=>?_) fun x1 r1 L1 h1 g1 qI fJ hP G1 uh D1=>?_
 ·refine(aJ.jY (CY b1 b2 B w0 ta la r wa e (ax W) mv nw a xt x (aD W++Fr)) fun y=>?_:)
  let a':N2:=ix [b x 0,b x 3,b x 4,a 2,a 0];have z:=(wV b1 b2 B w0 a' W bq hlen e 0 (fr:=none) (lv:=2) lr y).frame (rt [(a 0,ah (aB ta la (a 2) (some (r,some (wa,some nw)))))] (fun i=>y (i+1))++[(a 1,ai (cb mv))]);refine(aJ.perm z ?_).mono lr ?_
  ·show((rt [(b x 0,ak [])] y++rt [(a 0,ah (aB ta la (a 2) (some (r,some (wa,some nw)))))] (fun i=>y (i+1)))++[(a 1,ai (cb mv)),(b x 3,aq (a 2) 0),(b x 4,ab [] 0),(a 2,ab (ax W) e)]++aD W).Perm
    (rt [(b x 0,ak [])] y++[(b x 3,aq (a 2) 0),(b x 4,ab [] 0),(a 2,ab (ax W) e)]++aD W++(rt [(a 0,ah (aB ta la (a 2) (some (r,some (wa,some nw)))))] (fun i=>y (i+1))++[(a 1,ai (cb mv))]))
   exact pm [0,3,4,5,6,1,2]
  ·rintro r' L ⟨L',rfl,τ2,aQ,zz,L1,hz,hr,hn,rfl⟩
   cases zz with
   |none=>exact mw hW hz
   |some zz=>
    exact⟨zz,aQ,τ2,L1,_,hr,hn,rfl⟩
 ·obtain⟨z,e2,τ2,w4,y,rfl,hn,rfl⟩:=hP
  have rm:=D1.perm (L':=w4++(rt [(a 0,ah (aB ta la (a 2) (some (r,some (wa,some nw)))))] y++([(a 1,ai (cb mv)),(b x1 4,ab (af (W.map fun p=>az p.ds) τ2) e2),(a 2,ab (ax W) e)]++(aD W++Fr)))) ((pm [0,4,5,1,2,3,6]));obtain⟨y',D2⟩:=Rp.iF rm hn;have D3:Rp aa h1 (Bs w0 ta la r wa e (ax W) mv nw z e2 (af (W.map fun p=>az p.ds) τ2) a (b x1) (fun i=>match i with|0=>y' 0|i+1=>y i)++(aD W++Fr)) fJ:=D2;refine l5 B (lv:=2) (fr:=none) 9999 _ _ _ (fun r L=>(r,nL (aT 1 L),aR 1 L)) (fun x L=>(wZ w0 ta la r wa e (ax W) mv nw z e2 (af (W.map fun p=>az p.ds) τ2) a (b x1) (bJ (fun _ _=>0) x L),w3 w0 ta la r wa e (ax W) mv nw z e2 (af (W.map fun p=>az p.ds) τ2) a (b x1) (bJ (fun _ _=>0) x L),sX w0 ta la r wa e (ax W) mv nw z e2 (af (W.map fun p=>az p.ds) τ2) a (b x1) (bJ (fun _ _=>0) x L)))
   (fun x nz=>C2 b1 b2 B w0 ta la r wa e (ax W) mv nw a xt x1 (aD W++Fr) z e2 (af (W.map fun p=>az p.ds) τ2) (fun i=>match i with|0=>y' 0|i+1=>y i) x nz) uh hA (fun _ z=>nomatch z) D3 fun x2 r2 L2 h2 g2 k7 d7 hv G2 D4=>?_
  obtain⟨iG,i4,vi⟩:=pS hv;have iG:r2=.ok .next:=iG
  subst iG;obtain⟨y2,D5⟩:=Rp.iF (by rw[←take_drop 1 L2,a5] at D4;exact D4) i4;rw[vi] at D5;refine kk .next _ h2 g2 k7 d7 ⟨b x1 4,τ2,e2,y2,rfl,rfl⟩ (G1.trans G2) ?_
  have D6:Rp aa h2 (rt [(a 0,ah (aB ta la (a 2) (some (r,some (wa,some nw)))))] y2++([(a 1,cR (b x1 4)),(b x1 4,ab (af (W.map fun p=>az p.ds) τ2) e2),(a 2,ab (ax W) e)]++(aD W++Fr))) d7:=D5;simpa only[a5] using D6
end
section
variable {prog:Program}{w:WW}{aa:Heap}
theorem pq:plainId "list.__add__"=true:=by decide+kernel
theorem sY (a b:Nat)(vs ws:LV)(e e2:Nat)(hb:vs.length+ws.length≤1000):
  d3 prog w aa 0 (.builtin "list.__add__" ⟨[.ref a,.ref b],[]⟩) [(a,ab vs e),(b,ab ws e2)] (fun r L=>∃ c,r=.ok (.ret (.ref c))∧L=[(c,ab (vs++ws) 0),(a,ab vs e),(b,ab ws e2)]):=by
 refine sI pq PySem.F.entry_list_add (list_addW a b ⟨vs⟩ ⟨ws⟩ e e2 none none #[] #[] (by simp[sizeLine];omega)) ?_;intro A R Fr h gs d os tok size D kk;refine⟨D.get (.head _) (fun _=>rfl),D.get (.tail _ (.head _)) (fun _=>rfl),?_⟩;have D2:=D.alloc (o:=ab (vs++ws) 0) rfl;have es:h.objs.size=size:=D.sz;have ew:({cls:=.type "list",data:=.seq ((⟨vs⟩:Array Value)++⟨ws⟩)}:Obj)=ab (vs++ws) 0:=by simp[ab]
 have key:=kk (.ok (.ret (.ref size))) ((size,ab (vs++ws) 0)::[(a,ab vs e),(b,ab ws e2)]) (h.push (ab (vs++ws) 0)) gs tok (size+1) ⟨size,rfl,rfl⟩ (bh.refl _) D2;show R _ ⟨h.push {cls:=.type "list",data:=.seq ((⟨vs⟩:Array Value)++⟨ws⟩)},gs,d,tok,os⟩;rw[ew];show R (.ok (.ret (.ref h.objs.size))) _;rw[es];exact key
def C3 (vs ws:LV)(hb:vs.length+ws.length≤1000):Ent prog w aa:=
 fB 0 true true 0 (fun _ rs=> .builtin "list.__add__" ⟨[.ref (adr rs 0),.ref (adr rs 1)],[]⟩) (fun _ _=>[]) (fun _ rs=>[(adr rs 0,ab vs (aH rs 0)),(adr rs 1,ab ws (aH rs 1))])
  (fun _ _ b=> .ok (.ret (.ref (b 0)))) (fun _ _ _=>[]) (fun _ rs b=>[(b 0,ab (vs++ws) 0),(adr rs 0,ab vs (aH rs 0)),(adr rs 1,ab ws (aH rs 1))]) fun c rs t x=>
   (sY (adr rs 0) (adr rs 1) vs ws (aH rs 0) (aH rs 1) hb).mono lr fun r L hP=>by
    obtain⟨c,rfl,rfl⟩:=hP;exact⟨fun _=>c,[],rfl,rfl,rfl⟩
theorem oi {α:Type}(vs:List α):∀ n,(List.range n).filterMap (fun k=>vs[k]?)=vs.take n:=by
 intro n
 induction n with
 |zero=>rfl
 |succ n ih=>
  rw[List.range_succ,List.filterMap_append,ih,List.take_add_one];congr 1
theorem mz (vs:LV):(slicePick ⟨vs⟩ none (some (-1)) none).toList=vs.dropLast:=by
 have h1:sliceBounds none (some (-1)) none (⟨vs⟩:Array Value).size=(0,max 0 (min (-1+(vs.length:Int)) vs.length),1):=rfl;unfold slicePick;rw[h1];have h2:sliceRange 0 (max 0 (min (-1+(vs.length:Int)) vs.length)) 1=List.range (vs.length-1):=by
  unfold sliceRange;have hc:(if(0:Int)<max 0 (min (-1+(vs.length:Int)) vs.length) then(max 0 (min (-1+(vs.length:Int)) vs.length)-0+1-1) / 1 else 0).toNat=vs.length-1:=by
   split
   ·rw[Int.ediv_one];omega
   ·omega
  simp only[show((1:Int)>0) from by decide,if_true];rw[hc];conv=>rhs;rw[←List.map_id (List.range (vs.length-1))]
  refine List.map_congr_left fun k hk=>?_;show((0:Int)+1*(k:Int)).toNat=k;omega
 show((sliceRange 0 (max 0 (min (-1+(vs.length:Int)) vs.length)) 1).filterMap ((⟨vs⟩:Array Value)[·]?))=vs.dropLast
 rw[h2,List.dropLast_eq_take,←oi];exact cg fun k _=>by simp
end
def Kw (w0:WW)(ta la r:Nat)(fv:ON)(a:N2):SX (Sem Fin) Result:=sC (ir (eW (jv (gP (wt w0))) (bS (wt w0) (a 0) (a 3)))) [(a 0,ah (aB ta la (a 2) (some (r,some ((a 1),fv)))))] [] (fun b f=> .ok (.ret (.ref (a 1))))
section
variable (b1 b2:Bool){w:WW}{aa:Heap}(B:BB w aa b1 b2)
include B
theorem N7 (w0:WW)(ta la r:Nat)(fv:ON)(a:N2){frx:OE}:hH pw (wd w b1 b2) aa 2 frx true (Kw w0 ta la r fv a):=
 gJ B aO.none [.o 0] z2 z3 [0] 0 1 (fun _ _ _ h=>nomatch h) fun x X Fr=>by revert b1 b2 fv;exact d4 (by kernel_rfl)
def Kx (w0:WW)(ta la r:Nat)(a:N2):SX (Sem Fin) Result:=sB (ir (eW (gO (gP (wt w0))) (bS (wt w0) (a 0) (a 1)))) [] [] (fun b f=> .ok (.ret (.ref (b 0)))) (fun b f=>[(b 0,ab [] 0)])
theorem N8 (w0:WW)(ta la r:Nat)(a:N2){frx:OE}:hH pw (wd w b1 b2) aa 2 frx true (Kx w0 ta la r a):=
 gJ B aO.none [] z2 z3 [0] 0 0 (fun _ _ _ h=>nomatch h) fun x X Fr=>by revert b1 b2;exact dI (by kernel_rfl)
def Ky (w0:WW)(ta la r:Nat)(a:N2):SX (Sem Fin) Result:=sC (ir (eW (jv (bj (nj (wt w0)))) (bS (wt w0) (a 0) (a 3)))) [(a 0,ah (aB ta la (a 2) (some (r,some ((a 1),(some (a 4)))))))] [] (fun b f=> .ok (.ret (.ref (a 4))))
theorem N9 (w0:WW)(ta la r:Nat)(a:N2){frx:OE}:hH pw (wd w b1 b2) aa 2 frx true (Ky w0 ta la r a):=
 gJ B aO.none [.o 0] z2 z3 [0] 0 1 (fun _ _ _ h=>nomatch h) fun x X Fr=>by revert b1 b2;exact dI (by kernel_rfl)
def Kz (w0:WW)(ta la r:Nat)(a:N2):SX (Sem Fin) Result:=sB (ir (eW (gO (bj (nj (wt w0)))) (bS (wt w0) (a 0) (a 1)))) [] [] (fun b f=> .ok (.ret (.ref (b 0)))) (fun b f=>[(b 0,ab [] 0)])
theorem N' (w0:WW)(ta la r:Nat)(a:N2){frx:OE}:hH pw (wd w b1 b2) aa 2 frx true (Kz w0 ta la r a):=
 gJ B aO.none [] z2 z3 [0] 0 0 (fun _ _ _ h=>nomatch h) fun x X Fr=>by revert b1 b2;exact dI (by kernel_rfl)
def KA (w0:WW)(la r:Nat)(fv:ON)(wv tv:LV)(we te er em d:Nat)(t:Tok)(τ c9:NT)(ms:LN)(a:N2):SX (Sem Fin) Result:=⟨toF (bu (oneAt 1 (subAt [1,3] (gg (wt w0)))) (bS (wt w0) (a 0) (a 1))),[(a 0,ah (aB (a 3) la (a 6) (some (r,some ((a 2),fv)))))],[(a 1,cR (a 5)),(a 2,ab wv we),(a 3,ab tv te),(a 4,ab (af [] τ) er),(a 5,ab (af ms c9) em)],fun b f=> .ok .next,fun b f=>[(a 0,ah (aB (a 3) la (a 6) (some (r,some ((a 2),(some (b 2)))))))],fun b f=>[(a 1,cR (a 5)),(b 2,ab [] (b 1000)),(a 2,ab wv we),(a 3,ab tv te),(a 4,ab (af [] τ) er),(a 5,ab (af ms c9) em)]⟩
theorem Oa (w0:WW)(la r:Nat)(fv:ON)(wv tv:LV)(we te er em d:Nat)(t:Tok)(τ c9:NT)(ms:LN)(a:N2)(hd:d<1000)(hy:wv.getLast?=some (.int d t))(yJ:tv[d]?=some (.ref (a 4))) {frx:OE}:hH pw (wd w b1 b2) aa 3 frx true (KA w0 la r fv wv tv we te er em d t τ c9 ms a):=
 gJ B aO.none (ol 0x11bb333 (.u [2] (jW wv (.int d t) hy)::(ol 0x444 (.u [3] (aY tv d (.ref (a 4)) hd yJ)::(ol 0x55b5b1 (.u [0,5,1,0,3,3] (zW B w0 τ ms c9)::(ol 0x881 []))))))) (fe [(14,1)]) z3 [7,1,1,4,3,1,1] 1 1 (fun _ _ _ h=>nomatch h) fun x X Fr=>by revert b1 b2 fv;exact d4 (by kernel_rfl)
def KC (w0:WW)(la r:Nat)(fv:ON)(wv tv:LV)(we te er em d:Nat)(t:Tok)(τ c9:NT)(ms:LN)(b0:Nat)(row:LN)(a:N2):SX (Sem Fin) Result:=⟨toF (bu (oneAt 1 (subAt [1,3] (gg (wt w0)))) (bS (wt w0) (a 0) (a 1))),[(a 0,ah (aB (a 3) la (a 6) (some (r,some ((a 2),fv)))))],[(a 1,cR (a 5)),(a 2,ab wv we),(a 3,ab tv te),(a 4,ab (af (b0::row) τ) er),(a 5,ab (af ms c9) em)],fun b f=> .ok .next,fun b f=>[(a 0,ah (aB (a 3) la (a 6) (some (r,some ((a 2),(some (b 2)))))))],fun b f=>[(a 1,cR (a 5)),(b 2,ab (af ((b0::row).filter fun d=>decide (d∉ms)) (f 0)) (b 1000)),(a 2,ab wv we),(a 3,ab tv te),(a 4,ab (af (b0::row) τ) er),(a 5,ab (af ms c9) em)]⟩
theorem Ob (w0:WW)(la r:Nat)(fv:ON)(wv tv:LV)(we te er em d:Nat)(t:Tok)(τ c9:NT)(ms:LN)(b0:Nat)(row:LN)(a:N2)(hd:d<1000)(hy:wv.getLast?=some (.int d t))(yJ:tv[d]?=some (.ref (a 4))) (hlen:(b0::row).length≤100) {frx:OE}:hH pw (wd w b1 b2) aa 3 frx true (KC w0 la r fv wv tv we te er em d t τ c9 ms b0 row a):=
 gJ B aO.none (ol 0x11bb333 (.u [2] (jW wv (.int d t) hy)::(ol 0x444 (.u [3] (aY tv d (.ref (a 4)) hd yJ)::(ol 0x55b5b1 (.u [0,5,1,0,3,3] (wW B w0 b0 row τ ms c9 hlen)::(ol 0x88111 []))))))) (fe [(14,1)]) (oP [(14,0)]) [7,1,1,4,3,1,1] 1 1 (fun _ _ _ h=>nomatch h) fun x X Fr=>by revert b1 b2 fv;exact d4 (by kernel_rfl)
def KD (w0:WW)(ta la r:Nat)(nw:Nat)(wv ws:LV)(we:Nat)(a:N2):SX (Sem Fin) Result:=⟨toF (bu (subAt [1,3,2,0] (gg (wt w0))) (bS (wt w0) (a 0) (a 3))),[(a 0,ah (aB ta la (a 2) (some (r,some ((a 1),(some nw))))))],[(a 1,ab wv we)],fun b f=> .ok .next,fun b f=>[(a 0,ah (aB ta la (a 2) (some (r,some ((b 1),(some nw))))))],fun b f=>[(b 1,ab ws 0),(a 1,ab wv we)]⟩
theorem Oc (w0:WW)(ta la r:Nat)(nw:Nat)(wv ws:LV)(we:Nat)(a:N2)(hw:(slicePick ⟨wv⟩ none (some (-1)) none).toList=ws)(hb:wv.length≤1000){frx:OE}:hH pw (wd w b1 b2) aa 2 frx true (KD w0 ta la r nw wv ws we a):=
 gJ B aO.none (ol 0x1bb333 (.u [0,1] (gj wv ws none (some (-1)) none (by decide) hw hb)::(ol 0x33 []))) z2 z3 [2,0,0] 0 1 (fun _ _ _ h=>nomatch h) fun x X Fr=>by revert b1 b2;exact dI (by kernel_rfl)
def KG (w0:WW)(ta la r:Nat)(wv nv dz:LV)(we ne se:Nat)(k:Nat)(tk:Tok)(a:N2):SX (Sem Fin) Result:=⟨toF (bu (subAt [1,3,2,1] (gg (wt w0))) (bS (wt w0) (a 0) (a 4))),[(a 0,ah (aB ta la (a 3) (some (r,some ((a 1),(some (a 2)))))))],[(a 1,ab wv we),(a 2,ab nv ne),(a 3,ab dz se)],fun b f=> .ok .next,fun b f=>[(a 0,ah (aB ta la (a 3) (some (r,some ((b 1),(some (a 2)))))))],fun b f=>[(b 1,ab (wv++[.int k tk]) 0),(a 1,ab wv we),(a 2,ab nv ne),(a 3,ab (dz++[.ref (b 1)]) (se+1))]⟩
theorem Od (w0:WW)(ta la r:Nat)(wv nv dz:LV)(we ne se:Nat)(k:Nat)(tk:Tok)(a:N2)(hn:nv[0]?=some (.int k tk)) (hb:wv.length+1≤1000) (hs:dz.length≤1000) {frx:OE}:hH pw (wd w b1 b2) aa 2 frx true (KG w0 ta la r wv nv dz we ne se k tk a):=
 gJ B aO.none (ol 0x11333 (.u [2] (aY nv 0 (.int k tk) (by decide) hn)::(ol 0x414b4 (.u [3,0] (C3 wv [.int k tk] hb)::(ol 0x55566665b6 (.u [5] (bD dz hs)::[])))))) z2 z3 [5,1,1,2,0] 1 1 (fun _ _ _ h=>nomatch h) fun x X Fr=>by revert b1 b2;exact dI (by kernel_rfl)
end
section
variable {prog:Program}{w:WW}{aa:Heap}
theorem aJ.drop {lv:Nat}{fr:OE}{c:Code}{rs:Ow}{P:Result→Ow→Prop}(h:aJ prog w aa lv fr c rs (fun r L=>∃ L' Gb,L=L'++Gb∧P r L')):aJ prog w aa lv fr c rs P:=
 fun A R Fr h' g d os tok size hA hf hD kk=>h A R Fr h' g d os tok size hA hf hD fun r L h' g' t s hP G D=>by
  obtain⟨L',Gb,rfl,hp⟩:=hP;exact kk r L' h' g' t s hp G (D.sub (by rw[a5];exact(List.Sublist.refl L').append (List.sublist_append_right Gb Fr)))
theorem ui (w0:WW):gP (wt w0)=.Compare (jv (gP (wt w0))) [.NotEq] [gO (gP (wt w0))] (qk (gP (wt w0))):=by kernel_rfl
theorem uj (w0:WW):bj (nj (wt w0))=.Compare (jv (bj (nj (wt w0)))) [.Eq] [gO (bj (nj (wt w0)))] (qk (bj (nj (wt w0)))):=by kernel_rfl
theorem w5 (w0:WW):zt (wt w0)=[me (eX 0 (zt (wt w0))),me (eX 1 (zt (wt w0))),.If (bj (nj (wt w0))) (subAt [1,3,2,0] (gg (wt w0))) (subAt [1,3,2,1] (gg (wt w0))) (sM (nj (wt w0)))]:=by kernel_rfl
theorem w6 (w0:WW):oneAt 0 (subAt [1,3] (gg (wt w0)))=[me (eX 0 (zt (wt w0)))]:=by kernel_rfl
theorem w7 (w0:WW):oneAt 1 (subAt [1,3] (gg (wt w0)))=[me (eX 1 (zt (wt w0)))]:=by kernel_rfl
theorem iH (w0:WW)(fr ce:Nat):qi (wt w0) fr ce=.whileLoop (gP (wt w0)) (zt (wt w0)) [] (bS (wt w0) fr ce):=by kernel_rfl
theorem KH (w0:WW):behindInMarks .NotEq (gO (gP (wt w0)))=false:=by kernel_rfl
theorem KI (w0:WW):behindInMarks .Eq (gO (bj (nj (wt w0))))=false:=by kernel_rfl
end
section
variable (b1 b2:Bool){w:WW}{aa:Heap}(B:BB w aa b1 b2)
include B
theorem pv (w0:WW)(fr ce wl ta la r wa:Nat)(fv:ON)(vs:LV)(e:Nat)(whole:Sem Value)(Y:Ow)(x:Nat→Tk):
  pn w aa b1 b2 2 none (isTrue (gP (wt w0)) (bS (wt w0) fr ce) whole) (rt [(fr,ah (aB ta la wl (some (r,some (wa,fv)))))] x++[(wa,ab vs e)]++Y)
   (fun b L=>b=!vs.isEmpty∧∃ x' c,L=(c,ab [] 0)::(rt [(fr,ah (aB ta la wl (some (r,some (wa,fv)))))] x'++[(wa,ab vs e)]++Y)):=by
 rw[ui];let a:N2:=ix [fr,wa,wl,ce];let a':N2:=ix [fr,ce];refine(iu (v:=!vs.isEmpty) (P1:=fun v L=>v=.ref wa∧∃ x',L=rt [(fr,ah (aB ta la wl (some (r,some (wa,fv)))))] x'++[(wa,ab vs e)]++Y)
  (P2:=fun v u L=>v=.ref wa∧∃ x' c,u=.ref c∧L=(c,ab [] 0)::(rt [(fr,ah (aB ta la wl (some (r,some (wa,fv)))))] x'++[(wa,ab vs e)]++Y)) (KH w0) ?_ ?_ ?_).mono lr ?_
 ·have z:=ft ((N7 b1 b2 B w0 ta la r fv a (frx:=none)).use ([(wa,ab vs e)]++Y) x)
  refine z.mono lr fun v L hP=>?_;obtain⟨q,b,f,x',hq,hr,rfl⟩:=hP;cases hq;have eT:(Except.ok (.ret v):Result)=.ok (.ret (.ref wa)):=hr;injection eT with eT
  injection eT with eT
  exact⟨eT,x',rfl⟩
 ·rintro v L ⟨rfl,x',rfl⟩
  have z:=ft (((N8 b1 b2 B w0 ta la r a' (frx:=none)).use (rt [(fr,ah (aB ta la wl (some (r,some (wa,fv)))))] x'++[(wa,ab vs e)]++Y) x));refine(aM.perm z (.refl _)).mono lr fun v L hP=>?_;obtain⟨q,b,f,cG,hq,hr,rfl⟩:=hP;cases hq;have eT:(Except.ok (.ret v):Result)=.ok (.ret (.ref (b 0))):=hr;injection eT with eT
  injection eT with eT
  exact⟨rfl,x',b 0,eT,rfl⟩
 ·rintro v u L ⟨rfl,x',c,rfl,rfl⟩ A s Fr size hA hD E Q hQ
  have:=hA.un;exact vX (e1:=e) (e2:=0) (hD.get (by simp) (fun _=>rfl)) (hD.get (by simp) (fun _=>rfl)) (by omega) hQ
 ·rintro v L ⟨rfl,p,q,rfl,x',c,rfl,rfl⟩
  exact⟨rfl,x',c,rfl⟩
theorem sZ (w0:WW)(fr ce wl ta la r wa nl:Nat)(vs:LV)(e:Nat)(whole:Sem Value)(Y:Ow)(x:Nat→Tk):
  pn w aa b1 b2 2 none (isTrue (bj (nj (wt w0))) (bS (wt w0) fr ce) whole) (rt [(fr,ah (aB ta la wl (some (r,some (wa,some nl)))))] x++[(nl,ab vs e)]++Y)
   (fun b L=>b=vs.isEmpty∧∃ x' c,L=(c,ab [] 0)::(rt [(fr,ah (aB ta la wl (some (r,some (wa,some nl)))))] x'++[(nl,ab vs e)]++Y)):=by
 rw[uj];let a:N2:=ix [fr,wa,wl,ce,nl];let a':N2:=ix [fr,ce];refine(iu (v:=vs.isEmpty) (P1:=fun v L=>v=.ref nl∧∃ x',L=rt [(fr,ah (aB ta la wl (some (r,some (wa,some nl)))))] x'++[(nl,ab vs e)]++Y)
  (P2:=fun v u L=>v=.ref nl∧∃ x' c,u=.ref c∧L=(c,ab [] 0)::(rt [(fr,ah (aB ta la wl (some (r,some (wa,some nl)))))] x'++[(nl,ab vs e)]++Y)) (KI w0) ?_ ?_ ?_).mono lr ?_
 ·have z:=ft ((N9 b1 b2 B w0 ta la r a (frx:=none)).use ([(nl,ab vs e)]++Y) x)
  refine z.mono lr fun v L hP=>?_;obtain⟨q,b,f,x',hq,hr,rfl⟩:=hP;cases hq;have eT:(Except.ok (.ret v):Result)=.ok (.ret (.ref nl)):=hr;injection eT with eT
  injection eT with eT
  exact⟨eT,x',rfl⟩
 ·rintro v L ⟨rfl,x',rfl⟩
  have z:=ft (((N' b1 b2 B w0 ta la r a' (frx:=none)).use (rt [(fr,ah (aB ta la wl (some (r,some (wa,some nl)))))] x'++[(nl,ab vs e)]++Y) x));refine(aM.perm z (.refl _)).mono lr fun v L hP=>?_;obtain⟨q,b,f,cG,hq,hr,rfl⟩:=hP;cases hq;have eT:(Except.ok (.ret v):Result)=.ok (.ret (.ref (b 0))):=hr;injection eT with eT
  injection eT with eT
  exact⟨rfl,x',b 0,eT,rfl⟩
 ·rintro v u L ⟨rfl,x',c,rfl,rfl⟩ A s Fr size hA hD E Q hQ
  have:=hA.un;exact qg (e1:=e) (e2:=0) (hD.get (by simp) (fun _=>rfl)) (hD.get (by simp) (fun _=>rfl)) (by omega) hQ
 ·rintro v L ⟨rfl,p,q,rfl,x',c,rfl,rfl⟩
  exact⟨rfl,x',c,rfl⟩
end
theorem mA:∀ (ds:LN)(τ:NT),(af ds τ).dropLast=af ds.dropLast τ
 |[],_=>rfl
 |[_],_=>rfl
 |d::d'::ds,τ=>by
  have z:=mA (d'::ds) (fun i=>τ (i+1));exact congrArg (List.cons (Value.int (d:Nat) (τ 0))) z
section
variable (b1 b2:Bool){w:WW}{aa:Heap}(B:BB w aa b1 b2)
include B
theorem Bt (w0:WW)(fr ce wl ta la r wa ra ml:Nat)(fv:ON)(mB:LN)(hw:mB≠[])(ia:NT)(we:Nat)(hd:az mB<5)(tv:LV)(yJ:tv[az mB]?=some (.ref ra)) (te:Nat) (row:LN) (iJ:row.length≤100) (τ:NT) (er:Nat) (ms:LN) (c9:NT) (em:Nat) (Y:Ow) (x:Nat→Tk):
  pn w aa b1 b2 3 none (execs [me (eX 1 (zt (wt w0)))] (bS (wt w0) fr ce)) (rt [(fr,ah (aB ta la wl (some (r,some (wa,fv)))))] x++[(ce,cR ml),(wa,ab (af mB ia) we),(ta,ab tv te),(ra,ab (af row τ) er),(ml,ab (af ms c9) em)]++Y)
   (fun f L=>f=.next∧∃ x' nl bG e',L=rt [(fr,ah (aB ta la wl (some (r,some (wa,some nl)))))] x'++[(ce,cR ml),(nl,ab (af (row.filter fun d=>decide (d∉ms)) bG) e'),(wa,ab (af mB ia) we),(ta,ab tv te),(ra,ab (af row τ) er),(ml,ab (af ms c9) em)]++Y):=by
 rw[←w7];obtain⟨t,ht⟩:=jB ia hw;let a:N2:=ix [fr,ce,wa,ta,ra,ml,wl];cases row with
 |nil=>
  have z:=dc ((Oa b1 b2 B w0 la r fv (af mB ia) tv we te er em (az mB) t τ c9 ms a (by omega) ht yJ (frx:=none)).use Y x);refine(aM.perm z (.refl _)).mono lr fun v L hP=>?_;obtain⟨q,b,f,x',hq,hr,rfl⟩:=hP;cases hq;have eT:(Except.ok v:Result)=.ok .next:=hr
  injection eT with eT
  exact⟨eT,x',_,fun _=>0,_,rfl⟩
 |cons b0 row=>
  have z:=dc ((Ob b1 b2 B w0 la r fv (af mB ia) tv we te er em (az mB) t τ c9 ms b0 row a (by omega) ht yJ iJ (frx:=none)).use Y x);refine(aM.perm z (.refl _)).mono lr fun v L hP=>?_;obtain⟨q,b,f,x',hq,hr,rfl⟩:=hP;cases hq;have eT:(Except.ok v:Result)=.ok .next:=hr
  injection eT with eT
  exact⟨eT,x',_,f 0,_,rfl⟩
theorem Ho (w0:WW)(fr ce wl ta la r wa nw:Nat)(mB:LN)(hw:mB.length≤200)(ia:NT)(we:Nat)(Y:Ow)(x:Nat→Tk):
  pn w aa b1 b2 2 none (execs (subAt [1,3,2,0] (gg (wt w0))) (bS (wt w0) fr ce)) (rt [(fr,ah (aB ta la wl (some (r,some (wa,some nw)))))] x++[(wa,ab (af mB ia) we)]++Y)
   (fun f L=>f=.next∧∃ x' dh,L=rt [(fr,ah (aB ta la wl (some (r,some (dh,some nw)))))] x'++[(dh,ab (af mB.dropLast ia) 0),(wa,ab (af mB ia) we)]++Y):=by
 let a:N2:=ix [fr,wa,wl,ce];have z:=dc ((Oc b1 b2 B w0 ta la r nw (af mB ia) (af mB.dropLast ia) we a (by rw[mz,mA]) (by rw[bf];omega) (frx:=none)).use Y x);refine(aM.perm z (.refl _)).mono lr fun v L hP=>?_;obtain⟨q,b,f,x',hq,hr,rfl⟩:=hP;cases hq;have eT:(Except.ok v:Result)=.ok .next:=hr
 injection eT with eT
 exact⟨eT,x',_,rfl⟩
theorem C4 (w0:WW)(fr ce wl ta la r wa nl:Nat)(mB:LN)(hw:mB.length≤200)(ia:NT)(we:Nat)(n:Nat)(ns:LN)(kP:NT)(ne:Nat)(dz:LV)(se:Nat)(hs:dz.length≤200)(Y:Ow)(x:Nat→Tk):
  pn w aa b1 b2 2 none (execs (subAt [1,3,2,1] (gg (wt w0))) (bS (wt w0) fr ce)) (rt [(fr,ah (aB ta la wl (some (r,some (wa,some nl)))))] x++[(wa,ab (af mB ia) we),(nl,ab (af (n::ns) kP) ne),(wl,ab dz se)]++Y)
   (fun f L=>f=.next∧∃ x' dh bG,L=rt [(fr,ah (aB ta la wl (some (r,some (dh,some nl)))))] x'++[(dh,ab (af (mB++[n]) bG) 0),(wa,ab (af mB ia) we),(nl,ab (af (n::ns) kP) ne),(wl,ab (dz++[.ref dh]) (se+1))]++Y):=by
 let a:N2:=ix [fr,wa,nl,wl,ce];have z:=dc ((Od b1 b2 B w0 ta la r (af mB ia) (af (n::ns) kP) dz we ne se n (kP 0) a rfl (by rw[bf];omega) (by omega) (frx:=none)).use Y x);refine(aM.perm z (.refl _)).mono lr fun v L hP=>?_;obtain⟨q,b,f,x',hq,hr,rfl⟩:=hP;cases hq;have eT:(Except.ok v:Result)=.ok .next:=hr
 injection eT with eT
 refine⟨eT,x',b 1,bW mB.length ia (kP 0),?_⟩;rw[←cn];rfl
end
inductive kl (T:Nat→List Nat):List LN→List Nat→List LN→Prop
 |done {ws}:kl T ws [] ws
 |pop {ws way out} (bq:way≠[]) (hd:az way<5) (hl:way.length≤100) (hr:(T (az way)).length≤100) (hm:ws.length≤100) (h:(T (az way)).filter (fun d=>decide (d∉ws.map az))=[]) (z:kl T ws way.dropLast out):kl T ws way out
 |push {ws way n ns out} (bq:way≠[]) (hd:az way<5) (hl:way.length≤100) (hr:(T (az way)).length≤100) (hm:ws.length≤100) (h:(T (az way)).filter (fun d=>decide (d∉ws.map az))=n::ns) (z:kl T (ws++[way++[n]]) (way++[n]) out):kl T ws way out
def C5 (W:List Way)(wa:Nat)(ds:LN)(X:Ow):Prop:=(X=[]∧∃ p∈W,p.a=wa∧p.ds=ds)∨∃ τ e,X=[(wa,ab (af ds τ) e)]
theorem km {W:List Way}{wa:Nat}{ds:LN}{X:Ow}(h:C5 W wa ds X):∃ τ e R,(aD W++X).Perm ((wa,ab (af ds τ) e)::R):=by
 rcases h with⟨rfl,p,hp,rfl,rfl⟩|⟨τ,e,rfl⟩
 ·obtain⟨i,hi,rfl⟩:=List.mem_iff_getElem.mp hp
  exact⟨W[i].τ,W[i].e,aD (W.take i++W.drop (i+1)),by rw[ck];exact dN hi⟩
 ·exact⟨τ,e,aD W,List.perm_append_comm⟩
section
variable (b1 b2:Bool){w:WW}{aa:Heap}(B:BB w aa b1 b2)
include B
theorem Bu (w0:WW)(fr ce wl ta la r wa:Nat)(fv mv:ON)(W:List Way)(bq:∀ p∈W,p.ds≠[])(hW:W≠[])(hlen:W.length≤100)(e:Nat)(Y:Ow)(x:Nat→Tk):
  pn w aa b1 b2 3 none (execs [me (eX 0 (zt (wt w0)))] (bS (wt w0) fr ce)) (rt [(fr,ah (aB ta la wl (some (r,some (wa,fv)))))] x++[(ce,ai (cb mv)),(wl,ab (ax W) e)]++aD W++Y)
   (fun f L=>f=.next∧∃ x' ml τ2 e2,L=rt [(fr,ah (aB ta la wl (some (r,some (wa,fv)))))] x'++[(ce,cR ml),(ml,ab (af (W.map fun p=>az p.ds) τ2) e2),(wl,ab (ax W) e)]++aD W++Y):=by
 rw[←w6];let a:N2:=ix [fr,ce,wl];cases fv with
 |none=>
  refine((dc (zZ b1 b2 B w0 a ta la r wa mv W bq hW hlen e x)).frame Y).mono lr fun f L hP=>?_;obtain⟨L',rfl,ml,τ2,e2,y,hf,rfl⟩:=hP;injection hf with hf
  exact⟨hf,y,ml,τ2,e2,rfl⟩
 |some nw=>
  refine((dc (z0 b1 b2 B w0 a ta la r wa nw mv W bq hW hlen e x)).frame Y).mono lr fun f L hP=>?_;obtain⟨L',rfl,ml,τ2,e2,y,hf,rfl⟩:=hP;injection hf with hf
  exact⟨hf,y,ml,τ2,e2,rfl⟩
end
theorem f6 {L L':Ow}(h:L.Perm L')(p:Nat×Obj):cnt p L=cnt p L':=by
 induction h with
 |nil=>rfl
 |cons q _ ih=>rw[cnt_cons,cnt_cons,ih]
 |swap q q' l=>simp only[cnt_cons];omega
 |trans _ _ i1 i2=>rw[i1,i2]
section
variable (b1 b2:Bool){w:WW}{aa:Heap}(B:BB w aa b1 b2)
include B
theorem w8 (w0:WW)(fr ce wl ta la r:Nat)(rr:N2)(T:Nat→List Nat)(ay:Nat→Nat→Tok)(er:N2)(te:Nat){ws:List LN}{way:LN}{out:List LN}(h:kl T ws way out):
  ∀ (W:List Way)(yK:W.map Way.ds=ws)(bq:∀ p∈W,p.ds≠[])(hW:W≠[])(wa:Nat)(X:Ow)(hs:C5 W wa way X)(fv mv:ON)(e:Nat)(x:Nat→Tk)(Gb:Ow),
  gh w aa b1 b2 3 none (qi (wt w0) fr ce) (rt [(fr,ah (aB ta la wl (some (r,some (wa,fv)))))] x++[(ce,ai (cb mv)),(wl,ab (ax W) e),(ta,ab (au rr) te)]++aA rr T ay er++aD W++X++Gb)
   (fun r' L=>∃ W' dh eJ fQ e' x' fR,r'=.ok .next∧W'.map Way.ds=out∧(∀ p∈W',p.ds≠[])∧((fv.isSome∨way≠[])→eJ.isSome)∧
    L.Perm (rt [(fr,ah (aB ta la wl (some (r,some (dh,eJ)))))] x'++[(ce,ai (cb fQ)),(wl,ab (ax W') e'),(ta,ab (au rr) te)]++aA rr T ay er++aD W'++fR)):=by
 induction h with
 |@done ws=>
  intro W yK bq hW wa X hs fv mv e x Gb;obtain⟨ia,we,R,hR⟩:=km hs;rw[iH];refine kc (P1:=fun b L=>b=false∧∃ x' c,L=(c,ab [] 0)::(rt [(fr,ah (aB ta la wl (some (r,some (wa,fv)))))] x'++[(wa,ab (af [] ia) we)]++([(ce,ai (cb mv)),(wl,ab (ax W) e),(ta,ab (au rr) te)]++aA rr T ay er++R++Gb))) (P2:=fun _=>False)
   (aM.perm ((pv b1 b2 B w0 fr ce wl ta la r wa fv (af [] ia) we _ ([(ce,ai (cb mv)),(wl,ab (ax W) e),(ta,ab (au rr) te)]++aA rr T ay er++R++Gb) x).mono (Nat.le_succ 2) fun v L hP=>hP) ?_) ?_ ?_ ?_
  ·exact i' [5,6,0,1,2,3,4,7] [1,6,0,2,3,4,5,7] hR
  ·rintro L ⟨hb,_⟩;cases hb
  ·rintro L ⟨_,x',c,rfl⟩
   refine fD ⟨W,wa,fv,mv,e,x',X++Gb++[(c,ab [] 0)],rfl,yK,bq,fun hh=>hh.elim id fun hh=>absurd rfl hh,?_⟩;exact i' [2,7,0,1,3,4,5,6,8] [5,6,8,0,1,2,3,4,7] hR.symm
  ·intro _ hf;exact hf.elim
 |@pop ws way out w9 hd hl hr hm hf z ih=>
  intro W yK bq hW wa X hs fv mv e x Gb;obtain⟨ia,we,R,hR⟩:=km hs;have Hq:W.length≤100:=by rw[←yK,bU] at hm;exact hm
  have C6:W.map (fun p=>az p.ds)=ws.map az:=by rw[←yK,List.map_map];rfl
  have KJ:(af way ia).isEmpty=false:=by cases way with|nil=>exact absurd rfl w9|cons d ds=>rfl
  have lF:=eE rr T ay er (az way) hd;let Q:Ow→Prop:=fun L=>∃ dh X' nl ml x' fR,C5 W dh way.dropLast X'∧L.Perm (rt [(fr,ah (aB ta la wl (some (r,some (dh,some nl)))))] x'++[(ce,ai (cb (some ml))),(wl,ab (ax W) e),(ta,ab (au rr) te)]++aA rr T ay er++aD W++X'++fR);let P:Result→Ow→Prop:=fun r' L=>∃ W' dh eJ fQ e' x' fR,r'=.ok .next∧W'.map Way.ds=out∧(∀ p∈W',p.ds≠[])∧((fv.isSome∨way≠[])→eJ.isSome)∧L.Perm (rt [(fr,ah (aB ta la wl (some (r,some (dh,eJ)))))] x'++[(ce,ai (cb fQ)),(wl,ab (ax W') e'),(ta,ab (au rr) te)]++aA rr T ay er++aD W'++fR)
  show aJ _ _ _ _ _ _ _ P;let D:Ow:=(others (az way)).map (bo rr T ay er);let Z:Ow:=[(ce,ai (cb mv)),(wl,ab (ax W) e),(ta,ab (au rr) te)]++aA rr T ay er++R++Gb;let F:ON→(Nat→Tk)→Ow:=fun n=>rt [(fr,ah (aB ta la wl (some (r,some (wa,n)))))];let V:Nat×Obj:=(rr (az way),ab (af (T (az way)) (ay (az way))) (er (az way)));let M:Nat→(NT)→Nat→Nat×Obj:=fun m τ e=>(m,ab (af (ws.map az) τ) e);let N:Nat→Ow:=fun c=>[(wl,ab (ax W) e)]++R++D++Gb++[(c,ab [] 0)];let U:Nat→(NT)→Nat→Nat→Ow:=fun ml τ2 e2 c=>[(ce,cR ml),(wa,ab (af way ia) we),(ta,ab (au rr) te),V,M ml τ2 e2]++N c;rw[iH];refine kc (P1:=fun b L=>b=true∧∃ x' c,L=(c,ab [] 0)::(F fv x'++[(wa,ab (af way ia) we)]++Z))
   (P2:=Q)
   (aM.perm ((pv b1 b2 B w0 fr ce wl ta la r wa fv (af way ia) we _ Z x).mono (Nat.le_succ 2) fun v L hP=>⟨by rw[hP.1,KJ];rfl,hP.2⟩) ?_) ?_ ?_ ?_
  ·exact i' [5,6,0,1,2,3,4,7] [1,6,0,2,3,4,5,7] hR
  ·rintro L ⟨_,x1,c,rfl⟩
   rw[w5];refine bF (de (aM.perm (Bu b1 b2 B w0 fr ce wl ta la r wa fv mv W bq hW Hq e ([(ta,ab (au rr) te)]++aA rr T ay er++X++Gb++[(c,ab [] 0)]) x1) ((i' [2,7,0,1,3,4,5,6,8] [3,6,8,0,1,2,4,5,7] hR.symm)))) ?_;rintro _ L ⟨rfl,x2,ml,τ2,e2,rfl⟩;rw[C6];refine bF (de (aM.perm (Bt b1 b2 B w0 fr ce wl ta la r wa (rr (az way)) ml fv way w9 ia we hd (au rr) (cj rr _ hd) te (T (az way)) hr (ay (az way)) (er (az way)) (ws.map az) τ2 e2
    (N c) x2) ((i' [4,7,6,0,1,2,3,5,8,9] [2,7,4,8,0,1,5,6,3,9,10] (hR.append lF))))) ?_
   rintro _ L ⟨rfl,x3,nl,mu,e3,rfl⟩;rw[hf];refine bF (P:=fun f L=>f=.next∧Q L) (jT (P1:=fun b L=>b=true∧∃ x' c',L=(c',ab [] 0)::(F (some nl) x'++[(nl,ab (af [] mu) e3)]++(U ml τ2 e2 c)))
    (aM.perm ((sZ b1 b2 B w0 fr ce wl ta la r wa nl (af [] mu) e3 _ (U ml τ2 e2 c) x3).mono (Nat.le_succ 2) fun v L hP=>hP) ((pm [0,2,1,3,4,5,6,7,8,9,10,11]))) ?_ ?_) ?_
   rotate_left
   ·rintro L ⟨hb,_⟩;cases hb
   ·intro f L hP
    obtain⟨rfl,Aa⟩:=(hP:f=.next∧Q L);exact fD ⟨rfl,Aa⟩
   ·rintro L ⟨_,x4,c',rfl⟩
    refine(aM.perm (Ho b1 b2 B w0 fr ce wl ta la r wa nl way (by omega) ia we ((c',ab [] 0)::([(nl,ab (af [] mu) e3)]++([(ce,cR ml),(ta,ab (au rr) te),V,M ml τ2 e2]++(N c)))) x4) ((pm [1,4,0,2,3,5,6,7,8,9,10,11,12]))).mono (Nat.le_succ 2) fun f L hP=>?_;obtain⟨rfl,x5,dh,rfl⟩:=hP;refine⟨rfl,dh,[(dh,ab (af way.dropLast ia) 0)],nl,ml,x5,X++[(c',ab [] 0),(nl,ab (af [] mu) e3),M ml τ2 e2,(c,ab [] 0)]++Gb,.inr ⟨ia,0,rfl⟩,?_⟩;exact i' [2,10,7,11,0,1,3,4,5,6,8,9,12,13] [5,7,4,0,6,8,9,1,3,10,2,12,11] (hR.symm.append lF.symm)
  ·rintro L ⟨hb,_⟩;cases hb
  ·rintro L ⟨dh,X',nl,ml,x',fR,Fd,hL⟩
   rw[←iH];refine aJ.perm ?_ hL;refine(ih W yK bq hW dh X' Fd (some nl) (some ml) e x' fR).mono lr fun r' L hP=>?_;obtain⟨W',cN,eJ,fQ,e',x2,uk,h1,h2,h3,h4,h5⟩:=hP;exact⟨W',cN,eJ,fQ,e',x2,uk,h1,h2,h3,fun _=>h4 (.inl rfl),h5⟩
 |@push ws way n ns out w9 hd hl hr hm hf z ih=>
  intro W yK bq hW wa X hs fv mv e x Gb;obtain⟨ia,we,R,hR⟩:=km hs;have Hq:W.length≤100:=by rw[←yK,bU] at hm;exact hm
  have C6:W.map (fun p=>az p.ds)=ws.map az:=by rw[←yK,List.map_map];rfl
  have KJ:(af way ia).isEmpty=false:=by cases way with|nil=>exact absurd rfl w9|cons d ds=>rfl
  have lF:=eE rr T ay er (az way) hd;let Q:Ow→Prop:=fun L=>∃ dh bG nl ml x' fR,L.Perm (rt [(fr,ah (aB ta la wl (some (r,some (dh,some nl)))))] x'++[(ce,ai (cb (some ml))),(wl,ab (ax (W++[⟨dh,way++[n],bG,0⟩])) (e+1)),(ta,ab (au rr) te)]++aA rr T ay er++aD (W++[⟨dh,way++[n],bG,0⟩])++[]++fR);let P:Result→Ow→Prop:=fun r' L=>∃ W' dh eJ fQ e' x' fR,r'=.ok .next∧W'.map Way.ds=out∧(∀ p∈W',p.ds≠[])∧((fv.isSome∨way≠[])→eJ.isSome)∧L.Perm (rt [(fr,ah (aB ta la wl (some (r,some (dh,eJ)))))] x'++[(ce,ai (cb fQ)),(wl,ab (ax W') e'),(ta,ab (au rr) te)]++aA rr T ay er++aD W'++fR)
  show aJ _ _ _ _ _ _ _ P;let D:Ow:=(others (az way)).map (bo rr T ay er);let Z:Ow:=[(ce,ai (cb mv)),(wl,ab (ax W) e),(ta,ab (au rr) te)]++aA rr T ay er++R++Gb;let F:ON→(Nat→Tk)→Ow:=fun n=>rt [(fr,ah (aB ta la wl (some (r,some (wa,n)))))];let V:Nat×Obj:=(rr (az way),ab (af (T (az way)) (ay (az way))) (er (az way)));let M:Nat→(NT)→Nat→Nat×Obj:=fun m τ e=>(m,ab (af (ws.map az) τ) e);let N:Nat→Ow:=fun c=>[(wl,ab (ax W) e)]++R++D++Gb++[(c,ab [] 0)];let U:Nat→(NT)→Nat→Nat→Ow:=fun ml τ2 e2 c=>[(ce,cR ml),(wa,ab (af way ia) we),(ta,ab (au rr) te),V,M ml τ2 e2]++N c;rw[iH];refine kc (P1:=fun b L=>b=true∧∃ x' c,L=(c,ab [] 0)::(F fv x'++[(wa,ab (af way ia) we)]++Z))
   (P2:=Q)
   (aM.perm ((pv b1 b2 B w0 fr ce wl ta la r wa fv (af way ia) we _ Z x).mono (Nat.le_succ 2) fun v L hP=>⟨by rw[hP.1,KJ];rfl,hP.2⟩) ?_) ?_ ?_ ?_
  ·exact i' [5,6,0,1,2,3,4,7] [1,6,0,2,3,4,5,7] hR
  ·rintro L ⟨_,x1,c,rfl⟩
   rw[w5];refine bF (de (aM.perm (Bu b1 b2 B w0 fr ce wl ta la r wa fv mv W bq hW Hq e ([(ta,ab (au rr) te)]++aA rr T ay er++X++Gb++[(c,ab [] 0)]) x1) ((i' [2,7,0,1,3,4,5,6,8] [3,6,8,0,1,2,4,5,7] hR.symm)))) ?_;rintro _ L ⟨rfl,x2,ml,τ2,e2,rfl⟩;rw[C6];refine bF (de (aM.perm (Bt b1 b2 B w0 fr ce wl ta la r wa (rr (az way)) ml fv way w9 ia we hd (au rr) (cj rr _ hd) te (T (az way)) hr (ay (az way)) (er (az way)) (ws.map az) τ2 e2
    (N c) x2) ((i' [4,7,6,0,1,2,3,5,8,9] [2,7,4,8,0,1,5,6,3,9,10] (hR.append lF))))) ?_
   rintro _ L ⟨rfl,x3,nl,mu,e3,rfl⟩;rw[hf];refine bF (P:=fun f L=>f=.next∧Q L) (jT (P1:=fun b L=>b=false∧∃ x' c',L=(c',ab [] 0)::(F (some nl) x'++[(nl,ab (af (n::ns) mu) e3)]++(U ml τ2 e2 c)))
    (aM.perm ((sZ b1 b2 B w0 fr ce wl ta la r wa nl (af (n::ns) mu) e3 _ (U ml τ2 e2 c) x3).mono (Nat.le_succ 2) fun v L hP=>hP) ((pm [0,2,1,3,4,5,6,7,8,9,10,11]))) ?_ ?_) ?_
   ·rintro L ⟨hb,_⟩;cases hb
   ·rintro L ⟨_,x4,c',rfl⟩
    refine(aM.perm (C4 b1 b2 B w0 fr ce wl ta la r wa nl way (by omega) ia we n ns mu e3 (ax W) e (by simp[ax];omega) ((c',ab [] 0)::([(ce,cR ml),(ta,ab (au rr) te),V,M ml τ2 e2]++(R++D++Gb++[(c,ab [] 0)]))) x4) ((pm [1,4,2,8,0,3,5,6,7,9,10,11,12]))).mono (Nat.le_succ 2) fun f L hP=>?_;obtain⟨rfl,x5,dh,bG,rfl⟩:=hP;refine⟨rfl,dh,bG,nl,ml,x5,X++[(c',ab [] 0),(nl,ab (af (n::ns) mu) e3),M ml τ2 e2,(c,ab [] 0)]++Gb,?_⟩;have e1:ax (W++[⟨dh,way++[n],bG,0⟩])=ax W++[.ref dh]:=by simp[ax]
    have aQ:aD (W++[⟨dh,way++[n],bG,0⟩])=aD W++[(dh,ab (af (way++[n]) bG) 0)]:=by simp[aD,Way.o]
    rw[e1,aQ];exact i' [2,10,8,11,0,1,3,4,5,6,7,9,12,13] [5,7,4,0,6,9,2,8,1,3,10,12,11] (hR.symm.append lF.symm)
   ·intro f L hP
    obtain⟨rfl,Aa⟩:=(hP:f=.next∧Q L);exact fD ⟨rfl,Aa⟩
  ·rintro L ⟨hb,_⟩;cases hb
  ·rintro L ⟨dh,bG,nl,ml,x',fR,hL⟩
   rw[←iH];refine aJ.perm ?_ hL;refine(ih (W++[⟨dh,way++[n],bG,0⟩]) (by rw[List.map_append,yK];rfl) (fun p hp=>?_) (by simp) dh [] (.inl ⟨rfl,⟨dh,way++[n],bG,0⟩,by simp,rfl,rfl⟩) (some nl) (some ml) (e+1) x' fR).mono lr fun r' L hP=>?_
   ·rcases cS.mp hp with hp|hp
    ·exact bq p hp
    ·rw[List.mem_singleton.mp hp];simp
   ·obtain⟨W',cN,eJ,fQ,e',x2,uk,h1,h2,h3,h4,h5⟩:=hP
    exact⟨W',cN,eJ,fQ,e',x2,uk,h1,h2,h3,fun _=>h4 (.inl rfl),h5⟩
end
set_option autoImplicit false
structure d9 (T:Nat→List Nat)(V:LN)(out:List LN)(way:Nat→List Nat):Prop where
 par:∀ q∈out,∃ q' b,q=q'++[b]∧(q'=[]∨q'∈out∧b∈T (az q'))
 vj:∀ q∈out,az q∈V
 wy:∀ a∈V,way a∈out∧az (way a)=a
 I':∀ q∈out,way (az q)=q
 cmp:∀ q1∈out,∀ q2∈out,az q2∈T (az q1)→q1<+:q2∨q2<+:q1
 nd:(out.map az).Nodup
noncomputable def um (l:LN):Nat:=l.head?.getD 0
namespace d9
variable {T:Nat→List Nat}{V:LN}{out:List LN}{way:Nat→List Nat}(F:d9 T V out way)
include F
theorem ne {q:LN}(h:q∈out):q≠[]:=by
 obtain⟨q',b,rfl,_⟩:=F.par q h;simp
theorem closed:∀ (n:Nat)(q:LN),q.length=n→q∈out→∀ p,p<+:q→p≠[]→p∈out:=by
 intro n
 induction n with
 |zero=>intro q h1 h2;exact absurd (List.length_eq_zero_iff.mp h1) (F.ne h2)
 |succ n ih=>
  intro q h1 h2 p hp bq;obtain⟨q',b,rfl,h3⟩:=F.par q h2;rcases List.prefix_concat_iff.mp hp with rfl|hp
  ·exact h2
  ·rcases h3 with rfl|h3
   ·exact absurd (List.prefix_nil.mp hp) bq
   ·exact ih q' (by simpa using h1) h3.1 p hp bq
theorem pre {q p:LN}(h:q∈out)(hp:p<+:q)(bq:p≠[]):p∈out:=F.closed _ q rfl h p hp bq
theorem Ja {q:LN}{a:Nat}(h:q∈out)(e:az q=a):q=way a:=by rw[←e,F.I' q h]
theorem yL {a:Nat}(h:a∈V):way a≠[]:=F.ne (F.wy a h).1
theorem along {α:Type}(g:Nat→α)(n:Nat):∀ (q:LN),q.length=n→q∈out→∀ p,p<+:q→p≠[]→(∀ q' b,q'++[b]<+:q→p<+:q'→q'∈out→q'++[b]∈out→b∈T (az q')→g (az q')=g b)→g (az p)=g (az q):=by
 induction n with
 |zero=>intro q h1 h2;exact absurd (List.length_eq_zero_iff.mp h1) (F.ne h2)
 |succ n ih=>
  intro q h1 h2 p hp bq H;obtain⟨q',b,rfl,h3⟩:=F.par q h2;rcases List.prefix_concat_iff.mp hp with rfl|hp
  ·rfl
  ·rcases h3 with rfl|h3
   ·exact absurd (List.prefix_nil.mp hp) bq
   ·rw[ih q' (by simpa using h1) h3.1 p hp bq fun q2 b2 k1=>H q2 b2 (k1.trans (List.prefix_append _ _)),cW]
    exact H q' b (List.prefix_refl _) hp h3.1 h2 h3.2
end d9
theorem lG {p q:LN}(h:p<+:q)(bq:p≠[]):um p=um q:=by
 obtain⟨t,rfl⟩:=h;cases p with
 |nil=>exact absurd rfl bq
 |cons a p=>rfl
theorem mC {q:LN}(bq:q≠[]):[um q]<+:q:=by
 cases q with
 |nil=>exact absurd rfl bq
 |cons a p=>exact⟨p,rfl⟩
theorem jZ {p q:LN}(h1:p<+:q)(h2:q<+:p):p=q:=h1.eq_of_length (Nat.le_antisymm h1.length_le h2.length_le)
structure Cut (T:Nat→List Nat)(V:LN)(out:List LN)(way:Nat→List Nat)(v:Nat)(cB:List LN)(d1:Nat→List Nat):Prop where
 F:d9 T V out way
 G:d9 (fun a=>(T a).filter fun x=>decide (x≠v)) (V.filter fun x=>decide (x≠v)) cB d1
 sym:∀ a∈V,∀ b∈T a,b∈V∧a∈T b
 hv:v∈V
namespace Cut
variable {T:Nat→List Nat}{V:LN}{out:List LN}{way:Nat→List Nat}{v:Nat}{cB:List LN}{d1:Nat→List Nat}(C:Cut T V out way v cB d1)
def good (T:Nat→List Nat)(V:LN)(way:Nat→List Nat)(v c:Nat):Prop:=∀ u∈V,way c<+:way u→∀ x∈T u,x∉(way v).dropLast
def oj (way:Nat→List Nat)(v u:Nat):Nat:=az ((way u).take ((way v).length+1))
open Classical in
def px (T:Nat→List Nat)(V:LN)(way:Nat→List Nat)(v u:Nat):Nat:=if way v<+:way u∧good T V way v (oj way v u) then oj way v u else um (way u)
def rep (T:Nat→List Nat)(V:LN)(way:Nat→List Nat)(v u:Nat):Prop:=(way u).length=1∨(way u).dropLast=way v∧good T V way v u
include C
omit C in
theorem C7 {a:Nat}:a∈V.filter (fun x=>decide (x≠v))↔a∈V∧a≠v:=by simp
theorem lH {u:Nat}(hu:u∈V)(bq:u≠v)(hp:way v<+:way u):way (oj way v u)=(way u).take ((way v).length+1)∧(way u).take ((way v).length+1)=way v++[oj way v u]∧oj way v u∈V∧way (oj way v u)<+:way u:=by
 obtain⟨t,ht⟩:=hp;have hw:=C.F.wy u hu;have w':=C.F.wy v C.hv;cases t with
 |nil=>exact absurd (by rw[←hw.2,←w'.2,←ht,ck]) bq
 |cons c t=>
  have e:(way u).take ((way v).length+1)=way v++[c]:=by rw[←ht,List.take_append,fT (by omega)];simp
  have e2:oj way v u=c:=by unfold oj;rw[e,cW]
  have hm:way v++[c]∈out:=C.F.pre hw.1 ⟨t,by rw[←ht];simp⟩ (by simp);have e3:way c=way v++[c]:=(C.F.Ja hm (by simp)).symm;rw[e2,e3,e];exact⟨rfl,rfl,by simpa using C.F.vj _ hm,⟨t,by rw[←ht];simp⟩⟩
theorem uo {x:Nat}(h:x∈(way v).dropLast):x∈V∧x≠v∧way x<+:way v:=by
 obtain⟨i,hi,rfl⟩:=List.mem_iff_getElem.mp h;have w':=C.F.wy v C.hv;have J7:i<(way v).length-1:=by simpa using hi
 have hp:(way v).take (i+1)<+:way v:=List.take_prefix _ _;have hm:=C.F.pre w'.1 hp (by intro hh;have:=congrArg List.length hh;rw[dR,List.length_nil] at this;omega);have hl:az ((way v).take (i+1))=(way v).dropLast[i]:=by
  unfold az;rw[List.getLast?_eq_getElem?];simp only[dR,List.getElem_dropLast];rw[cy (by simp;omega)];simp only[List.getElem_take,Option.getD_some];congr 1;omega
 have e:=C.F.Ja hm hl;refine⟨hl▸C.F.vj _ hm,?_,by rw[←e];exact hp⟩;intro hx;rw[hx] at e;have:=congrArg List.length e;simp at this;omega
theorem xa {x:Nat}(hx:x∈V)(bq:x≠v)(h:way x<+:way v):x∈(way v).dropLast:=by
 have w':=C.F.wy v C.hv;have Hr:=C.F.wy x hx;obtain⟨q',b,e,_⟩:=C.F.par _ w'.1;rw[e] at h;rcases List.prefix_concat_iff.mp h with h|h
 ·exact absurd (by rw[←Hr.2,←w'.2,e,h]) bq
 ·rw[e,List.dropLast_concat]
  obtain⟨q2,b2,e2,_⟩:=C.F.par _ Hr.1;have:b2=x:=by rw[←Hr.2,e2,cW]
  subst this;exact h.subset (by rw[e2];simp)
theorem om {a b:Nat}(ha:a∈V)(hb:b∈V)(Bv:a≠v)(C8:b≠v)(qJ:a∈T b)(h:way a<+:way b):px T V way v a=px T V way v b:=by
 have s6:=C.F.wy a ha;have uq:=C.F.wy b hb;have hd:=lG h (C.F.yL ha);unfold px;by_cases Hs:way v<+:way b
 ·obtain⟨n1,n2,n3,n4⟩:=C.lH hb C8 Hs
  rcases List.prefix_or_prefix_of_prefix h Hs with hv|hv
  ·have Oe:¬ way v<+:way a:=fun hh=>Bv (by rw[←s6.2,←(C.F.wy v C.hv).2,jZ hv hh])
   have Of:¬ good T V way v (oj way v b):=fun hg=>hg b hb n4 a qJ (C.xa ha Bv hv);rw[if_neg (fun hh=>Oe hh.1),if_neg (fun hh=>Of hh.2),hd]
  ·obtain⟨m1,m2,m3,m4⟩:=C.lH ha Bv hv
   have e:oj way v a=oj way v b:=by
    have hl:(way v).length+1≤(way a).length:=by have:=congrArg List.length m2;simp at this;omega
    obtain⟨t,ht⟩:=h;unfold oj;rw[←ht,List.take_append_of_le_length hl]
   rw[e,hd];by_cases hg:good T V way v (oj way v b)
   ·rw[if_pos ⟨hv,hg⟩,if_pos ⟨Hs,hg⟩]
   ·rw[if_neg (fun hh=>hg hh.2),if_neg (fun hh=>hg hh.2)]
 ·have E7:¬ way v<+:way a:=fun hh=>Hs (hh.trans h)
  rw[if_neg (fun hh=>E7 hh.1),if_neg (fun hh=>Hs hh.1),hd]
theorem xb {a b:Nat}(ha:a∈V)(Bv:a≠v)(C8:b≠v)(qJ:b∈T a):px T V way v a=px T V way v b:=by
 obtain⟨hb,E8⟩:=C.sym a ha b qJ;have s6:=C.F.wy a ha;have uq:=C.F.wy b hb;rcases C.F.cmp _ s6.1 _ uq.1 (by rw[s6.2,uq.2];exact qJ) with h|h
 ·exact C.om ha hb Bv C8 E8 h
 ·exact(C.om hb ha C8 Bv qJ h).symm
theorem Ab {u:Nat}(hu:u∈V)(bq:u≠v):(px T V way v u∈V∧px T V way v u≠v)∧rep T V way v (px T V way v u):=by
 have hw:=C.F.wy u hu;have w':=C.F.wy v C.hv;unfold px;split
 ·next h=>
  obtain⟨n1,n2,n3,n4⟩:=C.lH hu bq h.1;refine⟨⟨n3,fun hh=>?_⟩,.inr ⟨by rw[n1,n2,List.dropLast_concat],h.2⟩⟩;rw[n2] at n1;rw[hh] at n1;have:=congrArg List.length n1;simp at this
 ·next h=>
  have hp:=mC (C.F.yL hu);have hm:=C.F.pre hw.1 hp (by simp);have e:way (um (way u))=[um (way u)]:=C.F.I' _ hm;refine⟨⟨by simpa using C.F.vj _ hm,fun hh=>?_⟩,.inl (by rw[e];rfl)⟩;rw[hh] at e hp;rw[←e] at hp;refine h ⟨hp,fun u' _ _ x _ hx=>?_⟩;rw[e] at hx;simp at hx
theorem xc {u:Nat}(hu:u∈V)(bq:u≠v)(h:rep T V way v u):px T V way v u=u:=by
 have hw:=C.F.wy u hu;have w':=C.F.wy v C.hv;rcases h with h|⟨h1,h2⟩
 ·obtain⟨x,hx⟩:=List.length_eq_one_iff.mp h
  have Og:x=u:=by rw[←hw.2,hx];rfl
  subst Og;unfold px;rw[if_neg]
  ·rw[hx];rfl
  ·rintro⟨hh,_⟩
   rw[hx] at hh;have:=hh.length_le;have hl:=C.F.yL C.hv;have h3:way v=[x]:=hh.eq_of_length (by have:=List.length_pos_iff.mpr hl;simp at*;omega);exact bq (by rw[←w'.2,h3];rfl)
 ·obtain⟨q',b,e,_⟩:=C.F.par _ hw.1
  rw[e,List.dropLast_concat] at h1;have hb:b=u:=by rw[←hw.2,e,cW]
  subst hb;have hn:oj way v b=b:=by unfold oj;rw[e,h1];simp[List.take_append]
  unfold px;rw[hn,if_pos ⟨by rw[e,h1];exact List.prefix_append _ _,h2⟩]
def fK (d1:Nat→List Nat)(u:Nat):Nat:=um (d1 u)
omit C in
theorem ur {u:Nat}(hu:u∈V)(bq:u≠v):u∈V.filter fun x=>decide (x≠v):=by simp[hu,bq]
theorem mD {a b:Nat}(ha:a∈V)(Bv:a≠v)(C8:b≠v)(qJ:b∈T a):fK d1 a=fK d1 b:=by
 obtain⟨hb,E8⟩:=C.sym a ha b qJ;have s6:=C.G.wy a (ur ha Bv);have uq:=C.G.wy b (ur hb C8);unfold fK;rcases C.G.cmp _ s6.1 _ uq.1 (by rw[s6.2,uq.2];simp[qJ,C8]) with h|h
 ·exact lG h (C.G.ne s6.1)
 ·exact(lG h (C.G.ne uq.1)).symm
theorem iK {u:Nat}(hu:u∈V){p:LN}(hp:p<+:way u)(bq:p≠[])(H:∀ r,p<+:r→r<+:way u→r≠way v):fK d1 (az p)=fK d1 u:=by
 have hw:=C.F.wy u hu;have z:=C.F.along (fK d1) _ (way u) rfl hw.1 p hp bq fun q' b k1 k2 k3 k4 k5=>?_
 ·rw[z,hw.2]
 ·refine C.mD (C.F.vj _ k3) (fun hh=>?_) (fun hh=>?_) k5
  ·exact H q' k2 ((List.prefix_append _ _).trans k1) (C.F.Ja k3 hh)
  ·exact H (q'++[b]) (k2.trans (List.prefix_append _ _)) k1 (C.F.Ja k4 (by simpa using hh))
theorem oo {u:Nat}(hu:u∈V)(bq:u≠v):fK d1 u=fK d1 (px T V way v u):=by
 have hw:=C.F.wy u hu;have w':=C.F.wy v C.hv;by_cases Ht:way v<+:way u
 ·obtain⟨n1,n2,n3,n4⟩:=C.lH hu bq Ht
  have Ac:way v<+:way (oj way v u):=by rw[n1,n2];exact List.prefix_append _ _
  have Qu:(way (oj way v u)).length=(way v).length+1:=by rw[n1,n2];simp
  have below:∀ u'∈V,way (oj way v u)<+:way u'→fK d1 (oj way v u)=fK d1 u':=fun u' Bc hp=>by
   have z:=C.iK Bc hp (C.F.yL n3) fun r k1 k2 k3=>by
    have:=k1.length_le;rw[k3] at this;omega
   rw[(C.F.wy _ n3).2] at z;exact z
  unfold px;split
  ·exact(below u hu n4).symm
  ·next h=>
   have h:¬ good T V way v (oj way v u):=fun hg=>h ⟨Ht,hg⟩;unfold good at h;simp only[Classical.not_forall,Classical.not_not] at h;obtain⟨u',Bc,hp,x,hx,Oh⟩:=h;obtain⟨a1,a2,a3⟩:=C.uo Oh;have KL:u'≠v:=fun hh=>by
    rw[hh] at hp;have:=hp.length_le;omega
   have e1:=(below u hu n4).symm.trans (below u' Bc hp);have e2:=C.mD Bc KL a2 hx;have Hr:=C.F.wy x a1;have e3:um (way x)=um (way u):=lG (a3.trans Ht) (C.F.yL a1);have e4:=C.iK a1 (mC (C.F.yL a1)) (by simp) fun r k1 k2 k3=>by
    rw[k3] at k2;exact a2 (by rw[←Hr.2,←w'.2,jZ a3 k2])
   rw[e1,e2,←e4,gE,e3]
 ·unfold px
  rw[if_neg (fun hh=>Ht hh.1)];have e4:=C.iK hu (mC (C.F.yL hu)) (by simp) fun r k1 k2 k3=>Ht (k3▸k2);rw[←e4,gE]
theorem oq {q:LN}(hq:q∈cB):px T V way v (um q)=px T V way v (az q):=by
 have z:=C.G.along (px T V way v) _ q rfl hq [um q] (mC (C.G.ne hq)) (by simp) fun q' b k1 k2 k3 k4 k5=>?_
 ·exact z
 ·have i1:=C7.mp (C.G.vj _ k3)
  have i2:=C7.mp (C.G.vj _ k4);rw[cW] at i2;exact C.xb i1.1 i1.2 i2.2 (by simp at k5;exact k5.1)
end Cut
theorem fx (f:N2):∀ (l m:LN),l.Nodup→(∀ x∈l,f x∈m)→(∀ x∈l,∀ y∈l,f x=f y→x=y)→l.length≤m.length
 |[],m,_,_,_=>bZ _
 |a::l,m,hn,hm,hi=>by
  have h1:=hm a bT;have hn:=List.nodup_cons.mp hn;have z:=fx f l (m.erase (f a)) hn.2 (fun x hx=>by
   refine(List.mem_erase_of_ne fun e=>?_).mpr (hm x (bE _ hx));have:=hi x (bE _ hx) a bT e;subst this;exact hn.1 hx) fun x hx y hy=>hi x (bE _ hx) y (bE _ hy)
  rw[List.length_erase_of_mem h1] at z;have:=List.length_pos_of_mem h1;simp;omega
open Classical in
theorem Cut.count {T:Nat→List Nat}{V:LN}{out:List LN}{way:Nat→List Nat}{v:Nat}{cB:List LN}{d1:Nat→List Nat}(C:Cut T V out way v cB d1)(hV:V.Nodup):
  ((V.filter fun u=>decide (u≠v)).filter fun u=>decide ((d1 u).length=1)).length=((V.filter fun u=>decide (u≠v)).filter fun u=>decide (Cut.rep T V way v u)).length:=by
 have hn:(V.filter fun u=>decide (u≠v)).Nodup:=hV.filter _;have root:∀ x,x∈V→x≠v→(d1 x).length=1→fK d1 x=x:=fun x h1 h2 h3=>by
  have hw:=C.G.wy x (Cut.ur h1 h2);obtain⟨y,hy⟩:=List.length_eq_one_iff.mp h3;have:y=x:=by rw[←hw.2,hy];rfl
  unfold fK;rw[hy,this];rfl
 refine Nat.le_antisymm (fx (px T V way v) _ _ (hn.filter _) (fun x hx=>?_) fun x hx y hy e=>?_) (fx (fK d1) _ _ (hn.filter _) (fun x hx=>?_) fun x hx y hy e=>?_)
 ·simp only[List.mem_filter,dU] at hx
  have z:=C.Ab hx.1.1 hx.1.2;simp only[List.mem_filter,dU];exact z
 ·simp only[List.mem_filter,dU] at hx hy
  rw[←root x hx.1.1 hx.1.2 hx.2,←root y hy.1.1 hy.1.2 hy.2,C.oo hx.1.1 hx.1.2,C.oo hy.1.1 hy.1.2,e]
 ·simp only[List.mem_filter,dU] at hx
  have hw:=C.G.wy x (Cut.ur hx.1.1 hx.1.2);have hm:=C.G.pre hw.1 (mC (C.G.ne hw.1)) (by simp);have e:d1 (um (d1 x))=[um (d1 x)]:=C.G.I' _ hm;have i:=Cut.C7.mp (C.G.vj _ hm);rw[gE] at i;unfold fK;simp only[List.mem_filter,dU];exact⟨i,by rw[e];rfl⟩
 ·simp only[List.mem_filter,dU] at hx hy
  have MS:=C.G.wy x (Cut.ur hx.1.1 hx.1.2);have MT:=C.G.wy y (Cut.ur hy.1.1 hy.1.2);have zx:=C.oq MS.1;have zy:=C.oq MT.1;rw[MS.2,C.xc hx.1.1 hx.1.2 hx.2] at zx;rw[MT.2,C.xc hy.1.1 hy.1.2 hy.2] at zy;rw[←zx,←zy];unfold fK at e;rw[e]
set_option autoImplicit false
def xd (out:List LN)(a:Nat):LN:=(out.find? fun q=>az q==a).getD []
theorem ot {out:List LN}(hn:out.Pairwise fun q1 q2=>az q1≠az q2){q:LN}(hq:q∈out):xd out (az q)=q:=by
 unfold xd
 induction out with
 |nil=>cases hq
 |cons a l ih=>
  rw[List.find?_cons];have hn:=List.pairwise_cons.mp hn;rcases ba.mp hq with rfl|hq
  ·simp
  ·have:(az a==az q)=false:=by simpa using hn.1 q hq
   rw[this];exact ih hn.2 hq
section
variable {T:Nat→List Nat}{V line:LN}{out:List LN}{s':LN}
theorem xf {p bs s:LN}{o:List LN}{s':LN}(h:dr T p bs s o s')(hT:∀ a∈V,∀ b∈T a,b∈V):(∀ x∈bs,x∈V)→∀ q∈o,az q∈V:=by
 induction h with
 |nil=>intro _ q hq;cases hq
 |skip _ _ ih=>exact fun hb=>ih fun x hx=>hb x (bE _ hx)
 |@take p b bs s o1 s1 o2 s2 h z1 z2 i1 i2=>
  intro hb q hq;have Hm:=hb b bT;rcases ba.mp hq with rfl|hq
  ·simpa using Hm
  ·rcases cS.mp hq with hq|hq
   ·exact i1 (hT b Hm) q hq
   ·exact i2 (fun x hx=>hb x (bE _ hx)) q hq
theorem qK (h:dr T [] line [] out s')(hl:∀ x∈line,x∈V)(hc:∀ x∈V,x∈line)(hT:∀ a∈V,∀ b∈T a,b∈V∧a∈T b):d9 T V out (xd out):=by
 have KN:out.Pairwise fun q1 q2=>az q1≠az q2:=h.ord.imp fun h=>h.1;have vj:∀ q∈out,az q∈V:=xf h (fun a ha b hb=>(hT a ha b hb).1) hl;refine⟨fun q hq=>?_,vj,fun a ha=>?_,fun q hq=>ot KN hq,fun q1 h1 q2 h2 ht=>?_,?_⟩
 ·obtain⟨q',b,e,k⟩:=h.par q hq
  exact⟨q',b,e,k.imp (·.1) id⟩
 ·rcases(h.mem a).mp (h.done a (hc a ha)) with hh|⟨q,hq,rfl⟩
  ·cases hh
  ·rw[ot KN hq];exact⟨hq,rfl⟩
 ·by_cases e:q1=q2
  ·subst e;exact .inl (List.prefix_refl _)
  ·obtain⟨i,hi,rfl⟩:=List.mem_iff_getElem.mp h1
   obtain⟨j,hj,rfl⟩:=List.mem_iff_getElem.mp h2;have Hp:=List.pairwise_iff_getElem.mp h.ord;rcases Nat.lt_trichotomy i j with Hu|Hu|Hu
   ·exact .inl ((Hp i j hi hj Hu).2 ht)
   ·exact absurd (by simp only[Hu]) e
   ·exact .inr ((Hp j i hj hi Hu).2 (hT _ (vj _ (List.getElem_mem hi)) _ ht).2)
 ·rw[List.Nodup,List.pairwise_map];exact KN
end
theorem mE (f:LN→Nat)(P:Nat→Bool)(l:List LN):((l.map f).filter P).length=(l.filter fun q=>P (f q)).length:=by
 rw[List.filter_map,bU];rfl
theorem kQ {l m:LN}(h1:l.Nodup)(h2:m.Nodup)(h:∀ x,x∈l↔x∈m):l.length=m.length:=
 Nat.le_antisymm (fx id l m h1 (fun x hx=>(h x).mp hx) fun _ _ _ _ e=>e) (fx id m l h2 (fun x hx=>(h x).mpr hx) fun _ _ _ _ e=>e)
theorem d9.roots {T:Nat→List Nat}{V:LN}{out:List LN}{way:Nat→List Nat}(F:d9 T V out way)(hV:V.Nodup):(out.filter fun q=>decide (q.length=1)).length=(V.filter fun u=>decide ((way u).length=1)).length:=by
 have e:(out.filter fun q=>decide (q.length=1))=out.filter fun q=>decide ((way (az q)).length=1):=List.filter_congr fun q hq=>by rw[F.I' q hq]
 rw[e,←mE az (fun u=>decide ((way u).length=1))];refine kQ (F.nd.filter _) (hV.filter _) fun x=>?_;simp only[List.mem_filter,List.mem_map];refine and_congr_left' ⟨?_,fun hx=>⟨way x,(F.wy x hx).1,(F.wy x hx).2⟩⟩;rintro⟨q,hq,rfl⟩;exact F.vj q hq
noncomputable def eY:LN→List Nat→List Nat
 |a::l,b::m=>if a=b then a::eY l m else[]
 |_,_=>[]
theorem dP:∀ (p q:LN),eY p q=q↔q<+:p
 |p,[]=>by cases p<;>simp[eY]
 |[],b::m=>by simp[eY]
 |a::l,b::m=>by
  unfold eY;by_cases h:a=b
  ·subst h;simp only[if_true,List.cons.injEq,true_and,List.cons_prefix_cons];exact dP l m
  ·simp only[h,if_false,List.cons_prefix_cons]
   constructor
   ·intro e;cases e
   ·intro e;exact absurd e.1.symm h
theorem j0:∀ (p q:LN),eY p q=eY q p
 |p,[]=>by cases p<;>rfl
 |[],b::m=>rfl
 |a::l,b::m=>by
  unfold eY;by_cases h:a=b
  ·subst h;simp only[if_true];rw[j0 l m]
  ·rw[if_neg h,if_neg fun e=>h e.symm]
theorem d9.Oi {T:Nat→List Nat}{V:LN}{out:List LN}{way:Nat→List Nat}(F:d9 T V out way){a b:Nat}(ha:a∈V)(hb:b∈V)(h:b∈T a):eY (way a) (way b)=way a∨eY (way a) (way b)=way b:=by
 have s6:=F.wy a ha;have uq:=F.wy b hb;rcases F.cmp _ s6.1 _ uq.1 (by rw[s6.2,uq.2];exact h) with h|h
 ·exact .inl (by rw[j0];exact(dP _ _).mpr h)
 ·exact .inr ((dP _ _).mpr h)
noncomputable def beneath (V:LN)(way:Nat→List Nat)(c:Nat):LN:=V.filter fun u=>decide (eY (way u) (way c)=way c)
noncomputable def tb (T:Nat→List Nat)(V:LN)(way:Nat→List Nat)(v c:Nat):LN:=((beneath V way c).flatMap T).filter fun x=>decide (x∈(way v).dropLast)
theorem uu {T:Nat→List Nat}{V:LN}{way:Nat→List Nat}{v c:Nat}:tb T V way v c=[]↔Cut.good T V way v c:=by
 unfold tb Cut.good;rw[List.filter_eq_nil_iff];simp only[List.mem_flatMap,beneath,List.mem_filter,dU,dP];constructor
 ·intro h u hu hp x hx;exact h x ⟨u,⟨hu,hp⟩,hx⟩
 ·rintro h x ⟨u,⟨hu,hp⟩,hx⟩;exact h u hu hp x hx
noncomputable def eK (T:Nat→List Nat)(V:LN)(way:Nat→List Nat)(v c:Nat):Bool:=decide ((way c).dropLast=way v)&&decide (tb T V way v c=[])
theorem nA (l:LN)(p q:Nat→Bool)(h:∀ x∈l,p x=true→q x=false):(l.filter fun x=>p x||q x).length=(l.filter p).length+(l.filter q).length:=by
 induction l with
 |nil=>rfl
 |cons a l ih=>
  have:=ih fun x hx=>h x (bE _ hx);have ha:=h a bT;simp only[dT];cases hp:p a<;>cases hq:q a<;>simp[hp,hq] at ha ⊢<;>omega
theorem nB (l:LN)(v:Nat)(hn:l.Nodup)(hv:v∈l)(p:Nat→Bool):((l.filter fun x=>decide (x≠v)).filter p).length+(if p v then 1 else 0)=(l.filter p).length:=by
 induction l with
 |nil=>cases hv
 |cons a l ih=>
  have hn:=List.nodup_cons.mp hn;by_cases h:a=v
  ·subst h
   have e:(l.filter fun x=>decide (x≠a))=l:=by
    rw[List.filter_eq_self];intro x hx;simp only[dU];exact fun e=>hn.1 (e▸hx)
   rw[dT,if_neg (by simp),e,dT];cases p a<;>simp
  ·have hv:v∈l:=(ba.mp hv).resolve_left fun e=>h e.symm
   have:=ih hn.2 hv;rw[dT,if_pos (by simpa using h),dT,dT];cases p a
   ·simpa using this
   ·rw[if_pos rfl,if_pos rfl,dS,dS];omega
theorem Cut.Oj {T:Nat→List Nat}{V:LN}{out:List LN}{way:Nat→List Nat}{v:Nat}{cB:List LN}{d1:Nat→List Nat}(C:Cut T V out way v cB d1)(hV:V.Nodup)(hn:(T v).Nodup):
  (cB.filter fun q=>decide (q.length=1)).length+(if(way v).length=1 then 1 else 0)=(out.filter fun q=>decide (q.length=1)).length+((T v).filter (eK T V way v)).length:=by
 classical
 rw[C.G.roots (hV.filter _),C.count hV,C.F.roots hV];have hc:((V.filter fun u=>decide (u≠v)).filter fun u=>decide (Cut.rep T V way v u))=(V.filter fun u=>decide (u≠v)).filter fun u=>decide ((way u).length=1)||eK T V way v u:=by
  refine List.filter_congr fun x _=>?_;rw[Bool.eq_iff_iff];simp only[dU,Bool.or_eq_true,eK,Bool.and_eq_true,uu];rfl
 have dj:∀ x,decide ((way x).length=1)=true→eK T V way v x=false:=fun x h1=>by
  simp only[dU] at h1;simp only[eK,Bool.and_eq_false_iff,decide_eq_false_iff_not];refine .inl fun e=>C.F.yL C.hv ?_;rw[←e];exact List.length_eq_zero_iff.mp (by simp[h1])
 rw[hc,nA _ _ _ fun x _=>dj x];have h1:=nB V v hV C.hv fun u=>decide ((way u).length=1);have h2:((V.filter fun u=>decide (u≠v)).filter (eK T V way v)).length=((T v).filter (eK T V way v)).length:=by
  refine kQ ((hV.filter _).filter _) (hn.filter _) fun x=>?_;simp only[List.mem_filter,dU];refine⟨fun⟨⟨a1,a2⟩,a3⟩=>⟨?_,a3⟩,fun⟨a1,a3⟩=>⟨⟨(C.sym v C.hv x a1).1,?_⟩,a3⟩⟩
  ·have hw:=C.F.wy x a1
   obtain⟨q',b,e,k⟩:=C.F.par _ hw.1;have hb:b=x:=by rw[←hw.2,e,cW]
   have hd:q'=way v:=by
    simp only[eK,Bool.and_eq_true,dU] at a3;rw[←a3.1,e,List.dropLast_concat]
   subst hb;rcases k with k|k
   ·exact absurd (hd▸k) (C.F.yL C.hv)
   ·have:=k.2
    rw[hd,(C.F.wy v C.hv).2] at this;exact this
  ·intro e
   subst e;simp only[eK,Bool.and_eq_true,dU] at a3;have:=congrArg List.length a3.1;have:=List.length_pos_iff.mpr (C.F.yL C.hv);simp at*;omega
 rw[h2];simp only[dU] at h1;omega
set_option autoImplicit false
noncomputable def dA (n:Int):Nat:=(Int.fmod n 5).toNat
noncomputable def dB (n:Int):Nat:=(Int.fmod (Int.fdiv n 5) 5).toNat
theorem qL (n:Int):Int.fmod n 5=(dA n:Nat):=by
 unfold dA;rw[Int.fmod_eq_emod_of_nonneg _ (by decide)];omega
theorem xg (n:Int):dA n<5:=by
 have:=qL n;rw[Int.fmod_eq_emod_of_nonneg _ (by decide)] at this;omega
theorem xh (n:Int):Int.fmod (Int.fdiv n 5) 5=(dB n:Nat):=qL (Int.fdiv n 5)
theorem Bw (n:Int):dB n<5:=xg (Int.fdiv n 5)
noncomputable abbrev LT:=LN×(Nat→List Nat)
noncomputable def mF (T:Nat→List Nat)(a b:Nat):Nat→List Nat:=fun x=>if x=a then T a++[b] else if x=b then T b++[a] else T x
noncomputable def Hv (s:LT)(n:Int):LT:=if dA n=dB n then(s.1++[dA n],s.2) else if dB n∈s.2 (dA n) then s else(s.1,mF s.2 (dA n) (dB n))
noncomputable def stN (ns:List Int)(i:Nat):LT:=(ns.take i).foldl Hv ([],fun _=>[])
theorem qM (ns:List Int)(i:Nat)(n:Int)(h:ns[i]?=some n):stN ns (i+1)=Hv (stN ns i) n:=by
 unfold stN;obtain⟨hi,rfl⟩:=List.getElem?_eq_some_iff.mp h;rw[dv hi,List.foldl_append];rfl
structure xi (T:Nat→List Nat):Prop where
 nd:∀ a<5,(T a).Nodup
 ok:∀ a<5,∀ b∈T a,b<5∧a∈T b∧b≠a
theorem xi.len {T:Nat→List Nat}(h:xi T){a:Nat}(ha:a<5):(T a).length≤5:=
 fx id (T a) [0,1,2,3,4] (h.nd a ha) (fun x hx=>by have:=(h.ok a ha x hx).1;simp;omega) fun _ _ _ _ e=>e
structure C9 (s:LT)(i:Nat):Prop where
 T:xi s.2
 line:∀ x∈s.1,x<5
 len:s.1.length≤i
theorem xj {T:Nat→List Nat}(h:xi T){a b:Nat}(ha:a<5)(hb:b<5)(qJ:a≠b)(hn:b∉T a):xi (mF T a b):=by
 have Ol:a∉T b:=fun hh=>hn (h.ok b hb a hh).2.1;refine⟨fun x hx=>?_,fun x hx y hy=>?_⟩
 ·unfold mF
  split
  ·rw[List.nodup_append];exact⟨h.nd a ha,by simp,fun y hy z hz=>by simp at hz;subst hz;exact fun e=>hn (e▸hy)⟩
  ·split
   ·rw[List.nodup_append];exact⟨h.nd b hb,by simp,fun y hy z hz=>by simp at hz;subst hz;exact fun e=>Ol (e▸hy)⟩
   ·exact h.nd x hx
 ·have mem:∀ p q,q∈mF T a b p↔(q∈T p∨(p=a∧q=b)∨(p=b∧q=a)):=fun p q=>by
   unfold mF;split
   ·next e=>subst e;simp[qJ]
   ·next e=>
    split
    ·next e2=>subst e2;simp[e]
    ·next e2=>simp[e,e2]
  rw[mem] at hy;rw[mem];rcases hy with hy|⟨rfl,rfl⟩|⟨rfl,rfl⟩
  ·have:=h.ok x hx y hy;exact⟨this.1,.inl this.2.1,this.2.2⟩
  ·exact⟨hb,.inr (.inr ⟨rfl,rfl⟩),fun e=>qJ e.symm⟩
  ·exact⟨ha,.inr (.inl ⟨rfl,rfl⟩),qJ⟩
theorem Ad {s:LT}{i:Nat}(h:C9 s i)(n:Int):C9 (Hv s n) (i+1):=by
 have ha:=xg n;have hb:=Bw n;unfold Hv;split
 ·exact⟨h.T,fun x hx=>by
   rcases cS.mp hx with hx|hx
   ·exact h.line x hx
   ·rw[List.mem_singleton.mp hx];exact ha,by have:=h.len;simp;omega⟩
 ·next e=>
  split
  ·exact⟨h.T,h.line,Nat.le_succ_of_le h.len⟩
  ·next e2=>exact⟨xj h.T ha hb e e2,h.line,Nat.le_succ_of_le h.len⟩
theorem pA (ns:List Int):∀ i,i≤ns.length→C9 (stN ns i) i
 |0,_=>⟨⟨fun _ _=> .nil,(fun _ _ _ h=>nomatch h)⟩,(fun _ h=>nomatch h),Nat.le_refl _⟩
 |i+1,hi=>by
  rw[qM ns i ns[i] (cy (by omega))];exact Ad (pA ns i (by omega)) _
section
variable {prog:Program}{w:WW}{aa:Heap}
theorem C' (a c:Int)(hc:Int.fmod a 5=c):fc prog w aa 0 (.call (.builtin "int.__mod__") ⟨[.int a 0,.int 5 0],[]⟩) [] (fun _=> .ok (.ret (.int c 0))) (fun _=>[]):=fun t x=>by
 subst hc;exact bM (v0:=.int (Int.fmod a 5) 0) (bB F.slot_int_mod (fun s=>typeIs_int s a (t 0)) F.entry_int_mod (F.args_int_mod_2 _ _) (AutoIntG6.int___mod___int_int_1 a (t 0) 5 (t 1) (by decide)) trivial) rfl
theorem Om (a:Int):¬ (Builtin.divisionGoesByPylong a 5)=true:=by
 intro h;unfold Builtin.divisionGoesByPylong at h;simp only[Bool.and_eq_true] at h;exact absurd h.1 (by decide)
theorem Dc (a c:Int)(hc:Int.fdiv a 5=c):fc prog w aa 0 (.call (.builtin "int.__floordiv__") ⟨[.int a 0,.int 5 0],[]⟩) [] (fun _=> .ok (.ret (.int c 0))) (fun _=>[]):=fun t x=>by
 subst hc;exact bM (v0:=.int (Int.fdiv a 5) 0) (bB F.slot_int_floordiv (fun s=>typeIs_int s a (t 0)) F.entry_int_floordiv (F.args_int_floordiv_2 _ _) (AutoIntG4.int___floordiv___int_int_1 a (t 0) 5 (t 1) (by decide) (Om a)) trivial) rfl
theorem Hw (a b:Int)(v:Bool)(hv:decide (a=b)=v):fc prog w aa 0 (.call (.builtin "int.__eq__") ⟨[.int a 0,.int b 0],[]⟩) [] (fun _=> .ok (.ret (.bool v))) (fun _=>[]):=fun t x=>by
 have e:(a==b)=v:=by rw[←hv];rfl
 subst e;exact bM (v0:=.bool (a==b)) (bB F.slot_int_eq (fun s=>typeIs_int s a (t 0)) F.entry_int_eq (F.args_int_eq_2 _ _) (gives_int_eq a b (t 0) (t 1)) trivial) rfl
theorem Hx (a b:Int)(v:Bool)(hv:decide (a≠b)=v):fc prog w aa 0 (.call (.builtin "int.__ne__") ⟨[.int a 0,.int b 0],[]⟩) [] (fun _=> .ok (.ret (.bool v))) (fun _=>[]):=fun t x=>by
 have e:(a !=b)=v:=by
  rw[←hv];by_cases h:a=b
  ·simp[h]
  ·simp[h]
 subst e;exact bM (v0:=.bool (a !=b)) (bB F.slot_int_ne (fun s=>typeIs_int s a (t 0)) F.entry_int_ne (F.args_int_ne_2 _ _) (gives_int_ne a b (t 0) (t 1)) trivial) rfl
theorem Ae (y x:Str)(v:Bool)(hv:(!(y.cps.toList==x.cps.toList))=v):fc prog w aa 0 (.call (.builtin "str.__ne__") ⟨[.str y 0,.str x 0],[]⟩) [] (fun _=> .ok (.ret (.bool v))) (fun _=>[]):=fun t z=>by
 subst hv;exact bM (v0:=.bool _) (bB F.slot_str_ne (fun s=>typeIs_str s y (t 0)) F.entry_str_ne (F.args_str_ne_2 _ _) (gives_str_ne y x (t 0) (t 1)) trivial) rfl
def iM (y x:Str)(v:Bool)(hv:(!(y.cps.toList==x.cps.toList))=v):Ent prog w aa:=fP 0 _ _ _ _ (Ae y x v hv)
def Dd (a b:Int)(v:Bool)(hv:decide (a=b)=v):Ent prog w aa:=fP 0 _ _ _ _ (Hw a b v hv)
def xk (a b:Int)(v:Bool)(hv:decide (a≠b)=v):Ent prog w aa:=fP 0 _ _ _ _ (Hx a b v hv)
def ou (a c:Int)(hc:Int.fmod a 5=c):Ent prog w aa:=fP 0 _ _ _ _ (C' a c hc)
def xl (a c:Int)(hc:Int.fdiv a 5=c):Ent prog w aa:=fP 0 _ _ _ _ (Dc a c hc)
end
def KO (w0:WW)(lv:LV)(o:Option (Int×Nat×Nat))(i le te va vb:Nat)(n qq:Int)(t0:Tok)(r:N2)(ls:LV)(e2:Nat)(a:N2):SX Code Code:=⟨cH (wt w0) [2] (a 3) (a 0) (a 6) (a 7) (a 8) (a 9) (a 1),[(a 0,ah (bN (a 5) (a 2) o))],[(a 1,cR (a 10)),(a 2,ab ls e2),(a 3,aq (a 4) i),(a 4,ab lv le)],fun b f=>cH (wt w0) [2] (a 3) (a 0) (a 6) (a 7) (a 8) (a 9) (a 1),fun b f=>[(a 0,ah (bN (a 5) (a 2) (some (n,va,vb))))],fun b f=>[(a 1,cR (a 10)),(a 2,ab (ls++[.int va (b 1000)]) (e2+1)),(a 3,aq (a 4) (i+1)),(a 4,ab lv le)]⟩
section
variable (b1 b2:Bool){w:WW}{aa:Heap}(B:BB w aa b1 b2)
include B
theorem Oo (w0:WW)(lv:LV)(o:Option (Int×Nat×Nat))(i le te va vb:Nat)(n qq:Int)(t0:Tok)(r:N2)(ls:LV)(e2:Nat)(a:N2)(hx:lv[i]?=some (.int n t0)) (h1:Int.fmod n 5=(va:Nat)) (h2:Int.fdiv n 5=qq) (h3:Int.fmod qq 5=(vb:Nat)) (h4:decide ((va:Int)=(vb:Int))=true) (hb:ls.length≤1000):eR w aa b1 b2 2 true (KO w0 lv o i le te va vb n qq t0 r ls e2 a):=
 eO B (ol 0x4b4 (.u [3,3] (bQ lv i (.int n t0) hx)::(ol 0x333 (.u [] (ou n va h1)::(ol 0x333 (.u [] (xl n qq h2)::(.u [] (ou qq vb h3)::(ol 0x3333 (.u [] (Dd va vb true h4)::(ol 0x355553b5 (.u [4] (bD ls hb)::(ol 0xd [])))))))))))) (fe [(6,0)]) z3 [3,3,0,0,0] 0 1 fun t x X Fr=>by revert b1 b2 o;exact d4 (by kernel_rfl)
def KP (w0:WW)(lv:LV)(o:Option (Int×Nat×Nat))(i le te va vb:Nat)(n qq:Int)(t0:Tok)(r:N2)(ra:LV)(ea:Nat)(a:N2):SX Code Code:=⟨cH (wt w0) [2] (a 4) (a 0) (a 7) (a 8) (a 9) (a 10) (a 1),[(a 0,ah (bN (a 6) (a 11) o))],[(a 1,cR (a 2)),(a 2,ab (au r) te),(a 3,ab ra ea),(a 4,aq (a 5) i),(a 5,ab lv le)],fun b f=>cH (wt w0) [2] (a 4) (a 0) (a 7) (a 8) (a 9) (a 10) (a 1),fun b f=>[(a 0,ah (bN (a 6) (a 11) (some (n,va,vb))))],fun b f=>[(a 1,cR (a 2)),(a 2,ab (au r) te),(a 3,ab ra ea),(a 4,aq (a 5) (i+1)),(a 5,ab lv le)]⟩
theorem ltB (w0:WW)(lv:LV)(o:Option (Int×Nat×Nat))(i le te va vb:Nat)(n qq:Int)(t0:Tok)(r:N2)(ra:LV)(ea:Nat)(a:N2)(hx:lv[i]?=some (.int n t0)) (h1:Int.fmod n 5=(va:Nat)) (h2:Int.fdiv n 5=qq) (h3:Int.fmod qq 5=(vb:Nat)) (h4:decide ((va:Int)=(vb:Int))=false) (Af:va<1000) (Ag:(au r)[va]?=some (.ref (a 3))) (ha:∀ t,∀ y∈ra,alike y (aZ t (.int vb 0))=true) (hv:∀ t,ra.any (fun y=>eqv y (aZ t (.int vb 0)))=true):eR w aa b1 b2 2 true (KP w0 lv o i le te va vb n qq t0 r ra ea a):=
 eO B (ol 0x5b5 (.u [4,4] (bQ lv i (.int n t0) hx)::(ol 0x333 (.u [] (ou n va h1)::(ol 0x333 (.u [] (xl n qq h2)::(.u [] (ou qq vb h3)::(ol 0x3333 (.u [] (Dd va vb false h4)::(ol 0x343555 (.u [4] (aY (au r) va (.ref (a 3)) Af Ag)::(ol 0x66 (.u [5] (jO ra (.int vb 0) true ha hv)::(ol 0xd [])))))))))))))) z2 z3 [4,4,1,0,0,0] 0 1 fun t x X Fr=>by revert b1 b2 o;exact d4 (by kernel_rfl)
def KQ (w0:WW)(lv:LV)(o:Option (Int×Nat×Nat))(i le te va vb:Nat)(n qq:Int)(t0:Tok)(r:N2)(ra rb:LV)(ea eb:Nat)(a:N2):SX Code Code:=⟨cH (wt w0) [2] (a 5) (a 0) (a 8) (a 9) (a 10) (a 11) (a 1),[(a 0,ah (bN (a 7) (a 12) o))],[(a 1,cR (a 2)),(a 2,ab (au r) te),(a 3,ab ra ea),(a 4,ab rb eb),(a 5,aq (a 6) i),(a 6,ab lv le)],fun b f=>cH (wt w0) [2] (a 5) (a 0) (a 8) (a 9) (a 10) (a 11) (a 1),fun b f=>[(a 0,ah (bN (a 7) (a 12) (some (n,va,vb))))],fun b f=>[(a 1,cR (a 2)),(a 2,ab (au r) te),(a 3,ab (ra++[.int vb (b 1000)]) (ea+1)),(a 4,ab (rb++[.int va (b 1001)]) (eb+1)),(a 5,aq (a 6) (i+1)),(a 6,ab lv le)]⟩
theorem Oq (w0:WW)(lv:LV)(o:Option (Int×Nat×Nat))(i le te va vb:Nat)(n qq:Int)(t0:Tok)(r:N2)(ra rb:LV)(ea eb:Nat)(a:N2)(hx:lv[i]?=some (.int n t0)) (h1:Int.fmod n 5=(va:Nat)) (h2:Int.fdiv n 5=qq) (h3:Int.fmod qq 5=(vb:Nat)) (h4:decide ((va:Int)=(vb:Int))=false) (Af:va<1000) (Ag:(au r)[va]?=some (.ref (a 3))) (KR:vb<1000) (KS:(au r)[vb]?=some (.ref (a 4))) (ha:∀ t,∀ y∈ra,alike y (aZ t (.int vb 0))=true) (hv:∀ t,ra.any (fun y=>eqv y (aZ t (.int vb 0)))=false) (E8:ra.length≤1000) (Ot:rb.length≤1000):eR w aa b1 b2 2 true (KQ w0 lv o i le te va vb n qq t0 r ra rb ea eb a):=
 eO B (ol 0x6b6 (.u [5,5] (bQ lv i (.int n t0) hx)::(ol 0x333 (.u [] (ou n va h1)::(ol 0x333 (.u [] (xl n qq h2)::(.u [] (ou qq vb h3)::(ol 0x3333 (.u [] (Dd va vb false h4)::(ol 0x343555 (.u [4] (aY (au r) va (.ref (a 3)) Af Ag)::(ol 0x66 (.u [5] (jO ra (.int vb 0) false ha hv)::(ol 0x65222 (.u [1] (aY (au r) va (.ref (a 3)) Af Ag)::(ol 0x22225b2 (.u [1] (bD ra E8)::(ol 0x65222 (.u [1] (aY (au r) vb (.ref (a 4)) KR KS)::(ol 0x77775b7 (.u [6] (bD rb Ot)::(ol 0xd [])))))))))))))))))))))) (fe [(11,0),(6,0)]) z3 [5,5,1,1,0,0,0] 0 1 fun t x X Fr=>by revert b1 b2 o;exact d4 (by kernel_rfl)
def KU (w0:WW)(lv:LV)(i le:Nat)(a:N2):SX Code Result:=sB (cH (wt w0) [2] (a 0) (a 7) (a 3) (a 4) (a 5) (a 6) (a 8)) [] [(a 0,aq (a 1) i),(a 1,ab lv le)] (fun b f=> .ok .next) (fun b f=>[(a 1,ab lv le)])
theorem Ou (w0:WW)(lv:LV)(i le:Nat)(a:N2)(hx:lv[i]?=none) {frx:OE}:eP w aa b1 b2 2 frx true true (KU w0 lv i le a):=
 tX B aO.none (ol 0x1b1 (.u [0,0] (bA lv i hx)::(ol 0x1b []))) z2 z3 [2] 2 0
end
theorem ox (r:N2)(T:Nat→List Nat)(ay:Nat→Nat→Tok)(er:N2):aA r T ay er=[0,1,2,3,4].map (bo r T ay er):=rfl
theorem mG (r:N2)(T:Nat→List Nat)(ay:Nat→Nat→Tok)(er:N2){a b:Nat}(ha:a<5)(hb:b<5)(qJ:a≠b):(aA r T ay er).Perm (bo r T ay er a::bo r T ay er b::((([0,1,2,3,4].erase a).erase b).map (bo r T ay er))):=by
 rw[ox];have h1:[0,1,2,3,4].Perm (a::[0,1,2,3,4].erase a):=List.perm_cons_erase (by simp;omega);have h2:([0,1,2,3,4].erase a).Perm (b::([0,1,2,3,4].erase a).erase b):=List.perm_cons_erase ((List.mem_erase_of_ne fun e=>qJ e.symm).mpr (by simp;omega));exact((h1.trans (h2.cons a)).map (bo r T ay er))
theorem xm (r:N2)(T:Nat→List Nat)(ay:Nat→Nat→Tok)(er:N2){a b:Nat}(ha:a<5)(hb:b<5)(qJ:a≠b)(t1 t2:Tok):∃ De Jb,(aA r (mF T a b) De Jb).Perm ((r a,ab (af (T a) (ay a)++[.int b t1]) (er a+1))::(r b,ab (af (T b) (ay b)++[.int a t2]) (er b+1))::((([0,1,2,3,4].erase a).erase b).map (bo r T ay er))):=by
 refine⟨fun x=>if x=a then bW (T a).length (ay a) t1 else if x=b then bW (T b).length (ay b) t2 else ay x,fun x=>if x=a then er a+1 else if x=b then er b+1 else er x,(mG r _ _ _ ha hb qJ).trans ?_⟩;have e1:bo r (mF T a b) (fun x=>if x=a then bW (T a).length (ay a) t1 else if x=b then bW (T b).length (ay b) t2 else ay x) (fun x=>if x=a then er a+1 else if x=b then er b+1 else er x) a=(r a,ab (af (T a) (ay a)++[.int b t1]) (er a+1)):=by
  unfold bo mF;simp only[if_true];rw[cn]
 have E8:¬ b=a:=fun e=>qJ e.symm;have e2:bo r (mF T a b) (fun x=>if x=a then bW (T a).length (ay a) t1 else if x=b then bW (T b).length (ay b) t2 else ay x) (fun x=>if x=a then er a+1 else if x=b then er b+1 else er x) b=(r b,ab (af (T b) (ay b)++[.int a t2]) (er b+1)):=by
  unfold bo mF;simp only[E8,if_false,if_true];rw[cn]
 rw[e1,e2];refine(List.Perm.refl _).cons _ |>.cons _ |>.trans (.of_eq ?_);congr 2;refine List.map_congr_left fun x hx=>?_;have zj:[0,1,2,3,4].Nodup:=by decide
 have h1:x≠b:=fun e=>by
  subst e;exact((zj.erase a).not_mem_erase) hx
 have h2:x≠a:=fun e=>by
  subst e;exact zj.not_mem_erase (List.mem_of_mem_erase hx)
 unfold bo mF;simp only[h1,h2,if_false]
noncomputable def mH (ns:List Int):Nat→Option (Int×Nat×Nat)
 |0=>none
 |i+1=>match ns[i]? with
  |some n=>some (n,dA n,dB n)
  |none=>none
theorem jC {ns:List Int}{i:Nat}{n:Int}(h:ns[i]?=some n):mH ns (i+1)=some (n,dA n,dB n):=by
 show(match ns[i]? with|some n=>some (n,dA n,dB n)|none=>none)=_
 rw[h]
section
variable (b1 b2:Bool){w:WW}{aa:Heap}(B:BB w aa b1 b2)
include B
theorem Df (w0:WW)(fr cc ca cv cw ct ta te it lI le sc ll MU:Nat)(r:N2)(vs:LV)(ns:List Int)(hv:vs.length=ns.length)(r4:∀ (i:Nat) (n:Int),ns[i]?=some n→∃ t,vs[i]?=some (.int n t)) (hn:ns.length≤14) (x:Nat→Tk) (fl:NT) (ay:Nat→Nat→Tok) (er:N2):
  gh w aa b1 b2 2 none (cH (wt w0) [2] it fr cc ca cv cw ct) (rt [(fr,ah (bN sc ll none))] x++[(ct,cR ta),(ta,ab (au r) te),(ll,ab (af [] fl) MU),(it,aq lI 0),(lI,ab vs le)]++aA r (fun _=>[]) ay er)
   (fun rs L=>∃ x fl el ay er,rs=.ok .next∧L.Perm (rt [(fr,ah (bN sc ll (mH ns ns.length)))] x++[(ct,cR ta),(ta,ab (au r) te),(ll,ab (af (stN ns ns.length).1 fl) el),(lI,ab vs le)]++aA r (stN ns ns.length).2 ay er)):=by
 refine bw ns.length (fun i L=>∃ o x fl el ay er,o=mH ns i∧L.Perm (rt [(fr,ah (bN sc ll o))] x++[(ct,cR ta),(ta,ab (au r) te),(ll,ab (af (stN ns i).1 fl) el),(it,aq lI i),(lI,ab vs le)]++aA r (stN ns i).2 ay er)) ?_ ?_ (bZ _) ⟨none,x,fl,MU,ay,er,rfl,.refl _⟩
 ·rintro i L hi ⟨o,x,fl,el,ay,er,ho,hL⟩ ih
  have hI:=pA ns i (by omega);obtain⟨n,A0⟩:∃ n,ns[i]?=some n:=⟨ns[i],cy hi⟩
  have hS:=qM ns i n A0;obtain⟨t0,hx⟩:=r4 i n A0;have ha:=xg n;have hb:=Bw n;generalize J9:stN ns i=s at*;have Qv:=hI.T.len ha;have Qw:=hI.T.len hb;have Qx:=hI.len;unfold Hv at hS;by_cases e:dA n=dB n
  ·rw[if_pos e] at hS
   let a':N2:=ix [fr,ct,ll,it,lI,sc,cc,ca,cv,cw,ta];refine aJ.perm ((Oo b1 b2 B w0 vs o i le te (dA n) (dB n) n (Int.fdiv n 5) t0 r (af s.1 fl) el a' hx (qL n) rfl (xh n) (by rw[e];simp) (by rw[bf];omega)).y lr ([(ta,ab (au r) te)]++aA r s.2 ay er)
    (fun b f cG=>ih _ ⟨some (n,dA n,dB n),cG,bW s.1.length fl (b 1000),el+1,ay,er,(jC A0).symm,?_⟩) (fun _=>0) x) (hL.trans ?_)
   ·rw[hS]
    show List.Perm (rt [(fr,ah (bN sc ll (some (n,dA n,dB n))))] cG++[(ct,cR ta),(ll,ab (af s.1 fl++[.int (dA n) (b 1000)]) (el+1)),(it,aq lI (i+1)),(lI,ab vs le)]++([(ta,ab (au r) te)]++aA r s.2 ay er)) _;rw[cn];exact pm [0,1,5,2,3,4,6]
   ·show List.Perm _ (rt [(fr,ah (bN sc ll o))] x++[(ct,cR ta),(ll,ab (af s.1 fl) el),(it,aq lI i),(lI,ab vs le)]++([(ta,ab (au r) te)]++aA r s.2 ay er))
    exact pm [0,1,3,4,5,2,6]
  ·rw[if_neg e] at hS
   have h4:decide ((dA n:Int)=(dB n:Int))=false:=by rw[decide_eq_false_iff_not];omega
   by_cases e2:dB n∈s.2 (dA n)
   ·rw[if_pos e2] at hS
    let a':N2:=ix [fr,ct,ta,r (dA n),it,lI,sc,cc,ca,cv,cw,ll];have lF:=eE r s.2 ay er (dA n) ha;refine aJ.perm ((ltB b1 b2 B w0 vs o i le te (dA n) (dB n) n (Int.fdiv n 5) t0 r (af (s.2 (dA n)) (ay (dA n))) (er (dA n)) a' hx (qL n) rfl (xh n) h4 (by omega) (cj r _ ha) (dX _ _ _) (fu _ _ _ (cT e2))).y lr ([(ll,ab (af s.1 fl) el)]++(others (dA n)).map (bo r s.2 ay er))
     (fun b f cG=>ih _ ⟨some (n,dA n,dB n),cG,fl,el,ay,er,(jC A0).symm,?_⟩) (fun _=>0) x) (hL.trans ?_)
    ·rw[hS]
     show List.Perm (rt [(fr,ah (bN sc ll (some (n,dA n,dB n))))] cG++[(ct,cR ta),(ta,ab (au r) te),bo r s.2 ay er (dA n),(it,aq lI (i+1)),(lI,ab vs le)]++([(ll,ab (af s.1 fl) el)]++(others (dA n)).map (bo r s.2 ay er))) _;exact i' [3,7,0,1,2,4,5,6] [6,0,1,2,4,5,3] lF.symm
    ·show List.Perm _ (rt [(fr,ah (bN sc ll o))] x++[(ct,cR ta),(ta,ab (au r) te),bo r s.2 ay er (dA n),(it,aq lI i),(lI,ab vs le)]++([(ll,ab (af s.1 fl) el)]++(others (dA n)).map (bo r s.2 ay er)))
     exact i' [6,0,1,2,3,4,5] [3,7,0,1,2,6,4,5] lF
   ·rw[if_neg e2] at hS
    let a':N2:=ix [fr,ct,ta,r (dA n),r (dB n),it,lI,sc,cc,ca,cv,cw,ll];have lF:=mG r s.2 ay er ha hb e;refine aJ.perm ((Oq b1 b2 B w0 vs o i le te (dA n) (dB n) n (Int.fdiv n 5) t0 r (af (s.2 (dA n)) (ay (dA n))) (af (s.2 (dB n)) (ay (dB n))) (er (dA n)) (er (dB n)) a' hx (qL n) rfl (xh n) h4 (by omega) (cj r _ ha) (by omega) (cj r _ hb) (dX _ _ _) (fu _ _ _ (decide_eq_false e2)) (by rw[bf];omega) (by rw[bf];omega)).y lr ([(ll,ab (af s.1 fl) el)]++(([0,1,2,3,4].erase (dA n)).erase (dB n)).map (bo r s.2 ay er))
     (fun b f cG=>?_) (fun _=>0) x) (hL.trans ?_)
    ·obtain⟨De,Jb,hp⟩:=xm r s.2 ay er ha hb e (b 1000) (b 1001)
     refine ih _ ⟨some (n,dA n,dB n),cG,fl,el,De,Jb,(jC A0).symm,?_⟩;rw[hS];show List.Perm (rt [(fr,ah (bN sc ll (some (n,dA n,dB n))))] cG++[(ct,cR ta),(ta,ab (au r) te),(r (dA n),ab (af (s.2 (dA n)) (ay (dA n))++[.int (dB n) (b 1000)]) (er (dA n)+1)),(r (dB n),ab (af (s.2 (dB n)) (ay (dB n))++[.int (dA n) (b 1001)]) (er (dB n)+1)),(it,aq lI (i+1)),(lI,ab vs le)]++([(ll,ab (af s.1 fl) el)]++(([0,1,2,3,4].erase (dA n)).erase (dB n)).map (bo r s.2 ay er))) _;exact i' [3,4,8,0,1,2,5,6,7] [6,0,1,2,4,5,3] hp.symm
    ·show List.Perm _ (rt [(fr,ah (bN sc ll o))] x++[(ct,cR ta),(ta,ab (au r) te),bo r s.2 ay er (dA n),bo r s.2 ay er (dB n),(it,aq lI i),(lI,ab vs le)]++([(ll,ab (af s.1 fl) el)]++(([0,1,2,3,4].erase (dA n)).erase (dB n)).map (bo r s.2 ay er)))
     exact i' [6,0,1,2,3,4,5] [3,4,8,0,1,2,7,5,6] lF
 ·rintro L ⟨o,x,fl,el,ay,er,ho,hL⟩
  let a':N2:=ix [it,lI,sc,cc,ca,cv,cw,fr,ct];have z:=(Ou b1 b2 B w0 vs ns.length le a' (by rw[←hv];simp) (frx:=none)).use (rt [(fr,ah (bN sc ll o))] x++[(ct,cR ta),(ta,ab (au r) te),(ll,ab (af (stN ns ns.length).1 fl) el)]++aA r (stN ns ns.length).2 ay er) (fun _=>0) x;refine(aJ.perm z (hL.trans ?_)).mono (by omega) ?_
  ·show List.Perm _ (rt [] x++[(it,aq lI ns.length),(lI,ab vs le)]++(rt [(fr,ah (bN sc ll o))] x++[(ct,cR ta),(ta,ab (au r) te),(ll,ab (af (stN ns ns.length).1 fl) el)]++aA r (stN ns ns.length).2 ay er))
   exact pm [4,5,0,1,2,3,6]
  ·rintro rs L' ⟨b,f,x',hr,rfl⟩
   refine⟨x,fl,el,ay,er,hr,?_⟩;rw[←ho];show List.Perm (rt [] x'++[(lI,ab vs le)]++(rt [(fr,ah (bN sc ll o))] x++[(ct,cR ta),(ta,ab (au r) te),(ll,ab (af (stN ns ns.length).1 fl) el)]++aA r (stN ns ns.length).2 ay er)) _;exact pm [1,2,3,4,0,5]
end
theorem qN {c:Nat}:∀ {x y A B:LN},c∉x→c∉y→x++c::A=y++c::B→x=y∧A=B
 |[],[],A,B,_,_,h=>⟨rfl,by injection h⟩
 |[],b::y,A,B,_,hy,h=>by
  injection h with h1 h2
  exact absurd bT (h1▸hy)
 |a::x,[],A,B,hx,_,h=>by
  injection h with h1 h2
  exact absurd bT (h1▸hx)
 |a::x,b::y,A,B,hx,hy,h=>by
  injection h with h1 h2
  have:=qN (fun hh=>hx (bE _ hh)) (fun hh=>hy (bE _ hh)) h2;exact⟨by rw[h1,this.1],this.2⟩
theorem j1 (c:Nat)(x y:Str)(r:List Str):(Str.join (S [c]) (x::y::r)).cps.toList=x.cps.toList++c::(Str.join (S [c]) (y::r)).cps.toList:=by
 show(x++S [c]++Str.join (S [c]) (y::r)).cps.toList=_;rw[Str.cps_append,Str.cps_append];simp[S]
theorem qO (c:Nat):∀ (l m:List Str),l≠[]→m≠[]→(∀ p∈l,c∉p.cps.toList)→(∀ p∈m,c∉p.cps.toList)→(Str.join (S [c]) l).cps.toList=(Str.join (S [c]) m).cps.toList→l=m
 |[],_,h,_,_,_,_=>absurd rfl h
 |_,[],_,h,_,_,_=>absurd rfl h
 |[x],[y],_,_,_,_,h=>congrArg (fun z=>[z]) (Str.ext' (Array.ext' h))
 |[x],y::z::m,_,_,hx,_,h=>by
  rw[j1] at h;have h:x.cps.toList=_:=h;exact absurd (by rw[h];simp) (hx x bT)
 |x::z::l,[y],_,_,_,hy,h=>by
  rw[j1] at h;have h:_=y.cps.toList:=h;exact absurd (by rw[←h];simp) (hy y bT)
 |x::z::l,y::z2::m,_,_,hx,hy,h=>by
  rw[j1,j1] at h;obtain⟨h1,h2⟩:=qN (hx x bT) (hy y bT) h;have:=qO c (z::l) (z2::m) (by simp) (by simp) (fun p hp=>hx p (bE _ hp)) (fun p hp=>hy p (bE _ hp)) h2;rw[Str.ext' (Array.ext' h1),this]
theorem kn (ds:LN)(bq:ds≠[])(cJ:∀ d∈ds,d<5):Txt.split (aj 47 ds) (S [47])=ds.map ao:=by
 refine qO 47 _ _ ?_ (by simpa using bq) (StrLaws.split_free _ 47) (fun p hp=>?_) ?_
 ·unfold Txt.split
  split
  ·simp
  ·split
   ·simp
   ·intro e
    rw[StrLaws.partsBetween_eq] at e;obtain⟨p,r,h⟩:=StrLaws.partsFrom_ne (aj 47 ds) (S [47]).length 0 (Builtin.Str.occurrences (aj 47 ds) (S [47]) 0 (aj 47 ds).length ((aj 47 ds).length+1));rw[h] at e;cases e
 ·obtain⟨d,hd,rfl⟩:=List.mem_map.mp hp
  show 47∉[d+48];simp
 ·have e1:Str.join (S [47]) (Txt.split (aj 47 ds) (S [47]))=aj 47 ds:=StrLaws.join_split _ _
  have e2:Str.join (S [47]) (ds.map ao)=aj 47 ds:=by rw[←StrLaws.glued_eq_join];exact kM 47 ds
  rw[e1,e2]
theorem kR:∀ (k:Nat)(l:List Str),strsFrom k l=ag l fun i=>k+i
 |_,[]=>rfl
 |k,x::l=>by
  show Value.str x k::strsFrom (k+1) l=Value.str x (k+0)::ag l _;rw[kR (k+1) l];have:(fun i=>k+1+i)=(fun(i:Nat)=>k+(i+1)):=by funext i;omega
  rw[this];rfl
section
variable {prog:Program}{w:WW}{aa:Heap}
theorem Ah (ds:LN)(bq:ds≠[])(cJ:∀ d∈ds,d<5)(hlen:ds.length≤100)(t u:Tok):
  d3 prog w aa 0 (.call (.builtin "str.split") ⟨[.str (aj 47 ds) t,.str (S [47]) u],[]⟩) [] (fun r L=>∃ b τ,r=.ok (.ret (.ref b))∧L=[(b,ab (ag (ds.map ao) τ) 0)]):=by
 have hs:=kn ds bq cJ;have hl:(aj 47 ds).length≤sizeLine:=by have:=fi 47 ds;unfold sizeLine;omega
 intro A R Fr h g d os tok size hA D kk;have es:h.objs.size=size:=D.sz;have new:∀ (τ:NT)(aN:Nat),R (.ok (.ret (.ref h.objs.size))) ⟨h.push (ab (ag (ds.map ao) τ) 0),g,d,aN,os⟩:=fun τ aN=>by
  have D2:=D.alloc (o:=ab (ag (ds.map ao) τ) 0) rfl;have key:=kk (.ok (.ret (.ref size))) ((size,ab (ag (ds.map ao) τ) 0)::[]) (h.push (ab (ag (ds.map ao) τ) 0)) g aN (size+1) ⟨size,τ,rfl,rfl⟩ (bh.refl _) D2;rw[es];exact key
 have itself:Txt.split (aj 47 ds) (S [47])=[aj 47 ds]→listOfItself (aj 47 ds) t A R ⟨h,g,d,tok,os⟩:=fun e=>by
  rw[hs] at e;have:=new (fun _=>t) tok;rw[e] at this;exact this
 cases h1:(decide ((aj 47 ds).length<(S [47]).length)||decide (Builtin.Str.strKind (aj 47 ds)<Builtin.Str.strKind (S [47])))
 ·cases hf:(Builtin.Str.occurrences (aj 47 ds) (S [47]) 0 (aj 47 ds).length ((aj 47 ds).length+1)).isEmpty
  ·refine codeAny_call_builtin F.slot_str_split.plain F.entry_str_split (F.slot_str_split.check _ _ _ _ _ _ _ _ (typeIs_str _ _ _) (F.args_str_split_2 _ _) (meets_str_split_sep (aj 47 ds) (S [47]) t u h1 rfl hf hl ?_ prog w A R _ ?_))
   ·have e:Txt.split (aj 47 ds) (S [47])=Builtin.Str.partsBetween (aj 47 ds) (Builtin.Str.occurrences (aj 47 ds) (S [47]) 0 (aj 47 ds).length ((aj 47 ds).length+1)) (S [47]).length:=by
     unfold Txt.split;rw[if_neg (ne_true_of_eq_false h1),if_neg (ne_true_of_eq_false hf)]
    rw[←e,hs,bU];unfold sizeLine;omega
   ·have e:Txt.split (aj 47 ds) (S [47])=Builtin.Str.partsBetween (aj 47 ds) (Builtin.Str.occurrences (aj 47 ds) (S [47]) 0 (aj 47 ds).length ((aj 47 ds).length+1)) (S [47]).length:=by
     unfold Txt.split;rw[if_neg (ne_true_of_eq_false h1),if_neg (ne_true_of_eq_false hf)]
    rw[←e,hs];have z:=new (fun i=>tok+i) (tok+(ds.map ao).length);rw[←kR] at z;exact z
  ·refine codeAny_call_builtin F.slot_str_split.plain F.entry_str_split (F.slot_str_split.check _ _ _ _ _ _ _ _ (typeIs_str _ _ _) (F.args_str_split_2 _ _) (meets_str_split_not_found (aj 47 ds) (S [47]) t u h1 rfl hf prog w A R _ (itself ?_)))
   unfold Txt.split;rw[if_neg (ne_true_of_eq_false h1),if_pos hf]
 ·refine codeAny_call_builtin F.slot_str_split.plain F.entry_str_split (F.slot_str_split.check _ _ _ _ _ _ _ _ (typeIs_str _ _ _) (F.args_str_split_2 _ _) (meets_str_split_cannot_occur (aj 47 ds) (S [47]) t u h1 prog w A R _ (itself ?_)))
  unfold Txt.split;rw[if_pos h1]
def bX (ds:LN)(bq:ds≠[])(cJ:∀ d∈ds,d<5)(hlen:ds.length≤100):Ent prog w aa:=
 dk 0 true true 0 none (fun c _=> .call (.builtin "str.split") ⟨[.str (aj 47 ds) (cD (gB c 0)),.str (S [47]) (cD (gB c 1))],[]⟩) (fun _ _=>[]) (fun _ _=>[])
  (fun _ _ b _=> .ok (.ret (.ref (b 0)))) (fun _ _ _ _=>[]) (fun _ _ b f=>[(b 0,ab (ag (ds.map ao) (f 0)) 0)]) fun c rs t x=>
   (aJ.mono (lv:=0) (fr:=none) (d3.f (Ah ds bq cJ hlen _ _)) lr fun r L hP=>by
    obtain⟨b,τ,rfl,rfl⟩:=hP;exact⟨fun _=>b,fun _=>τ,[],rfl,rfl,rfl⟩)
end
noncomputable def dC:LN→List Nat→Bool
 |[],[]=>false
 |[],_::_=>true
 |_::_,[]=>false
 |a::l,b::m=>if a=b then dC l m else decide (a<b)
theorem oy:∀ l m,dC l m=true→dC m l=false
 |[],[],h=>by cases h
 |[],_::_,_=>rfl
 |_::_,[],h=>by cases h
 |a::l,b::m,h=>by
  unfold dC at h ⊢;by_cases e:a=b
  ·subst e;rw[if_pos rfl] at h ⊢;exact oy l m h
  ·rw[if_neg e] at h;rw[if_neg fun e2=>e e2.symm];simp at h ⊢;omega
theorem xn:∀ l m,dC l m=false→dC m l=false→l=m
 |[],[],_,_=>rfl
 |[],_::_,h,_=>by cases h
 |_::_,[],_,h=>by cases h
 |a::l,b::m,h1,h2=>by
  unfold dC at h1 h2;by_cases e:a=b
  ·subst e;rw[if_pos rfl] at h1 h2;rw[xn l m h1 h2]
  ·rw[if_neg e] at h1;rw[if_neg fun e2=>e e2.symm] at h2;simp at h1 h2;omega
theorem mI (a b:Nat):(ao a==ao b)=decide (a=b):=by
 by_cases h:a=b
 ·subst h;simp
 ·have:¬ ao a=ao b:=fun e=>by
   unfold ao S at e;injection e with e
   injection e with e
   injection e with e
   omega
  simp[h,this]
theorem xo (a b:Nat):decide ((ao a).cps.toList<(ao b).cps.toList)=decide (a<b):=by
 have:((ao a).cps.toList<(ao b).cps.toList)↔a<b:=by
  show([a+48]<[b+48])↔a<b;rw[List.cons_lt_cons_iff];simp
 simp only[this]
theorem gq {ds:LN}{τ:NT}{i:Nat}(h:i<ds.length):(ag (ds.map ao) τ)[i]?=some (.str (ao ds[i]) (τ i)):=eA _ _ _ _ (by rw[List.getElem?_map,cy h];rfl)
theorem ko {ds:LN}{τ:NT}{i:Nat}(h:ds.length≤i):(ag (ds.map ao) τ)[i]?=none:=fG _ _ _ (eU (by simpa using h))
theorem kq {prog:Program}{w:WW}{aa:Heap}{A:Around}{E:Value→Shared→Prop}{Q:OV→Shared→Prop}{it l:Nat}{i e:Nat}{vs:LV}{x:Value}{Z:Ow}{h:Heap}{g:Array GenState}{d:Drawn}{tok size:Nat}{os:OsState}
  (D:Rp aa h ((it,aq l i)::(l,ab vs e)::Z) size) (hx:vs[i]?=some x) (hQ:∀ h',Rp aa h' ((it,aq l (i+1))::(l,ab vs e)::Z) size→Q (some x) ⟨h',g,d,tok,os⟩):
  wpAny (model prog w) A (pyNext (.ref it)) Q E ⟨h,g,d,tok,os⟩:=by
 have ho:h.get? it=some (aq l i):=D.get (.head _) (fun _=>rfl);have Hy:h.get? l=some (ab vs e):=D.get (.tail _ (.head _)) (fun _=>rfl);have hit:h.IsListIter it l i:=⟨_,ho,rfl,rfl⟩;unfold pyNext;refine aw (wpAny_attempt (wpAny_callSpecial?_slot (name:=Str.ofString "__next__") (s:=⟨h,g,d,tok,os⟩) hit.typeIs slot_listiter_next
  (wpAny_call_entry slot_listiter_next hit.typeIs entry_listiter_next ?_ (args_listiter_next _))))
 show wpAny _ _ (field (.ref it) 0>>=_) _ _ _;refine aw (wpAny_field ho rfl (x:=.ref l) rfl ?_);show wpAny _ _ (if(Value.ref l==Value.none)=true then _ else _) _ _ _;rw[if_neg (show ¬ ((Value.ref l==Value.none)=true) from Bool.false_ne_true)];show wpAny _ _ (field (.ref it) 1>>=_) _ _ _;refine aw (wpAny_field ho rfl (x:=.int i 0) rfl ?_);show wpAny _ _ (seqItems? (.ref l)>>=_) _ _ _;refine aw (wpAny_seqItems Hy rfl ?_);have jJ:(⟨vs⟩:Array Value)[(i:Int).toNat]?=some x:=by simpa using hx
 simp only[jJ];refine aw (wpAny_setField ho rfl (by simp) (aG ⟨x,rfl,aG (hQ _ ?_)⟩));have D':Rp aa h ((it,aq l i)::[]++((l,ab vs e)::Z)) size:=D;exact D'.fC (fun _=>rfl) (by simp[Obj.mapFields,aq,rawInt]) rfl
theorem Ai (a b:Nat)(p q:LN)(τ bG:NT)(n n2:Nat)(k:Nat):
  ∀ i:Nat,p.length-i=k→i≤p.length→i≤q.length→Meets (Builtin.«list.__eq__.loop» ⟨[.ref a,.ref b,rawInt i,rawInt 0],[]⟩)
   (fun A R s=>s.heap.get? a=some (ab (ag (p.map ao) τ) n)∧s.heap.get? b=some (ab (ag (q.map ao) bG) n2)∧R (.ok (.ret (.bool (dC (p.drop i) (q.drop i))))) s):=by
 induction k with
 |zero=>
  intro i hk KV KW prog w A R s h;obtain⟨hp,g,d,tk,os⟩:=s;obtain⟨hl,hb,h⟩:=h;have hi:i=p.length:=by omega
  wp_walk using c6 hl,c6 hb
  have xp:(⟨ag (p.map ao) τ⟩:Array Value)[((i:Nat):Int).toNat]?=none:=by simpa using ko (τ:=τ) (by omega)
  rw[xp]
  wp_walk using c6 hl,c6 hb
  show R (.ok (.ret (.bool (decide ((ag (p.map ao) τ).length<(ag (q.map ao) bG).length))))) _;rw[aI,aI,bU,bU];have e:(decide (p.length<q.length))=dC (p.drop i) (q.drop i):=by
   rw[List.drop_of_length_le (l:=p) (by omega)];cases hq:q.drop i with
   |nil=>
    have:=congrArg List.length hq;simp at this;exact decide_eq_false (by omega)
   |cons c m=>
    have:=congrArg List.length hq;simp at this;exact cT (by omega)
  rw[e];exact h
 |succ k ih=>
  intro i hk KV KW prog w A R s h;obtain⟨hp,g,d,tk,os⟩:=s;obtain⟨hl,hb,h⟩:=h;have hi:i<p.length:=by omega
  have ep:p.drop i=p[i]::p.drop (i+1):=List.drop_eq_getElem_cons hi
  wp_walk using c6 hl,c6 hb
  have xp:(⟨ag (p.map ao) τ⟩:Array Value)[((i:Nat):Int).toNat]?=some (.str (ao p[i]) (τ i)):=by simpa using gq (τ:=τ) hi
  have hc:((i:Int)+1)=((i+1:Nat):Int):=by push_cast;rfl
  by_cases hq:i<q.length
  ·have eq:q.drop i=q[i]::q.drop (i+1):=List.drop_eq_getElem_cons hq
   have uv:(⟨ag (q.map ao) bG⟩:Array Value)[((i:Nat):Int).toNat]?=some (.str (ao q[i]) (bG i)):=by simpa using gq (τ:=bG) hq
   rw[xp,uv];refine aw (PySem.SeqAt.EqAt.str_str (ao p[i]) (τ i) (ao q[i]) (bG i) prog w _ _ ?_);rw[mI];rw[ep,eq] at h;unfold dC at h;by_cases mJ:p[i]=q[i]
   ·rw[if_pos mJ] at h
    rw[cT mJ]
    wp_walk
    rw[hc];exact⟨plainId_quiet PySem.MeetsSeq3.plain_eq_loop _,dw PySem.MeetsSeq3.entry_eq_loop (by
     rw[Around.under_plainId PySem.MeetsSeq3.plain_eq_loop _];exact ih (i+1) (by omega) (by omega) (by omega) prog w A R _ ⟨hl,hb,h⟩)⟩
   ·rw[if_neg mJ] at h
    rw[decide_eq_false mJ]
    wp_walk using c6 hl,c6 hb
    rw[xp,uv];refine aw (richCompare_gives (op:=.Lt) (typeIs_str _ _ _) (typeIs_str _ _ _) F.slot_str_lt F.entry_str_lt (F.args_str_lt_2 _ _) (gives_str_lt _ _ _ _) (by simp[Made.takes]) ?_);rw[xo];exact aG h
  ·have uv:(⟨ag (q.map ao) bG⟩:Array Value)[((i:Nat):Int).toNat]?=none:=by simpa using ko (τ:=bG) (by omega)
   rw[xp,uv]
   wp_walk using c6 hl,c6 hb
   show R (.ok (.ret (.bool (decide ((ag (p.map ao) τ).length<(ag (q.map ao) bG).length))))) _;rw[aI,aI,bU,bU];have e:(decide (p.length<q.length))=dC (p.drop i) (q.drop i):=by
    rw[List.drop_of_length_le (l:=q) (by omega),ep];exact decide_eq_false (by omega)
   rw[e];exact h
theorem Aj (a b:Nat)(p q:LN)(τ bG:NT)(n n2:Nat):Meets (Builtin.«list.__lt__» ⟨[.ref a,.ref b],[]⟩)
   (fun A R s=>s.heap.get? a=some (ab (ag (p.map ao) τ) n)∧s.heap.get? b=some (ab (ag (q.map ao) bG) n2)∧R (.ok (.ret (.bool (dC p q)))) s):=by
 intro prog w A R s h;obtain⟨hp,g,d,tk,os⟩:=s;obtain⟨hl,hb,h⟩:=h;have f3:=AutoSeq1.sub_list_list;have yE:hp.get? a=some {cls:=.type "list",dict:=none,data:=.seq ⟨ag (p.map ao) τ⟩ n,slots:=#[]}:=hl;have Dg:hp.get? b=some {cls:=.type "list",dict:=none,data:=.seq ⟨ag (q.map ao) bG⟩ n2,slots:=#[]}:=hb
 wp_walk using c6 yE,c6 Dg
 exact⟨plainId_quiet PySem.MeetsSeq3.plain_eq_loop _,dw PySem.MeetsSeq3.entry_eq_loop (by
  rw[Around.under_plainId PySem.MeetsSeq3.plain_eq_loop _];exact Ai a b p q τ bG n n2 _ 0 rfl (bZ _) (bZ _) prog w A R _ ⟨hl,hb,h⟩)⟩
theorem Hz {prog:Program}{w:WW}{A:Around}{E:Value→Shared→Prop}{Q:Value→Shared→Prop}{s:Shared}{a b:Nat}{p q:LN}{τ bG:NT}{n n2:Nat}(ha:s.heap.get? a=some (ab (ag (p.map ao) τ) n))(hb:s.heap.get? b=some (ab (ag (q.map ao) bG) n2))(hu:A.units<cLine)
  (h:Q (.bool (dC p q)) s):wpAny (model prog w) A (richCompare .Lt (.ref a) (.ref b)) Q E s:=
 richCompare_meets_room (op:=.Lt) ⟨_,ha,rfl⟩ ⟨_,hb,rfl⟩ F.slot_list_lt F.entry_list_lt (F.args_list_lt_2 _ _) (Aj a b p q τ bG n n2) ⟨ha,hb,(show Value.bool (dC p q)≠Value.notImplemented∧Q (.bool (dC p q)) s from⟨(fun x=>nomatch x),h⟩)⟩ hu
theorem xq {prog:Program}{w:WW}{aa:Heap}(it l best a b:Nat)(p q:LN)(τ bG:NT)(e e2 n n2:Nat)
  (hN:∀ mK,d3 prog w aa 1 (.builtin "min.loop" ⟨[.ref it,.none,.ref best],[]⟩) [(it,aq l 2),(l,ab [.ref a,.ref b] e),(best,ab [.ref (if(dC q p) then b else a),.ref (if(dC q p) then b else a)] mK)] (fun r L=>r=.ok (.ret (.ref (if(dC q p) then b else a)))∧L=[(l,ab [.ref a,.ref b] e)])):
  d3 prog w aa 1 (.builtin "min.loop" ⟨[.ref it,.none,.ref best],[]⟩) [(it,aq l 1),(l,ab [.ref a,.ref b] e),(best,ab [.ref a,.ref a] e2),(a,ab (ag (p.map ao) τ) n),(b,ab (ag (q.map ao) bG) n2)]
   (fun r L=>r=.ok (.ret (.ref (if(dC q p) then b else a)))∧L=[(l,ab [.ref a,.ref b] e),(a,ab (ag (p.map ao) τ) n),(b,ab (ag (q.map ao) bG) n2)]):=by
 intro A R Fr h g d os tok size hA hD kk;have qP:(toString "min"++toString ".loop":String)="min.loop":=by decide
 have hS:h.get? best=some (ab [.ref a,.ref a] e2):=hD.get (.tail _ (.tail _ (.head _))) (fun _=>rfl);refine dw F.entry_min_loop ?_;rw[Around.under_plainId F.plain_min_loop _];show wpAny _ A.in1 (seqItems? (.ref best)>>=_) _ _ _;refine aw (wpAny_seqItems hS rfl ?_);show wpAny _ A.in1 (tryCatch (pyNext (.ref it)) _>>=_) _ _ _;refine aw (wpAny_tryCatch (kq (Z:=[(best,ab [.ref a,.ref a] e2),(a,ab (ag (p.map ao) τ) n),(b,ab (ag (q.map ao) bG) n2)]++Fr) (x:=.ref b) hD rfl fun h1 D1=>?_));have KY:h1.get? a=some (ab (ag (p.map ao) τ) n):=D1.get (.tail _ (.tail _ (.tail _ (.head _)))) (fun _=>rfl);have HA:h1.get? b=some (ab (ag (q.map ao) bG) n2):=D1.get (.tail _ (.tail _ (.tail _ (.tail _ (.head _))))) (fun _=>rfl);have KZ:h1.get? best=some (ab [.ref a,.ref a] e2):=D1.get (.tail _ (.tail _ (.head _))) (fun _=>rfl);show wpAny _ A.in1 (tryCatch (holding [.ref b,.ref b] (richCompare .Lt (.ref b) (.ref a)>>=_)) _>>=_) _ _ _;refine aw (wpAny_tryCatch (wpAny_holding (aw (Hz HA KY ?_ ?_))))
 ·have:=hA.un
  show A.units+1<cLine;omega
 refine aw (wpAny_holding (wpAny_truthy_bool ?_));refine aw (wpAny_letGo (aG ?_));by_cases hb:dC q p=true
 ·simp only[hb,if_true] at hN kk ⊢
  refine aw ?_;refine wpAny_updateSeq KZ rfl (aw (wpAny_letGo ?_));rw[qP];have rm:Rp aa h1 ((best,ab [.ref a,.ref a] e2)::[]++((it,aq l 2)::(l,ab [.ref a,.ref b] e)::([(a,ab (ag (p.map ao) τ) n),(b,ab (ag (q.map ao) bG) n2)]++Fr))) size:=D1.perm (by
   show List.Perm ((it,aq l 2)::(l,ab [.ref a,.ref b] e)::(best,ab [.ref a,.ref a] e2)::_) _;exact((List.Perm.swap _ _ _).cons _).trans (List.Perm.swap _ _ _))
  have D2:=rm.fC (f:=Obj.mapSeq fun _=>#[.ref b,.ref b]) (o':=ab [.ref b,.ref b] e2) (fun _=>rfl) (by simp[Obj.mapSeq,ab]) rfl;refine aG ⟨plainId_quiet F.plain_min_loop _,hN e2 A R ([(a,ab (ag (p.map ao) τ) n),(b,ab (ag (q.map ao) bG) n2)]++Fr) _ g d os tok size hA ?_ ?_⟩
  ·refine D2.perm ?_
   show List.Perm ((best,ab [.ref b,.ref b] e2)::(it,aq l 2)::(l,ab [.ref a,.ref b] e)::_) ((it,aq l 2)::(l,ab [.ref a,.ref b] e)::(best,ab [.ref b,.ref b] e2)::_);exact(List.Perm.swap _ _ _).trans ((List.Perm.swap _ _ _).cons _)
  ·rintro r L' h3 g3 t3 s3 ⟨rfl,rfl⟩ G3 D3
   exact kk _ _ h3 g3 t3 s3 ⟨rfl,rfl⟩ G3 D3
 ·have hb:dC q p=false:=by simpa using hb
  simp only[hb,Bool.false_eq_true,if_false] at hN kk ⊢;refine aw (wpAny_letGo ?_);rw[qP];refine aG ⟨plainId_quiet F.plain_min_loop _,hN e2 A R ([(a,ab (ag (p.map ao) τ) n),(b,ab (ag (q.map ao) bG) n2)]++Fr) _ g d os tok size hA D1 ?_⟩;rintro r L' h3 g3 t3 s3 ⟨rfl,rfl⟩ G3 D3;exact kk _ _ h3 g3 t3 s3 ⟨rfl,rfl⟩ G3 D3
theorem Ak (a b:Nat)(p q:LN)(τ bG:NT)(n n2:Nat)(k:Nat):
  ∀ i:Nat,p.length-i=k→i≤p.length→i≤q.length→Meets (Builtin.«list.__eq__.loop» ⟨[.ref a,.ref b,rawInt i,rawInt 4],[]⟩)
   (fun A R s=>s.heap.get? a=some (ab (ag (p.map ao) τ) n)∧s.heap.get? b=some (ab (ag (q.map ao) bG) n2)∧R (.ok (.ret (.bool (dC (q.drop i) (p.drop i))))) s):=by
 induction k with
 |zero=>
  intro i hk KV KW prog w A R s h;obtain⟨hp,g,d,tk,os⟩:=s;obtain⟨hl,hb,h⟩:=h;have hi:i=p.length:=by omega
  wp_walk using c6 hl,c6 hb
  have xp:(⟨ag (p.map ao) τ⟩:Array Value)[((i:Nat):Int).toNat]?=none:=by simpa using ko (τ:=τ) (by omega)
  rw[xp]
  wp_walk using c6 hl,c6 hb
  show R (.ok (.ret (.bool (decide ((ag (p.map ao) τ).length>(ag (q.map ao) bG).length))))) _;rw[aI,aI,bU,bU];have e:(decide (p.length>q.length))=dC (q.drop i) (p.drop i):=by
   rw[List.drop_of_length_le (l:=p) (by omega)];cases hq:q.drop i with
   |nil=>
    have:=congrArg List.length hq;simp at this;exact decide_eq_false (by omega)
   |cons c m=>
    have:=congrArg List.length hq;simp at this;exact decide_eq_false (by omega)
  rw[e];exact h
 |succ k ih=>
  intro i hk KV KW prog w A R s h;obtain⟨hp,g,d,tk,os⟩:=s;obtain⟨hl,hb,h⟩:=h;have hi:i<p.length:=by omega
  have ep:p.drop i=p[i]::p.drop (i+1):=List.drop_eq_getElem_cons hi
  wp_walk using c6 hl,c6 hb
  have xp:(⟨ag (p.map ao) τ⟩:Array Value)[((i:Nat):Int).toNat]?=some (.str (ao p[i]) (τ i)):=by simpa using gq (τ:=τ) hi
  have hc:((i:Int)+1)=((i+1:Nat):Int):=by push_cast;rfl
  by_cases hq:i<q.length
  ·have eq:q.drop i=q[i]::q.drop (i+1):=List.drop_eq_getElem_cons hq
   have uv:(⟨ag (q.map ao) bG⟩:Array Value)[((i:Nat):Int).toNat]?=some (.str (ao q[i]) (bG i)):=by simpa using gq (τ:=bG) hq
   rw[xp,uv];refine aw (PySem.SeqAt.EqAt.str_str (ao p[i]) (τ i) (ao q[i]) (bG i) prog w _ _ ?_);rw[mI];rw[ep,eq] at h;unfold dC at h;by_cases mJ:p[i]=q[i]
   ·rw[if_pos mJ.symm] at h
    rw[cT mJ]
    wp_walk
    rw[hc];exact⟨plainId_quiet PySem.MeetsSeq3.plain_eq_loop _,dw PySem.MeetsSeq3.entry_eq_loop (by
     rw[Around.under_plainId PySem.MeetsSeq3.plain_eq_loop _];exact ih (i+1) (by omega) (by omega) (by omega) prog w A R _ ⟨hl,hb,h⟩)⟩
   ·rw[if_neg fun e=>mJ e.symm] at h
    rw[decide_eq_false mJ]
    wp_walk using c6 hl,c6 hb
    rw[xp,uv];refine aw (richCompare_gives (op:=.Gt) (typeIs_str _ _ _) (typeIs_str _ _ _) F.slot_str_gt F.entry_str_gt (F.args_str_gt_2 _ _) (gives_str_gt _ _ _ _) (by simp[Made.takes]) ?_);rw[xo];exact aG h
  ·have uv:(⟨ag (q.map ao) bG⟩:Array Value)[((i:Nat):Int).toNat]?=none:=by simpa using ko (τ:=bG) (by omega)
   rw[xp,uv]
   wp_walk using c6 hl,c6 hb
   show R (.ok (.ret (.bool (decide ((ag (p.map ao) τ).length>(ag (q.map ao) bG).length))))) _;rw[aI,aI,bU,bU];have e:(decide (p.length>q.length))=dC (q.drop i) (p.drop i):=by
    rw[List.drop_of_length_le (l:=q) (by omega),ep];exact cT (by omega)
   rw[e];exact h
theorem Al (a b:Nat)(p q:LN)(τ bG:NT)(n n2:Nat):Meets (Builtin.«list.__gt__» ⟨[.ref a,.ref b],[]⟩)
   (fun A R s=>s.heap.get? a=some (ab (ag (p.map ao) τ) n)∧s.heap.get? b=some (ab (ag (q.map ao) bG) n2)∧R (.ok (.ret (.bool (dC q p)))) s):=by
 intro prog w A R s h;obtain⟨hp,g,d,tk,os⟩:=s;obtain⟨hl,hb,h⟩:=h;have f3:=AutoSeq1.sub_list_list;have yE:hp.get? a=some {cls:=.type "list",dict:=none,data:=.seq ⟨ag (p.map ao) τ⟩ n,slots:=#[]}:=hl;have Dg:hp.get? b=some {cls:=.type "list",dict:=none,data:=.seq ⟨ag (q.map ao) bG⟩ n2,slots:=#[]}:=hb
 wp_walk using c6 yE,c6 Dg
 exact⟨plainId_quiet PySem.MeetsSeq3.plain_eq_loop _,dw PySem.MeetsSeq3.entry_eq_loop (by
  rw[Around.under_plainId PySem.MeetsSeq3.plain_eq_loop _];exact Ak a b p q τ bG n n2 _ 0 rfl (bZ _) (bZ _) prog w A R _ ⟨hl,hb,h⟩)⟩
theorem HB {prog:Program}{w:WW}{A:Around}{E:Value→Shared→Prop}{Q:Value→Shared→Prop}{s:Shared}{a b:Nat}{p q:LN}{τ bG:NT}{n n2:Nat}(ha:s.heap.get? a=some (ab (ag (p.map ao) τ) n))(hb:s.heap.get? b=some (ab (ag (q.map ao) bG) n2))(hu:A.units<cLine)
  (h:Q (.bool (dC q p)) s):wpAny (model prog w) A (richCompare .Gt (.ref a) (.ref b)) Q E s:=
 richCompare_meets_room (op:=.Gt) ⟨_,ha,rfl⟩ ⟨_,hb,rfl⟩ F.slot_list_gt F.entry_list_gt (F.args_list_gt_2 _ _) (Al a b p q τ bG n n2) ⟨ha,hb,(show Value.bool (dC q p)≠Value.notImplemented∧Q (.bool (dC q p)) s from⟨(fun x=>nomatch x),h⟩)⟩ hu
theorem xr {prog:Program}{w:WW}{aa:Heap}(it l best a b:Nat)(p q:LN)(τ bG:NT)(e e2 n n2:Nat)
  (hN:∀ mK,d3 prog w aa 1 (.builtin "max.loop" ⟨[.ref it,.none,.ref best],[]⟩) [(it,aq l 2),(l,ab [.ref a,.ref b] e),(best,ab [.ref (if(dC p q) then b else a),.ref (if(dC p q) then b else a)] mK)] (fun r L=>r=.ok (.ret (.ref (if(dC p q) then b else a)))∧L=[(l,ab [.ref a,.ref b] e)])):
  d3 prog w aa 1 (.builtin "max.loop" ⟨[.ref it,.none,.ref best],[]⟩) [(it,aq l 1),(l,ab [.ref a,.ref b] e),(best,ab [.ref a,.ref a] e2),(a,ab (ag (p.map ao) τ) n),(b,ab (ag (q.map ao) bG) n2)]
   (fun r L=>r=.ok (.ret (.ref (if(dC p q) then b else a)))∧L=[(l,ab [.ref a,.ref b] e),(a,ab (ag (p.map ao) τ) n),(b,ab (ag (q.map ao) bG) n2)]):=by
 intro A R Fr h g d os tok size hA hD kk;have qP:(toString "max"++toString ".loop":String)="max.loop":=by decide
 have hS:h.get? best=some (ab [.ref a,.ref a] e2):=hD.get (.tail _ (.tail _ (.head _))) (fun _=>rfl);refine dw F.entry_max_loop ?_;rw[Around.under_plainId F.plain_max_loop _];show wpAny _ A.in1 (seqItems? (.ref best)>>=_) _ _ _;refine aw (wpAny_seqItems hS rfl ?_);show wpAny _ A.in1 (tryCatch (pyNext (.ref it)) _>>=_) _ _ _;refine aw (wpAny_tryCatch (kq (Z:=[(best,ab [.ref a,.ref a] e2),(a,ab (ag (p.map ao) τ) n),(b,ab (ag (q.map ao) bG) n2)]++Fr) (x:=.ref b) hD rfl fun h1 D1=>?_));have KY:h1.get? a=some (ab (ag (p.map ao) τ) n):=D1.get (.tail _ (.tail _ (.tail _ (.head _)))) (fun _=>rfl);have HA:h1.get? b=some (ab (ag (q.map ao) bG) n2):=D1.get (.tail _ (.tail _ (.tail _ (.tail _ (.head _))))) (fun _=>rfl);have KZ:h1.get? best=some (ab [.ref a,.ref a] e2):=D1.get (.tail _ (.tail _ (.head _))) (fun _=>rfl);show wpAny _ A.in1 (tryCatch (holding [.ref b,.ref b] (richCompare .Gt (.ref b) (.ref a)>>=_)) _>>=_) _ _ _;refine aw (wpAny_tryCatch (wpAny_holding (aw (HB HA KY ?_ ?_))))
 ·have:=hA.un
  show A.units+1<cLine;omega
 refine aw (wpAny_holding (wpAny_truthy_bool ?_));refine aw (wpAny_letGo (aG ?_));by_cases hb:dC p q=true
 ·simp only[hb,if_true] at hN kk ⊢
  refine aw ?_;refine wpAny_updateSeq KZ rfl (aw (wpAny_letGo ?_));rw[qP];have rm:Rp aa h1 ((best,ab [.ref a,.ref a] e2)::[]++((it,aq l 2)::(l,ab [.ref a,.ref b] e)::([(a,ab (ag (p.map ao) τ) n),(b,ab (ag (q.map ao) bG) n2)]++Fr))) size:=D1.perm (by
   show List.Perm ((it,aq l 2)::(l,ab [.ref a,.ref b] e)::(best,ab [.ref a,.ref a] e2)::_) _;exact((List.Perm.swap _ _ _).cons _).trans (List.Perm.swap _ _ _))
  have D2:=rm.fC (f:=Obj.mapSeq fun _=>#[.ref b,.ref b]) (o':=ab [.ref b,.ref b] e2) (fun _=>rfl) (by simp[Obj.mapSeq,ab]) rfl;refine aG ⟨plainId_quiet F.plain_max_loop _,hN e2 A R ([(a,ab (ag (p.map ao) τ) n),(b,ab (ag (q.map ao) bG) n2)]++Fr) _ g d os tok size hA ?_ ?_⟩
  ·refine D2.perm ?_
   show List.Perm ((best,ab [.ref b,.ref b] e2)::(it,aq l 2)::(l,ab [.ref a,.ref b] e)::_) ((it,aq l 2)::(l,ab [.ref a,.ref b] e)::(best,ab [.ref b,.ref b] e2)::_);exact(List.Perm.swap _ _ _).trans ((List.Perm.swap _ _ _).cons _)
  ·rintro r L' h3 g3 t3 s3 ⟨rfl,rfl⟩ G3 D3
   exact kk _ _ h3 g3 t3 s3 ⟨rfl,rfl⟩ G3 D3
 ·have hb:dC p q=false:=by simpa using hb
  simp only[hb,Bool.false_eq_true,if_false] at hN kk ⊢;refine aw (wpAny_letGo ?_);rw[qP];refine aG ⟨plainId_quiet F.plain_max_loop _,hN e2 A R ([(a,ab (ag (p.map ao) τ) n),(b,ab (ag (q.map ao) bG) n2)]++Fr) _ g d os tok size hA D1 ?_⟩;rintro r L' h3 g3 t3 s3 ⟨rfl,rfl⟩ G3 D3;exact kk _ _ h3 g3 t3 s3 ⟨rfl,rfl⟩ G3 D3
def HC (w:WW):Code:=cut w 197 [.ref 5000] [] [.o 2,.o 2,.x]
def oz (w:WW)(fr cd cs:Nat):Env:=Cd (pd (HC w)) fr [cd,cs]
noncomputable def K0 (s:Stmt):List Stmt:=match s with
 |.Try b _ _ _ _=>b
 |_=>[]
def MV (w:WW):List Stmt:=K0 (me (eX 3 (kH (HC w))))
def mL (w:WW)(i:Nat):Stmt:=me (eX i (MV w))
noncomputable def xu (n:Str)(o:Option Str):List (Str×Value):=match o with
 |none=>[]
 |some d=>[(n,.str d 0)]
def xv (w:WW):Code:=l8 w [mL w 2] (oz w 5000 5011 5012) [(5000,ah [(S [112],.ref 5020),(S [115,112,108,105,116,95,112,97,116,104,115],.ref 5001)]),(5011,ai (some (.str (S [46]) 0))),(5012,ai (some (.str (S [47]) 0))),(5001,ab [.ref 5002,.ref 5003] 0),(5002,ab [.str (S [48]) 0] 0),(5003,ab [.str (S [49]) 0] 0)]
 [.o 0,.o 3,.o 3,.i,.o 3,.i,.o 0,.i,.i,.o 2,.i,.o 2,.i,.o 2,.o 2,.o 6,.o 2,.o 2,.o 0,.o 0,.o 0,.o 7,.o 7,.i,.o 7,.i,.o 0,.x]
def jg (w:WW)(it fr cd cs:Nat):Code:=loopAt (oz w fr cd cs) (.ref it) [6] (MV w)
noncomputable def ig (it i:Nat)(old:Value):Obj:=⟨.type "enumerate",none,.fields ⟨[.none,.bool false,.ref it,.int i 0,.none,old]⟩,#[]⟩
def cK (ps sp s1 s2 cm:Nat)(o:Option (Nat×Nat)):List (Str×Value):=[(S [112,97,116,104,115],.ref ps),(S [115,112,108,105,116,95,112,97,116,104,115],.ref sp),(S [105,115,97,98,115],.bool false),(S [115,49],.ref s1),(S [115,50],.ref s2),(S [99,111,109,109,111,110],.ref cm)]++
 match o with
 |none=>[]
 |some (i,d)=>[(S [105],.int i 0),(S [99],.str (S [d+48]) 0)]
noncomputable def dQ (s:Stmt):Expr:=match s with
 |.For t _ _ _ _=>t
 |_=>default
noncomputable def lJ (s:Stmt):List Stmt:=match s with
 |.For _ _ b _ _=>b
 |_=>[]
noncomputable def HD (e:Expr):List Expr:=match e with
 |.Tuple l _ _=>l
 |_=>[]
noncomputable def HE (e:Expr):Nat:=match e with
 |.Tuple _ x _=>x
 |_=>0
noncomputable def tupP (e:Expr):Pos:=match e with
 |.Tuple _ _ p=>p
 |_=>default
def Am:Expr→Env→Value→Sem Unit:=PySem.W.ZFast.zw17772580674575903948
theorem td:Am=assign:=by
 unfold Am;rw[←PySem.W.ZFast.ze17772580674575903948]
def ux (iN:Expr)(v:Value)(body:List Stmt)(env:Env):Sem Fin:=PySem.W.R.bindR (Am iN env v) fun _=>toF (bu body env)
theorem An (iN:Expr)(v:Value)(body:List Stmt)(env:Env):ux iN v body env=(assign iN env v).bind fun _=>(execs body env).bind fun f=> .pure (.done f):=by
 unfold ux;rw[←PySem.W.R.bindR_eq,td];congr 1;funext _;unfold toF;rw[←PySem.W.R.bindR_eq,kb]
theorem r7 {M:Model}{A:Around}{α:Type}{t:Sem α}{u:Sem Flow}{K:Flow→Sem Fin}{Q' Q:Fin→Shared→Prop}{E:Value→Shared→Prop}{s:Shared}(h:wpAny M A (t.bind fun _=>u.bind fun f=> .pure (.done f)) Q' E s)(hK:∀ f s,Q' (.done f) s→wpAny M A (K f) Q E s):
  wpAny M A (t>>=fun _=>u>>=K) Q E s:=by
 intro Γ p iX;have z:=h Γ p iX;rw[Sem.wp_bind] at z;show Sem.wp M Γ (t.bind fun _=>u.bind K) _ _ _ _;rw[Sem.wp_bind];refine Sem.wp_mono _ Γ _ (fun a p' s' h'=>?_) (fun _ _ _ h'=>h') _ _ z;rw[Sem.wp_bind] at h' ⊢;refine Sem.wp_mono _ Γ _ (fun f p2 s2 h2=>?_) (fun _ _ _ h'=>h') _ _ h';exact hK f s2 h2 Γ p2 iX
noncomputable def nD (f0 f1:Value)(it:Nat)(i:Int)(old:Value):Obj:=⟨.type "enumerate",none,.fields ⟨[f0,f1,.ref it,.int i 0,.none,old]⟩,#[]⟩
noncomputable def iO (vs:LV):Obj:=⟨.type "tuple",none,.seq ⟨vs⟩ 0,#[]⟩
theorem iP {prog:Program}{w:WW}{aa:Heap}{lv:Nat}{fr:OE}{elts:List Expr}{x1:Nat}{pos:Pos}{body orelse:List Stmt}{env:Env}{P:Result→Ow→Prop}{e it l i le:Nat}{old x:Value}{vs:LV}{Z:Ow}(hx:vs[i]?=some x)
  (hT:∀ tp tk,aM prog w aa lv fr (ux (.Tuple elts x1 pos) (.ref tp) body env) ((tp,iO [.int i tk,x])::(e,ig it (i+1) x)::(it,aq l (i+1))::(l,ab vs le)::Z)
   (fun fin L=>∃ f,fin=.done f∧match f with|.next=>aJ prog w aa lv fr (.forLoop (.Tuple elts x1 pos) (.ref e) body orelse env) L P|.cont=>aJ prog w aa lv fr (.forLoop (.Tuple elts x1 pos) (.ref e) body orelse env) L P|.brk=>P (.ok .next) L|.ret v=>P (.ok (.ret v)) L)):
  aJ prog w aa lv fr (.forLoop (.Tuple elts x1 pos) (.ref e) body orelse env) ((e,ig it i old)::(it,aq l i)::(l,ab vs le)::Z) P:=by
 intro A R Fr h g d os tok size hA hf hD kk;refine codeAny_of_tree ?_;show wpAny _ A ((forTurn (.Tuple elts x1 pos) (.ref e) body orelse env).onRaise (fun x=>do noteFrame x env;theTreesLotGoes x)) _ _ _;refine wpAny_noted ?_;simp only[forTurn];refine aw (wpAny_standAt (aw (wpAny_onRaise ?_)));have ho:h.get? e=some (ig it i old):=hD.get (.head _) (fun _=>rfl);have Jc:h.get? it=some (aq l i):=hD.get (.tail _ (.head _)) (fun _=>rfl);have Hy:h.get? l=some (ab vs le):=hD.get (.tail _ (.tail _ (.head _))) (fun _=>rfl);have MW:Shared.TypeIs ⟨h,g,d,tok,os⟩ (.ref e) "enumerate":=⟨_,ho,rfl⟩;have hit:h.IsListIter it l i:=⟨_,Jc,rfl,rfl⟩;unfold pyNext;refine aw (wpAny_attempt (wpAny_callSpecial?_slot (name:=Str.ofString "__next__") MW F.slot_enumerate_next
  (wpAny_call_entry F.slot_enumerate_next MW F.entry_enumerate_next ?_ (F.args_enumerate_next_1 _))))
 show wpAny _ _ (field (.ref e) 2>>=_) _ _ _;refine aw (wpAny_field ho rfl (x:=.ref it) rfl ?_);unfold Builtin.SmallTypes.nextOf;refine aw (aw (wpAny_callSpecial?_slot (name:=Str.ofString "__next__") (s:=⟨h,g,d,tok,os⟩) hit.typeIs slot_listiter_next
  (wpAny_call_entry slot_listiter_next hit.typeIs entry_listiter_next ?_ (args_listiter_next _))))
 show wpAny _ _ (field (.ref it) 0>>=_) _ _ _;refine aw (wpAny_field Jc rfl (x:=.ref l) rfl ?_);show wpAny _ _ (if(Value.ref l==Value.none)=true then _ else _) _ _ _;rw[if_neg (show ¬ ((Value.ref l==Value.none)=true) from Bool.false_ne_true)];show wpAny _ _ (field (.ref it) 1>>=_) _ _ _;refine aw (wpAny_field Jc rfl (x:=.int i 0) rfl ?_);show wpAny _ _ (seqItems? (.ref l)>>=_) _ _ _;refine aw (wpAny_seqItems Hy rfl ?_);have jJ:(⟨vs⟩:Array Value)[(i:Int).toNat]?=some x:=by simpa using hx
 simp only[jJ];refine aw (wpAny_setField Jc rfl (by simp) (aG ⟨x,rfl,aG ?_⟩));have Dp:Rp aa h ((it,aq l i)::[]++((e,nD .none (.bool false) it i old)::(l,ab vs le)::(Z++Fr))) size:=hD.perm (List.Perm.swap _ _ _);have D1:=Dp.fC (f:=Obj.mapFields (·.setIfInBounds 1 (rawInt (i+1)))) (o':=aq l (i+1)) (fun _=>rfl) (by simp[Obj.mapFields,aq,rawInt]) rfl;have D1:Rp aa _ ((e,nD .none (.bool false) it i old)::[]++((it,aq l (i+1))::(l,ab vs le)::(Z++Fr))) size:=D1.perm (List.Perm.swap _ _ _);generalize h.update it _=h1 at D1;have o1:h1.get? e=some (nD .none (.bool false) it i old):=D1.get (.head _) (fun _=>rfl);show wpAny _ _ (field (.ref e) 3>>=_) _ _ _;refine aw (wpAny_field o1 rfl (x:=.int i 0) rfl ?_);show wpAny _ _ (field (.ref e) 4>>=_) _ _ _;refine aw (wpAny_field o1 rfl (x:=.none) rfl ?_);show wpAny _ _ (mkInt i>>=_) _ _ _;refine aw (wpAny_mkInt ?_);show wpAny _ _ (setField (.ref e) 3 (rawInt ((i:Int)+1))>>=_) _ _ _;refine aw (wpAny_setField o1 rfl (by simp) ?_);have D2:=D1.fC (f:=Obj.mapFields (·.setIfInBounds 3 (rawInt ((i:Int)+1)))) (o':=nD .none (.bool false) it (i+1) old) (fun _=>rfl) (by simp[Obj.mapFields,nD,rawInt]) rfl;generalize h1.update e _=h2 at D2;have o2:h2.get? e=some (nD .none (.bool false) it (i+1) old):=D2.get (.head _) (fun _=>rfl);show wpAny _ _ (setField (.ref e) 4 .none>>=_) _ _ _;refine aw (wpAny_setField o2 rfl (by simp) ?_);have D3:=D2.fC (f:=Obj.mapFields (·.setIfInBounds 4 .none)) (o':=nD .none (.bool false) it (i+1) old) (fun _=>rfl) (by simp[Obj.mapFields,nD]) rfl;generalize h2.update e _=h3 at D3;show wpAny _ _ (newTuple [.int i tok,x]>>=_) _ _ _;refine aw (wpAny_newTuple ?_);have es:h3.objs.size=size:=D3.sz;have D4:=D3.alloc (o:=iO [.int i tok,x]) rfl;have D4:Rp aa (h3.push (iO [.int i tok,x])) ((e,nD .none (.bool false) it (i+1) old)::[]++((size,iO [.int i tok,x])::(it,aq l (i+1))::(l,ab vs le)::(Z++Fr))) (size+1):=D4.perm (List.Perm.swap _ _ _);rw[es];show wpAny _ _ (Builtin.SmallTypes.ownedTupleIsFree (.ref e)>>=_) _ _ ⟨h3.push (iO [.int i tok,x]),g,d,tok+1,os⟩;generalize h3.push (iO [.int i tok,x])=h4 at D4;have o4:h4.get? e=some (nD .none (.bool false) it (i+1) old):=D4.get (.head _) (fun _=>rfl);refine aw ?_;unfold Builtin.SmallTypes.ownedTupleIsFree;refine aw (wpAny_field o4 rfl (x:=.none) rfl (aG ?_));simp only[if_true];refine aw (wpAny_rule ?_);refine aw (wpAny_field o4 rfl (x:=old) rfl ?_);refine aw (wpAny_setField o4 rfl (by simp) ?_);have D5:=D4.fC (f:=Obj.mapFields (·.setIfInBounds 5 x)) (o':=nD .none (.bool false) it (i+1) x) (fun _=>rfl) (by simp[Obj.mapFields,nD]) rfl;generalize h4.update e _=h5 at D5;have o5:h5.get? e=some (nD .none (.bool false) it (i+1) x):=D5.get (.head _) (fun _=>rfl);show wpAny _ _ (Builtin.SmallTypes.ownedTupleHandOut (.ref e) (.ref size)>>=_) _ _ _;refine aw ?_;unfold Builtin.SmallTypes.ownedTupleHandOut;refine aw (wpAny_setField o5 rfl (by simp) ?_);have D6:=D5.fC (f:=Obj.mapFields (·.setIfInBounds 0 (rawInt size))) (o':=nD (rawInt size) (.bool false) it (i+1) x) (fun _=>rfl) (by simp[Obj.mapFields,nD]) rfl;generalize h5.update e _=h6 at D6;have o6:h6.get? e=some (nD (rawInt size) (.bool false) it (i+1) x):=D6.get (.head _) (fun _=>rfl);refine wpAny_setField o6 rfl (by simp) ?_;have D7:=D6.fC (f:=Obj.mapFields (·.setIfInBounds 1 (.bool false))) (o':=nD (rawInt size) (.bool false) it (i+1) x) (fun _=>rfl) (by simp[Obj.mapFields,nD]) rfl;generalize h6.update e _=h7 at D7;have o7:h7.get? e=some (nD (rawInt size) (.bool false) it (i+1) x):=D7.get (.head _) (fun _=>rfl);refine aw (wpAny_letGo (aG ⟨_,rfl,aG ?_⟩));show wpAny _ _ (letOwnedTupleGo (.Tuple elts x1 pos) (.ref e) (.ref size)>>=_) _ _ _;refine aw ?_;unfold letOwnedTupleGo;refine aw (wpAny_load o7 ?_);show wpAny _ A (if(["enumerate","zip","dict_itemiterator","dict_reverseitemiterator","odict_iterator","itertools.zip_longest","itertools.pairwise"].contains "enumerate"&&
   (#[rawInt size,.bool false,.ref it,.int ((i:Int)+1) 0,.none,x]:Array Value)[0]?==some (rawInt size))=true then _ else _) _ _ _
 rw[if_pos (by simp)];refine aw (wpAny_rule ?_);show wpAny _ A (setField (.ref e) 0 .none) _ _ _;refine wpAny_setField o7 rfl (by simp) ?_;have D8:=D7.fC (f:=Obj.mapFields (·.setIfInBounds 0 .none)) (o':=nD .none (.bool false) it (i+1) x) (fun _=>rfl) (by simp[Obj.mapFields,nD]) rfl;generalize h7.update e _=h8 at D8;have D9:Rp aa h8 ((size,iO [.int i tok,x])::(e,ig it (i+1) x)::(it,aq l (i+1))::(l,ab vs le)::Z++Fr) (size+1):=D8.perm (List.Perm.swap _ _ _);refine r7 (Q':=fun fin s=>∃ f L' h' g' t sz,fin=.done f∧s=⟨h',g',d,t,os⟩∧(match f with|.next=>aJ prog w aa lv fr (.forLoop (.Tuple elts x1 pos) (.ref e) body orelse env) L' P|.cont=>aJ prog w aa lv fr (.forLoop (.Tuple elts x1 pos) (.ref e) body orelse env) L' P|.brk=>P (.ok .next) L'|.ret v=>P (.ok (.ret v)) L')∧bh g g'∧Rp aa h' (L'++Fr) sz) ?_ ?_
 ·rw[←An]
  exact hT size tok A _ _ Fr h8 g d os (tok+1) (size+1) hA hf D9 fun fin L' h' g' t sz hP G D=>by
   obtain⟨f,rfl,hf⟩:=hP;exact⟨f,L',h',g',t,sz,rfl,rfl,hf,G,D⟩
 ·rintro f s ⟨f',L',h',g',t,sz,Ov,rfl,hP,G,D⟩
  cases Ov;cases f with
  |next=>exact aG ⟨rfl,hP A R Fr h' g' d os t sz hA hf D fun r L3 h3 g3 t3 s3 p3 G3 D3=>kk r L3 h3 g3 t3 s3 p3 (G.trans G3) D3⟩
  |cont=>exact aG ⟨rfl,hP A R Fr h' g' d os t sz hA hf D fun r L3 h3 g3 t3 s3 p3 G3 D3=>kk r L3 h3 g3 t3 s3 p3 (G.trans G3) D3⟩
  |brk=>exact aG (kk _ _ _ _ _ _ hP G D)
  |ret v=>exact aG (kk _ _ _ _ _ _ hP G D)
def xw (w:WW):Expr:=.Tuple (HD (dQ (mL w 6))) (HE (dQ (mL w 6))) (tupP (dQ (mL w 6)))
theorem mM (w0:WW)(it fr cd cs:Nat):jg (wt w0) it fr cd cs=.forLoop (.Tuple (HD (dQ (mL (wt w0) 6))) (HE (dQ (mL (wt w0) 6))) (tupP (dQ (mL (wt w0) 6)))) (.ref it) (lJ (mL (wt w0) 6)) [] (oz (wt w0) fr cd cs):=by kernel_rfl
def K1 (w0:WW)(ps sp i:Nat)(o:Option (Nat×Nat))(tk:Tok)(d:Nat)(t0:Tok)(lw:LV)(we d2:Nat)(t2:Tok)(a:N2):SX (Sem Fin) Result:=⟨ux (xw (wt w0)) (.ref (a 1)) (lJ (mL (wt w0) 6)) (oz (wt w0) (a 0) (a 3) (a 4)),[(a 0,ah (cK ps sp (a 5) (a 2) (a 5) o))],[(a 1,iO [.int i tk,.str (S [d+48]) t0]),(a 2,ab lw we)],fun b f=> .ok .next,fun b f=>[(a 0,ah (cK ps sp (a 5) (a 2) (a 5) (some (i,d))))],fun b f=>[(a 2,ab lw we)]⟩
section
variable (b1 b2:Bool){w:WW}{aa:Heap}(B:BB w aa b1 b2)
include B
theorem Ox (w0:WW)(ps sp i:Nat)(o:Option (Nat×Nat))(tk:Tok)(d:Nat)(t0:Tok)(lw:LV)(we d2:Nat)(t2:Tok)(a:N2)(hi:i<1000)(hy:lw[i]?=some (.str (S [d2+48]) t2)) (hd:(!([d+48]==[d2+48]))=false) {frx:OE}:hH pw (wd w b1 b2) aa 2 frx true (K1 w0 ps sp i o tk d t0 lw we d2 t2 a):=
 gJ B aO.none (ol 0x222b2b11b1b113111b1b113111b1b1131114444444666 (.u [5] (aY lw i (.str (S [d2+48]) t2) hi hy)::(.u [] (iM (S [d+48]) (S [d2+48]) false hd)::[]))) z2 z3 [4,0] 4 1 (fun _ _ _ h=>nomatch h) fun x X Fr=>by revert b1 b2 o;exact d4 (by kernel_rfl)
def K2 (w0:WW)(ps sp i:Nat)(o:Option (Nat×Nat))(tk:Tok)(d:Nat)(t0:Tok)(lv lw ls:LV)(le we d2:Nat)(t2:Tok)(a:N2):SX (Sem Fin) Result:=⟨ux (xw (wt w0)) (.ref (a 1)) (lJ (mL (wt w0) 6)) (oz (wt w0) (a 0) (a 4) (a 5)),[(a 0,ah (cK ps sp (a 2) (a 3) (a 2) o))],[(a 1,iO [.int i tk,.str (S [d+48]) t0]),(a 2,ab lv le),(a 3,ab lw we)],fun b f=> .ok .brk,fun b f=>[(a 0,ah (cK ps sp (a 2) (a 3) (b 1) (some (i,d))))],fun b f=>[(b 1,ab ls 0),(a 2,ab lv le),(a 3,ab lw we)]⟩
theorem Oy (w0:WW)(ps sp i:Nat)(o:Option (Nat×Nat))(tk:Tok)(d:Nat)(t0:Tok)(lv lw ls:LV)(le we d2:Nat)(t2:Tok)(a:N2)(hi:i<1000)(hy:lw[i]?=some (.str (S [d2+48]) t2)) (hd:(!([d+48]==[d2+48]))=true) (hw:(slicePick ⟨lv⟩ none (some i) none).toList=ls) (hb:lv.length≤1000) {frx:OE}:hH pw (wd w b1 b2) aa 2 frx true (K2 w0 ps sp i o tk d t0 lv lw ls le we d2 t2 a):=
 gJ B aO.none (ol 0x222b2b11b1b113111b1b113111b1b1131114444444777 (.u [6] (aY lw i (.str (S [d2+48]) t2) hi hy)::(.u [] (iM (S [d+48]) (S [d2+48]) true hd)::(ol 0x55888 (.u [0,6] (gj lv ls none (some i) none (by decide) hw hb)::(ol 0x77 [])))))) z2 z3 [6,0,0,0] 4 1 (fun _ _ _ h=>nomatch h) fun x X Fr=>by revert b1 b2 o;exact d4 (by kernel_rfl)
def K3 (w0:WW)(ps sp i le:Nat)(lv:LV)(o:Option (Nat×Nat))(old:Value)(a:N2):SX Code Result:=sB (jg (wt w0) (a 1) (a 0) (a 4) (a 5)) [(a 0,ah (cK ps sp (a 3) (a 6) (a 3) o))] [(a 1,ig (a 2) i old),(a 2,aq (a 3) i),(a 3,ab lv le)] (fun b f=> .ok .next) (fun b f=>[(a 3,ab lv le)])
theorem MX (w0:WW)(ps sp i le:Nat)(lv:LV)(o:Option (Nat×Nat))(old:Value)(a:N2)(hx:lv[i]?=none) {frx:OE}:eP w aa b1 b2 2 frx true true (K3 w0 ps sp i le lv o old a):=
 tX B aO.none (ol 0x2b2b23b3 (.u [2,2] (bA lv i hx)::(ol 0x1b []))) z2 z3 [3,2] 3 1 fun t x X Fr=>by revert b1 b2 o;exact d4 (by kernel_rfl)
def K4 (w0:WW)(ps sp i:Nat)(o:Option (Nat×Nat))(tk:Tok)(d:Nat)(t0:Tok)(lv:LV)(le:Nat)(a:N2):SX (Sem Fin) Result:=⟨ux (xw (wt w0)) (.ref (a 1)) (lJ (mL (wt w0) 6)) (oz (wt w0) (a 0) (a 3) (a 4)),[(a 0,ah (cK ps sp (a 2) (a 2) (a 2) o))],[(a 1,iO [.int i tk,.str (S [d+48]) t0]),(a 2,ab lv le)],fun b f=> .ok .next,fun b f=>[(a 0,ah (cK ps sp (a 2) (a 2) (a 2) (some (i,d))))],fun b f=>[(a 2,ab lv le)]⟩
theorem Oz (w0:WW)(ps sp i:Nat)(o:Option (Nat×Nat))(tk:Tok)(d:Nat)(t0:Tok)(lv:LV)(le:Nat)(a:N2)(hi:i<1000)(hx:lv[i]?=some (.str (S [d+48]) t0)) (hd:(!([d+48]==[d+48]))=false) {frx:OE}:hH pw (wd w b1 b2) aa 2 frx true (K4 w0 ps sp i o tk d t0 lv le a):=
 gJ B aO.none (ol 0x222b2b11b1b113111b1b113111b1b1131114444444666 (.u [5] (aY lv i (.str (S [d+48]) t0) hi hx)::(.u [] (iM (S [d+48]) (S [d+48]) false hd)::[]))) z2 z3 [4,0] 4 1 (fun _ _ _ h=>nomatch h) fun x X Fr=>by revert b1 b2 o;exact d4 (by kernel_rfl)
def Dh (w0:WW)(e e2:Nat)(xs:LV)(tc:Tok)(a:N2):SX Code Code:=sC ((atC (xv (wt w0)) (a 1) (a 2) (a 0) (a 5) [(a 4)])) [(a 0,ak [])] [(a 1,aq (a 3) 0),(a 2,ab [] e2),(a 3,ab xs e),(a 4,ai (some (.str (S [46]) tc)))] (fun b f=>cV (atC (xv (wt w0)) (a 1) (a 2) (a 0) (a 5) [(a 4)]))
theorem OA (w0:WW)(e e2:Nat)(xs:LV)(tc:Tok)(a:N2):eR w aa b1 b2 2 true (Dh w0 e e2 xs tc a):=
 eO B (ol (cond b2 0xd 0x22b2b2d) []) z2 z3 [0,0,0,0,0] 0 1
def K5 (w0:WW)(e e2:Nat)(xs:LV)(tc:Tok)(i:Nat)(vs:LV)(o:Option (Str))(d:Nat)(t0:Tok)(a:N2):SX Code Code:=⟨cV (atC (xv (wt w0)) (a 1) (a 2) (a 0) (a 5) [(a 4)]),[(a 0,ak (xu (S [99]) o))],[(a 1,aq (a 3) i),(a 2,ab vs e2),(a 3,ab xs e),(a 4,ai (some (.str (S [46]) tc)))],fun b f=>cV (atC (xv (wt w0)) (a 1) (a 2) (a 0) (a 5) [(a 4)]),fun b f=>[(a 0,ak (xu (S [99]) (some (S [d+48]))))],fun b f=>[(a 1,aq (a 3) (i+1)),(a 2,ab (vs++[.str (S [d+48]) t0]) (e2+1)),(a 3,ab xs e),(a 4,ai (some (.str (S [46]) tc)))]⟩
theorem OB (w0:WW)(e e2:Nat)(xs:LV)(tc:Tok)(i:Nat)(vs:LV)(o:Option (Str))(d:Nat)(t0:Tok)(a:N2)(hx:xs[i]?=some (.str (S [d+48]) t0)) (hd:(!([d+48]==[46]))=true) (hb:vs.length≤1000):eR w aa b1 b2 2 true (K5 w0 e e2 xs tc i vs o d t0 a):=
 eO B (ol 0x2b2 (.u [1,2] (bQ xs i (.str (S [d+48]) t0) hx)::(ol 0x333bbb35 (.u [] (iM (S [d+48]) (S [46]) true hd)::(ol 0x3b4 (.u [3] (bD vs hb)::(ol 0xd []))))))) z2 z3 [3,1,0,0,0] 0 1 fun t x X Fr=>by revert b1 b2 o;exact d4 (by kernel_rfl)
def K6 (w0:WW)(e e2:Nat)(xs:LV)(tc:Tok)(i:Nat)(vs:LV)(o:Option (Str))(a:N2):SX Code Result:=sB (cV (atC (xv (wt w0)) (a 1) (a 2) (a 0) (a 5) [(a 4)])) [(a 0,ak (xu (S [99]) o))] [(a 1,aq (a 3) i),(a 2,ab vs e2),(a 3,ab xs e),(a 4,ai (some (.str (S [46]) tc)))] (fun b f=> .ok .next) (fun b f=>[(a 2,ab vs e2),(a 3,ab xs e),(a 4,ai (some (.str (S [46]) tc)))])
theorem OC (w0:WW)(e e2:Nat)(xs:LV)(tc:Tok)(i:Nat)(vs:LV)(o:Option (Str))(a:N2)(hx:xs[i]?=none) {frx:OE}:eP w aa b1 b2 2 frx true true (K6 w0 e e2 xs tc i vs o a):=
 tX B aO.none (ol 0x2b2 (.u [1,2] (bA xs i hx)::(ol 0x1 []))) z2 z3 [3,3,2,2] 2 1 fun t x X Fr=>by revert b1 b2 o;exact d4 (by kernel_rfl)
def Ao (o:ON):Option Str:=match o with
 |none=>none
 |some d=>some (S [d+48])
theorem Di (w0:WW)(a:N2)(ds:LN)(cJ:∀ d∈ds,d<5)(τ:NT)(e e2:Nat)(tc:Tok)(hlen:ds.length≤100){fr:OE}{lv:Nat}(eh:2≤lv)(x:Nat→Tk):
  gh w aa b1 b2 lv fr ((Dh w0 e e2 (ag (ds.map ao) τ) tc a).c) (rt [(a 0,ak [])] x++[(a 1,aq (a 3) 0),(a 2,ab [] e2),(a 3,ab (ag (ds.map ao) τ) e),(a 4,ai (some (.str (S [46]) tc)))])
   (fun r L=>∃ τ2 aQ z L1,z.isSome=!ds.isEmpty∧r=.ok .next∧nL L1=[(a 0,ak (xu (S [99]) (Ao z)))]∧L=L1++[(a 2,ab (ag (ds.map ao) τ2) aQ),(a 3,ab (ag (ds.map ao) τ) e),(a 4,ai (some (.str (S [46]) tc)))]):=by
 refine(OA b1 b2 B w0 e e2 (ag (ds.map ao) τ) tc a).z eh (fun b f x'=>?_) (fun _=>0) x;refine bw ds.length (fun i L=>∃ (o:ON)(x:Nat→Tk)(τ2:NT)(aQ:Nat),o.isSome=decide (0<i)∧L=rt [(a 0,ak (xu (S [99]) (Ao o)))] x++[(a 1,aq (a 3) i),(a 2,ab (ag ((ds.take i).map ao) τ2) aQ),(a 3,ab (ag (ds.map ao) τ) e),(a 4,ai (some (.str (S [46]) tc)))]) ?_ ?_ (bZ _) ⟨none,x',fun _=>0,e2,rfl,rfl⟩
 ·rintro i L hi ⟨o,x,τ2,aQ,ho,rfl⟩ ih
  have hx:(ag (ds.map ao) τ)[i]?=some (.str (S [ds[i]+48]) (τ i)):=eA _ _ _ _ (by rw[List.getElem?_map,cy hi];rfl)
  have hb:(ag ((ds.take i).map ao) τ2).length≤1000:=by rw[aI,bU,dR];omega
  have hd:(!([ds[i]+48]==[46]))=true:=by simp
  refine(OB b1 b2 B w0 e aQ (ag (ds.map ao) τ) tc i _ (Ao o) ds[i] (τ i) a hx hd hb).z eh (fun b f cG=>ih _ ⟨some ds[i],cG,bW ((ds.take i).map ao).length τ2 (τ i),aQ+1,by simp,?_⟩) (fun _=>0) x;rw[dv hi,List.map_append];show _=rt _ _++[_,(a 2,ab (ag ((ds.take i).map ao++[ao ds[i]]) _) _),_,_];rw[←dJ];rfl
 ·rintro L ⟨o,x,τ2,aQ,ho,rfl⟩
  rw[fT lr];refine(OC b1 b2 B w0 e aQ (ag (ds.map ao) τ) tc ds.length _ (Ao o) a (fG _ _ _ (eU (by simp))) (fun _=>0) x).mono eh fun r L hP=>?_;obtain⟨b,f,L1,hL,hr,hn⟩:=hP;exact⟨τ2,aQ,o,L1,by rw[ho];exact df _,hr,hn,hL⟩
end
section
variable {b1 b2:Bool}{w:WW}{aa:Heap}
def Jd (rs:Ow)(i:Nat):Tok:=match sy i rs with
 |some p=>match p.2.data with
  |.cell v=>match v with
   |some v=>cD v
   |none=>0
  |_=>0
 |none=>0
def gH (B:BB w aa b1 b2)(w0:WW)(ds:LN)(bq:ds≠[])(cJ:∀ x∈ds,x<5)(τ:NT)(hlen:ds.length≤100):gw w aa b1 b2:=
 dk 2 true true 1 none (fun cc rr=>(Dh w0 (aH rr 3) (aH rr 2) (ag (ds.map ao) τ) (Jd rr 4) (ef 5 [j6 cc] rr)).c) (fun _ rr=>[(adr rr 0,ak [])])
  (fun _ rr=>[(adr rr 1,aq (adr rr 3) 0),(adr rr 2,ab [] (aH rr 2)),(adr rr 3,ab (ag (ds.map ao) τ) (aH rr 3)),(adr rr 4,ai (some (.str (S [46]) (Jd rr 4))))]) (fun _ _ _ _=> .ok .next) (fun _ rr b _=>[(adr rr 0,ak [(S [99],.str (S [b 1+48]) 0)])])
  (fun _ rr b f=>[(adr rr 2,ab (ag (ds.map ao) (f 0)) (b 0)),(adr rr 3,ab (ag (ds.map ao) τ) (aH rr 3)),(adr rr 4,ai (some (.str (S [46]) (Jd rr 4))))])
  fun cc rr t x=>(Di b1 b2 B w0 (ef 5 [j6 cc] rr) ds cJ τ (aH rr 3) (aH rr 2) (Jd rr 4) hlen lr x).mono lr fun r L hP=>by
   obtain⟨τ2,aQ,z,L1,hz,rfl,hn,rfl⟩:=hP;cases z with
   |none=>cases ds with|nil=>exact absurd rfl bq|cons _ _=>cases hz
   |some z=>exact⟨fun i=>match i with|0=>aQ|_=>z,fun _=>τ2,L1,rfl,rfl,hn⟩
end
def HF (x y e v e2:Nat)(a:N2):SX Code Result:=sB (.builtin "min.loop" ⟨[.ref (a 0),.none,.ref (a 2)],[]⟩) [] [(a 0,aq (a 1) 2),(a 1,ab [.ref x,.ref y] e),(a 2,ab [.ref v,.ref v] e2)] (fun b f=> .ok (.ret (.ref v))) (fun b f=>[(a 1,ab [.ref x,.ref y] e)])
section
variable (b1 b2:Bool){w:WW}{aa:Heap}(B:BB w aa b1 b2)
include B
theorem K7 (x y e v e2:Nat)(a:N2){frx:OE}:eP w aa b1 b2 1 frx true true (HF x y e v e2 a):=
 tX B aO.none (ol 0x31b1b112111555 []) z2 z3 [3] 4 0
def HG (x y e v e2:Nat)(a:N2):SX Code Result:=sB (.builtin "max.loop" ⟨[.ref (a 0),.none,.ref (a 2)],[]⟩) [] [(a 0,aq (a 1) 2),(a 1,ab [.ref x,.ref y] e),(a 2,ab [.ref v,.ref v] e2)] (fun b f=> .ok (.ret (.ref v))) (fun b f=>[(a 1,ab [.ref x,.ref y] e)])
theorem K8 (x y e v e2:Nat)(a:N2){frx:OE}:eP w aa b1 b2 1 frx true true (HG x y e v e2 a):=
 tX B aO.none (ol 0x31b1b112111555 []) z2 z3 [3] 4 0
end
section
variable {b1 b2:Bool}{w:WW}{aa:Heap}
def jh (B:BB w aa b1 b2)(p q:LN)(τ bG:NT)(v:Bool)(hv:dC q p=v):gw w aa b1 b2:=
 dk 1 true true 0 none (fun _ rr=> .builtin "min.loop" ⟨[.ref (adr rr 0),.none,.ref (adr rr 2)],[]⟩) (fun _ _=>[])
  (fun _ rr=>[(adr rr 0,aq (adr rr 1) 1),(adr rr 1,ab [.ref (adr rr 3),.ref (adr rr 4)] (aH rr 1)),(adr rr 2,ab [.ref (adr rr 3),.ref (adr rr 3)] (aH rr 2)),(adr rr 3,ab (ag (p.map ao) τ) (aH rr 3)),(adr rr 4,ab (ag (q.map ao) bG) (aH rr 4))])
  (fun _ rr _ _=> .ok (.ret (.ref (cond v (adr rr 4) (adr rr 3))))) (fun _ _ _ _=>[])
  (fun _ rr _ _=>[(adr rr 1,ab [.ref (adr rr 3),.ref (adr rr 4)] (aH rr 1)),(adr rr 3,ab (ag (p.map ao) τ) (aH rr 3)),(adr rr 4,ab (ag (q.map ao) bG) (aH rr 4))])
  fun cc rr t x=>(d3.f (xq (adr rr 0) (adr rr 1) (adr rr 2) (adr rr 3) (adr rr 4) p q τ bG (aH rr 1) (aH rr 2) (aH rr 3) (aH rr 4) fun mK=>by
   let a:N2:=ix [adr rr 0,adr rr 1,adr rr 2];have z:=(K7 b1 b2 B (adr rr 3) (adr rr 4) (aH rr 1) (if dC q p=true then adr rr 4 else adr rr 3) mK a (frx:=none) t x).t;exact z.mono lr fun r L hP=>by
    obtain⟨b,f,L1,rfl,hr,hn⟩:=hP;have HI:L1=[]:=by cases L1 with|nil=>rfl|cons _ _=>cases hn
    subst HI;exact⟨hr,rfl⟩)).mono lr fun r L hP=>by
   obtain⟨rfl,rfl⟩:=hP;exact⟨fun _=>0,fun _ _=>0,[],rfl,by subst hv;cases dC q p<;>rfl,rfl⟩
def ji (B:BB w aa b1 b2)(p q:LN)(τ bG:NT)(v:Bool)(hv:dC p q=v):gw w aa b1 b2:=
 dk 1 true true 0 none (fun _ rr=> .builtin "max.loop" ⟨[.ref (adr rr 0),.none,.ref (adr rr 2)],[]⟩) (fun _ _=>[])
  (fun _ rr=>[(adr rr 0,aq (adr rr 1) 1),(adr rr 1,ab [.ref (adr rr 3),.ref (adr rr 4)] (aH rr 1)),(adr rr 2,ab [.ref (adr rr 3),.ref (adr rr 3)] (aH rr 2)),(adr rr 3,ab (ag (p.map ao) τ) (aH rr 3)),(adr rr 4,ab (ag (q.map ao) bG) (aH rr 4))])
  (fun _ rr _ _=> .ok (.ret (.ref (cond v (adr rr 4) (adr rr 3))))) (fun _ _ _ _=>[])
  (fun _ rr _ _=>[(adr rr 1,ab [.ref (adr rr 3),.ref (adr rr 4)] (aH rr 1)),(adr rr 3,ab (ag (p.map ao) τ) (aH rr 3)),(adr rr 4,ab (ag (q.map ao) bG) (aH rr 4))])
  fun cc rr t x=>(d3.f (xr (adr rr 0) (adr rr 1) (adr rr 2) (adr rr 3) (adr rr 4) p q τ bG (aH rr 1) (aH rr 2) (aH rr 3) (aH rr 4) fun mK=>by
   let a:N2:=ix [adr rr 0,adr rr 1,adr rr 2];have z:=(K8 b1 b2 B (adr rr 3) (adr rr 4) (aH rr 1) (if dC p q=true then adr rr 4 else adr rr 3) mK a (frx:=none) t x).t;exact z.mono lr fun r L hP=>by
    obtain⟨b,f,L1,rfl,hr,hn⟩:=hP;have HI:L1=[]:=by cases L1 with|nil=>rfl|cons _ _=>cases hn
    subst HI;exact⟨hr,rfl⟩)).mono lr fun r L hP=>by
   obtain⟨rfl,rfl⟩:=hP;exact⟨fun _=>0,fun _ _=>0,[],rfl,by subst hv;cases dC p q<;>rfl,rfl⟩
end
section
variable {prog:Program}{w:WW}{aa:Heap}
theorem aJ.out {lv:Nat}{fr:OE}{c:Code}{rs:Ow}{P:Result→Ow→Prop}(h:aJ prog w aa lv fr c rs (fun r L=>∃ L' Gb,L.Perm (L'++Gb)∧P r L')):aJ prog w aa lv fr c rs P:=
 fun A R Fr h' g d os tok size hA hf hD kk=>h A R Fr h' g d os tok size hA hf hD fun r L h' g' t s hP G D=>by
  obtain⟨L',Gb,hp,hP⟩:=hP;exact kk r L' h' g' t s hP G ((D.perm (hp.append_right Fr)).sub (by rw[a5];exact(List.Sublist.refl L').append (List.sublist_append_right Gb Fr)))
theorem qQ (vs:LV)(i:Nat):(slicePick ⟨vs⟩ none (some (i:Int)) none).toList=vs.take i:=by
 have h1:sliceBounds none (some (i:Int)) none (⟨vs⟩:Array Value).size=(0,max 0 (min (i:Int) vs.length),1):=by
  have:¬ (i:Int)<0:=by omega
  unfold sliceBounds;simp only[Option.getD_none,this,if_false];rfl
 unfold slicePick;rw[h1];have h2:sliceRange 0 (max 0 (min (i:Int) vs.length)) 1=List.range (min i vs.length):=by
  unfold sliceRange;have hc:(if(0:Int)<max 0 (min (i:Int) vs.length) then(max 0 (min (i:Int) vs.length)-0+1-1) / 1 else 0).toNat=min i vs.length:=by
   split
   ·rw[Int.ediv_one];omega
   ·omega
  simp only[show((1:Int)>0) from by decide,if_true];rw[hc];conv=>rhs;rw[←List.map_id (List.range (min i vs.length))]
  refine List.map_congr_left fun k hk=>?_;show((0:Int)+1*(k:Int)).toNat=k;omega
 show((sliceRange 0 (max 0 (min (i:Int) vs.length)) 1).filterMap ((⟨vs⟩:Array Value)[·]?))=vs.take i
 rw[h2];have e:vs.take i=vs.take (min i vs.length):=by
  rcases Nat.le_total i vs.length with h|h
  ·rw[Nat.min_eq_left h]
  ·rw[Nat.min_eq_right h,fT h,List.take_length]
 rw[e,←oi];exact cg fun k _=>by simp
end
theorem mN (l:List Str)(τ:NT)(k:Nat):(ag l τ).take k=ag (l.take k) τ:=by
 induction l generalizing τ k with
 |nil=>cases k<;>rfl
 |cons s l ih=>
  cases k with
  |zero=>rfl
  |succ k=>show Value.str s (τ 0)::(ag l _).take k=Value.str s (τ 0)::ag (l.take k) _;rw[ih]
section
variable (b1 b2:Bool){w:WW}{aa:Heap}(B:BB w aa b1 b2)
include B
theorem Bx (w0:WW)(fr cd cs e it s1 s2 ps sp:Nat)(l1 l2:LN)(h1:l1.length≤100)(h2:l2.length≤100)(τ1 τ2:NT)(e1 e2:Nat){P:Result→Ow→Prop}(i:Nat)(x:Nat→Tk)(o:Option (Nat×Nat))(old:Value)(hi:i<l1.length)(uv:i<l2.length)(hd:l1[i]=l2[i])
  (hP:∀ x' t,gh w aa b1 b2 2 none (jg (wt w0) e fr cd cs) (rt [(fr,ah (cK ps sp s1 s2 s1 (some (i,l1[i]))))] x'++[(e,ig it (i+1) (.str (S [l1[i]+48]) t)),(it,aq s1 (i+1)),(s1,ab (ag (l1.map ao) τ1) e1),(s2,ab (ag (l2.map ao) τ2) e2)]) P):
  gh w aa b1 b2 2 none (jg (wt w0) e fr cd cs) (rt [(fr,ah (cK ps sp s1 s2 s1 o))] x++[(e,ig it i old),(it,aq s1 i),(s1,ab (ag (l1.map ao) τ1) e1),(s2,ab (ag (l2.map ao) τ2) e2)]) P:=by
 rw[mM] at hP ⊢;refine aJ.perm (iP (e:=e) (it:=it) (l:=s1) (i:=i) (le:=e1) (old:=old) (vs:=ag (l1.map ao) τ1) (Z:=rt [(fr,ah (cK ps sp s1 s2 s1 o))] x++[(s2,ab (ag (l2.map ao) τ2) e2)]) (gq hi) fun tp tk=>?_) ?_
 ·let a:N2:=ix [fr,tp,s2,cd,cs,s1]
  have z:=(Ox b1 b2 B w0 ps sp i o tk l1[i] (τ1 i) (ag (l2.map ao) τ2) e2 l2[i] (τ2 i) a (by omega) (gq uv) (by rw[hd];simp) (frx:=none)).use [(e,ig it (i+1) (.str (ao l1[i]) (τ1 i))),(it,aq s1 (i+1)),(s1,ab (ag (l1.map ao) τ1) e1)] x;refine(aM.perm z ?_).mono lr ?_
  ·show List.Perm ((tp,iO [.int i tk,.str (ao l1[i]) (τ1 i)])::(e,ig it (i+1) (.str (ao l1[i]) (τ1 i)))::(it,aq s1 (i+1))::(s1,ab (ag (l1.map ao) τ1) e1)::(rt [(fr,ah (cK ps sp s1 s2 s1 o))] x++[(s2,ab (ag (l2.map ao) τ2) e2)]))
    (rt [(fr,ah (cK ps sp s1 s2 s1 o))] x++[(tp,iO [.int i tk,.str (S [l1[i]+48]) (τ1 i)]),(s2,ab (ag (l2.map ao) τ2) e2)]++[(e,ig it (i+1) (.str (ao l1[i]) (τ1 i))),(it,aq s1 (i+1)),(s1,ab (ag (l1.map ao) τ1) e1)])
   exact cC fun p=>by simp only[f5,cnt_cons,cnt_nil];show ug p (tp,iO [.int i tk,.str (S [l1[i]+48]) (τ1 i)])+_=_;omega
  ·rintro fin L ⟨r,b,f,x',rfl,hr,rfl⟩
   injection hr with hr
   subst hr;refine⟨.next,rfl,aJ.perm (hP x' (τ1 i)) ?_⟩;show List.Perm (rt [(fr,ah (cK ps sp s1 s2 s1 (some (i,l1[i]))))] x'++[(s2,ab (ag (l2.map ao) τ2) e2)]++[(e,ig it (i+1) (.str (ao l1[i]) (τ1 i))),(it,aq s1 (i+1)),(s1,ab (ag (l1.map ao) τ1) e1)])
    (rt [(fr,ah (cK ps sp s1 s2 s1 (some (i,l1[i]))))] x'++[(e,ig it (i+1) (.str (ao l1[i]) (τ1 i))),(it,aq s1 (i+1)),(s1,ab (ag (l1.map ao) τ1) e1),(s2,ab (ag (l2.map ao) τ2) e2)])
   exact pm [0,2,3,4,1]
 ·exact pm [1,2,3,0,4]
theorem Dj (w0:WW)(fr cd cs e it s1 s2 ps sp:Nat)(l1 l2:LN)(h1:l1.length≤100)(h2:l2.length≤100)(bq:l1≠[])(hp:l1<+:l2)(τ1 τ2:NT)(e1 e2:Nat)(x:Nat→Tk):
  gh w aa b1 b2 2 none (jg (wt w0) e fr cd cs) (rt [(fr,ah (cK ps sp s1 s2 s1 none))] x++[(e,ig it 0 .none),(it,aq s1 0),(s1,ab (ag (l1.map ao) τ1) e1),(s2,ab (ag (l2.map ao) τ2) e2)])
   (fun r L=>∃ x' i d,r=.ok .next∧L=rt [(fr,ah (cK ps sp s1 s2 s1 (some (i,d))))] x'++[(s1,ab (ag (l1.map ao) τ1) e1),(s2,ab (ag (l2.map ao) τ2) e2)]):=by
 refine bw l1.length (fun i L=>∃ o x old,o.isSome=decide (0<i)∧L=(rt [(fr,ah (cK ps sp s1 s2 s1 o))] x++[(e,ig it i old),(it,aq s1 i),(s1,ab (ag (l1.map ao) τ1) e1),(s2,ab (ag (l2.map ao) τ2) e2)])) ?_ ?_ (bZ _) ⟨none,x,.none,rfl,rfl⟩
 ·rintro i L hi ⟨o,x,old,ho,rfl⟩ ih
  have uv:i<l2.length:=Nat.lt_of_lt_of_le hi hp.length_le;exact Bx b1 b2 B w0 fr cd cs e it s1 s2 ps sp l1 l2 h1 h2 τ1 τ2 e1 e2 i x o old hi uv (hp.getElem hi) fun x' t=>ih _ ⟨_,x',_,by simp,rfl⟩
 ·rintro L ⟨o,x,old,ho,rfl⟩
  let a:N2:=ix [fr,e,it,s1,cd,cs,s2];have z:=(MX b1 b2 B w0 ps sp l1.length e1 (ag (l1.map ao) τ1) o old a (ko lr) (frx:=none)).use [(s2,ab (ag (l2.map ao) τ2) e2)] (fun _=>0) x;refine(aJ.perm z ?_).mono lr ?_
  ·show List.Perm _ (rt [(fr,ah (cK ps sp s1 s2 s1 o))] x++[(e,ig it l1.length old),(it,aq s1 l1.length),(s1,ab (ag (l1.map ao) τ1) e1)]++[(s2,ab (ag (l2.map ao) τ2) e2)])
   exact pm [0,1,2,3,4]
  ·rintro r L ⟨b,f,x',hr,rfl⟩
   cases o with
   |none=>rw[cT (List.length_pos_iff.mpr bq)] at ho;cases ho
   |some o=>exact⟨x',o.1,o.2,hr,rfl⟩
theorem Dk (w0:WW)(fr cd cs e it s1 s2 ps sp:Nat)(l1 l2:LN)(h1:l1.length≤100)(h2:l2.length≤100)(k:Nat)(xx:k<l1.length)(uy:k<l2.length)(bq:l1[k]≠l2[k])(heq:∀ i (h:i<k),l1[i]=l2[i])(τ1 τ2:NT)(e1 e2:Nat)(x:Nat→Tk):
  gh w aa b1 b2 2 none (jg (wt w0) e fr cd cs) (rt [(fr,ah (cK ps sp s1 s2 s1 none))] x++[(e,ig it 0 .none),(it,aq s1 0),(s1,ab (ag (l1.map ao) τ1) e1),(s2,ab (ag (l2.map ao) τ2) e2)])
   (fun r L=>∃ x' i d c,r=.ok .next∧L=rt [(fr,ah (cK ps sp s1 s2 c (some (i,d))))] x'++[(c,ab (ag ((l1.take k).map ao) τ1) 0),(s1,ab (ag (l1.map ao) τ1) e1),(s2,ab (ag (l2.map ao) τ2) e2)]):=by
 refine aJ.out ?_;refine bw k (fun i L=>∃ o x old,L=(rt [(fr,ah (cK ps sp s1 s2 s1 o))] x++[(e,ig it i old),(it,aq s1 i),(s1,ab (ag (l1.map ao) τ1) e1),(s2,ab (ag (l2.map ao) τ2) e2)])) ?_ ?_ (bZ _) ⟨none,x,.none,rfl⟩
 ·rintro i L hi ⟨o,x,old,rfl⟩ ih
  exact Bx b1 b2 B w0 fr cd cs e it s1 s2 ps sp l1 l2 h1 h2 τ1 τ2 e1 e2 i x o old (by omega) (by omega) (heq i hi) fun x' t=>ih _ ⟨_,x',_,rfl⟩
 ·rintro L ⟨o,x,old,rfl⟩
  rw[mM];refine aJ.perm (iP (e:=e) (it:=it) (l:=s1) (i:=k) (le:=e1) (old:=old) (vs:=ag (l1.map ao) τ1) (Z:=rt [(fr,ah (cK ps sp s1 s2 s1 o))] x++[(s2,ab (ag (l2.map ao) τ2) e2)]) (gq xx) fun tp tk=>?_) ?_
  ·let a:N2:=ix [fr,tp,s1,s2,cd,cs]
   have hs:(slicePick ⟨ag (l1.map ao) τ1⟩ none (some (k:Int)) none).toList=ag ((l1.take k).map ao) τ1:=by rw[qQ,mN,List.map_take]
   have z:=(Oy b1 b2 B w0 ps sp k o tk l1[k] (τ1 k) (ag (l1.map ao) τ1) (ag (l2.map ao) τ2) _ e1 e2 l2[k] (τ2 k) a (by omega) (gq uy) (by simpa using bq) hs (by rw[aI,bU];omega) (frx:=none)).use [(e,ig it (k+1) (.str (ao l1[k]) (τ1 k))),(it,aq s1 (k+1))] x;refine(aM.perm z ?_).mono lr ?_
   ·show List.Perm ((tp,iO [.int k tk,.str (ao l1[k]) (τ1 k)])::(e,ig it (k+1) (.str (ao l1[k]) (τ1 k)))::(it,aq s1 (k+1))::(s1,ab (ag (l1.map ao) τ1) e1)::(rt [(fr,ah (cK ps sp s1 s2 s1 o))] x++[(s2,ab (ag (l2.map ao) τ2) e2)]))
     (rt [(fr,ah (cK ps sp s1 s2 s1 o))] x++[(tp,iO [.int k tk,.str (ao l1[k]) (τ1 k)]),(s1,ab (ag (l1.map ao) τ1) e1),(s2,ab (ag (l2.map ao) τ2) e2)]++[(e,ig it (k+1) (.str (ao l1[k]) (τ1 k))),(it,aq s1 (k+1))])
    exact pm [4,0,3,5,1,2]
   ·rintro fin L ⟨r,b,f,x',rfl,hr,rfl⟩
    injection hr with hr
    subst hr;refine⟨.brk,rfl,rt [(fr,ah (cK ps sp s1 s2 (b 1) (some (k,l1[k]))))] x'++[(b 1,ab (ag ((l1.take k).map ao) τ1) 0),(s1,ab (ag (l1.map ao) τ1) e1),(s2,ab (ag (l2.map ao) τ2) e2)],[(e,ig it (k+1) (.str (ao l1[k]) (τ1 k))),(it,aq s1 (k+1))],?_,x',k,l1[k],b 1,rfl,rfl⟩;exact .refl _
  ·exact pm [1,2,3,0,4]
theorem Dl (w0:WW)(fr cd cs e it s1 ps sp:Nat)(l1:LN)(h1:l1.length≤100)(bq:l1≠[])(τ1:NT)(e1:Nat)(x:Nat→Tk):
  gh w aa b1 b2 2 none (jg (wt w0) e fr cd cs) (rt [(fr,ah (cK ps sp s1 s1 s1 none))] x++[(e,ig it 0 .none),(it,aq s1 0),(s1,ab (ag (l1.map ao) τ1) e1)])
   (fun r L=>∃ x' i d,r=.ok .next∧L=rt [(fr,ah (cK ps sp s1 s1 s1 (some (i,d))))] x'++[(s1,ab (ag (l1.map ao) τ1) e1)]):=by
 refine bw l1.length (fun i L=>∃ o x old,o.isSome=decide (0<i)∧L=(rt [(fr,ah (cK ps sp s1 s1 s1 o))] x++[(e,ig it i old),(it,aq s1 i),(s1,ab (ag (l1.map ao) τ1) e1)])) ?_ ?_ (bZ _) ⟨none,x,.none,rfl,rfl⟩
 ·rintro i L hi ⟨o,x,old,ho,rfl⟩ ih
  rw[mM] at ih ⊢;refine aJ.perm (iP (e:=e) (it:=it) (l:=s1) (i:=i) (le:=e1) (old:=old) (vs:=ag (l1.map ao) τ1) (Z:=rt [(fr,ah (cK ps sp s1 s1 s1 o))] x) (gq hi) fun tp tk=>?_) ?_
  ·let a:N2:=ix [fr,tp,s1,cd,cs]
   have z:=(Oz b1 b2 B w0 ps sp i o tk l1[i] (τ1 i) (ag (l1.map ao) τ1) e1 a (by omega) (gq hi) (by simp) (frx:=none)).use [(e,ig it (i+1) (.str (ao l1[i]) (τ1 i))),(it,aq s1 (i+1))] x;refine(aM.perm z ?_).mono lr ?_
   ·show List.Perm ((tp,iO [.int i tk,.str (ao l1[i]) (τ1 i)])::(e,ig it (i+1) (.str (ao l1[i]) (τ1 i)))::(it,aq s1 (i+1))::(s1,ab (ag (l1.map ao) τ1) e1)::(rt [(fr,ah (cK ps sp s1 s1 s1 o))] x))
     (rt [(fr,ah (cK ps sp s1 s1 s1 o))] x++[(tp,iO [.int i tk,.str (ao l1[i]) (τ1 i)]),(s1,ab (ag (l1.map ao) τ1) e1)]++[(e,ig it (i+1) (.str (ao l1[i]) (τ1 i))),(it,aq s1 (i+1))])
    exact pm [4,0,3,1,2]
   ·rintro fin L ⟨r,b,f,x',rfl,hr,rfl⟩
    injection hr with hr
    subst hr;refine⟨.next,rfl,aJ.perm (ih _ ⟨some (i,l1[i]),x',.str (ao l1[i]) (τ1 i),by simp,rfl⟩) ?_⟩;show List.Perm (rt [(fr,ah (cK ps sp s1 s1 s1 (some (i,l1[i]))))] x'++[(s1,ab (ag (l1.map ao) τ1) e1)]++[(e,ig it (i+1) (.str (ao l1[i]) (τ1 i))),(it,aq s1 (i+1))]) _;exact pm [0,2,3,1]
  ·exact pm [1,2,3,0]
 ·rintro L ⟨o,x,old,ho,rfl⟩
  let a:N2:=ix [fr,e,it,s1,cd,cs,s1];have z:=(MX b1 b2 B w0 ps sp l1.length e1 (ag (l1.map ao) τ1) o old a (ko lr) (frx:=none)).use [] (fun _=>0) x;refine(aJ.perm z ?_).mono lr ?_
  ·show List.Perm _ (rt [(fr,ah (cK ps sp s1 s1 s1 o))] x++[(e,ig it l1.length old),(it,aq s1 l1.length),(s1,ab (ag (l1.map ao) τ1) e1)]++[])
   rw[ck]
  ·rintro r L ⟨b,f,x',hr,rfl⟩
   cases o with
   |none=>rw[cT (List.length_pos_iff.mpr bq)] at ho;cases ho
   |some o=>exact⟨x',o.1,o.2,hr,ck _⟩
end
theorem HJ (a sc ll:Nat)(o:Option (Int×Nat×Nat))(x:Nat→Tk):nL (rt [(a,ah (bN sc ll o))] x)=[(a,ah (bN sc ll o))]:=by
 cases o<;>rfl
section
variable {b1 b2:Bool}{w:WW}{aa:Heap}
def HK (B:BB w aa b1 b2)(w0:WW)(vs:LV)(ns:List Int)(hv:vs.length=ns.length)(r4:∀ (i:Nat) (n:Int),ns[i]?=some n→∃ t,vs[i]?=some (.int n t)) (hn:ns.length≤14) (o:Option (Int×Nat×Nat)) (ho:mH ns ns.length=o) (sc:Nat):gw w aa b1 b2:=
 dk 2 true true 1 none (fun cc rr=>cH (wt w0) [2] (adr rr 4) (adr rr 0) (gI cc 0) (gI cc 1) (gI cc 2) (gI cc 3) (adr rr 1)) (fun _ rr=>[(adr rr 0,ah (bN sc (adr rr 3) none))])
  (fun _ rr=>[(adr rr 1,cR (adr rr 2)),(adr rr 2,ab (au fun i=>adr rr (i+6)) (aH rr 2)),(adr rr 3,ab [] (aH rr 3)),(adr rr 4,aq (adr rr 5) 0),(adr rr 5,ab vs (aH rr 5)),(adr rr 6,ab [] (aH rr 6)),(adr rr 7,ab [] (aH rr 7)),(adr rr 8,ab [] (aH rr 8)),(adr rr 9,ab [] (aH rr 9)),(adr rr 10,ab [] (aH rr 10))])
  (fun _ _ _ _=> .ok .next) (fun _ rr _ _=>[(adr rr 0,ah (bN sc (adr rr 3) o))])
  (fun _ rr b f=>[(adr rr 1,cR (adr rr 2)),(adr rr 2,ab (au fun i=>adr rr (i+6)) (aH rr 2)),(adr rr 3,ab (af (stN ns ns.length).1 (f 0)) (b 0)),(adr rr 5,ab vs (aH rr 5))]++aA (fun i=>adr rr (i+6)) (stN ns ns.length).2 (fun i=>f (i+1)) (fun i=>b (i+1)))
  fun cc rr t x=>by
   have z:=Df b1 b2 B w0 (adr rr 0) (gI cc 0) (gI cc 1) (gI cc 2) (gI cc 3) (adr rr 1) (adr rr 2) (aH rr 2) (adr rr 4) (adr rr 5) (aH rr 5) sc (adr rr 3) (aH rr 3) (fun i=>adr rr (i+6)) vs ns hv r4 hn x (fun _=>0) (fun _ _=>0) (fun i=>aH rr (i+6));refine aJ.out (aJ.mono z lr fun r L hP=>?_);obtain⟨x',fl,el,ay,er,rfl,hL⟩:=hP;rw[ho] at hL;refine⟨rt [(adr rr 0,ah (bN sc (adr rr 3) o))] x'++([(adr rr 1,cR (adr rr 2)),(adr rr 2,ab (au fun i=>adr rr (i+6)) (aH rr 2)),(adr rr 3,ab (af (stN ns ns.length).1 fl) el),(adr rr 5,ab vs (aH rr 5))]++aA (fun i=>adr rr (i+6)) (stN ns ns.length).2 ay er),[],?_,fun j=>match j with|0=>el|j+1=>er j,fun j=>match j with|0=>fl|j+1=>ay j,rt [(adr rr 0,ah (bN sc (adr rr 3) o))] x',rfl,rfl,HJ _ _ _ _ _⟩;rw[ck,←a5];exact hL
end
section
variable {prog:Program}{w:WW}{aa:Heap}
theorem uz (a:Nat)(vs:LV)(e:Nat)(k:Int)(t:Tok)(v:Value)(h0:0≤k)(hk:k<1000)(hv:k<vs.length):
  d3 prog w aa 0 (.call (.builtin "list.__setitem__") ⟨[.ref a,.int k t,v],[]⟩) [(a,ab vs e)] (fun r L=>r=.ok (.ret .none)∧L=[(a,ab (vs.set k.toNat v) e)]):=by
 intro A R Fr h g d os tok size hA hD kk;have hl:=i3 hD (.head _);have ho:h.get? a=some (ab vs e):=hD.get (.head _) (fun _=>rfl);have wu:Builtin.List.listFitsIndex k=true:=fitsIndex_of h0 (by omega);refine codeAny_call_builtin PySem.slot_list_setitem.plain PySem.entry_list_setitem (PySem.slot_list_setitem.check _ _ _ _ _ _ _ _ (hl.typeIs (s:=⟨h,g,d,tok,os⟩)) (PySem.args_list_setitem _ _ _) ?_);show wpAny _ _ (Builtin.List.listSubscript? (.int k t)>>=_) _ _ _;refine aw (wpAny_listSubscript_int wu ?_);clear wu hk;obtain⟨j,rfl⟩:=Int.eq_ofNat_of_zero_le h0;have Jr:j<vs.length:=by omega
 have hx:(⟨vs⟩:Array Value)[j]?=some vs[j]:=by simp[Jr]
 show wpAny _ _ ((seqItemAt a j>>=fun r=>pure (r.map (j,·)))>>=_) _ _ _;refine aw (aw (wpAny_seqItemAt ho rfl (aG ?_)));rw[hx];show wpAny _ _ (setSeqItemAt a j v>>=_) _ _ _;have D0:Rp aa h ((a,ab vs e)::[]++Fr) size:=hD;have D1:=D0.fC (f:=Obj.mapSeq (·.setIfInBounds j v)) (o':=ab (vs.set j v) e) (fun _=>rfl) (by simp[Obj.mapSeq,ab]) rfl;have key:=kk (.ok (.ret .none)) [(a,ab (vs.set j v) e)] _ g tok size ⟨rfl,rfl⟩ (bh.refl _) D1;refine aw (wpAny_setSeqItemAt ho rfl ?_)
 first
  |exact aw (aG (aG key))
  |exact aG key
theorem xy (a:Nat)(vs:LV)(e:Nat)(k:Nat)(t:Tok)(v:Value)(hk:k<1000)(hv:k<vs.length):
  d3 prog w aa 0 (.call (.builtin "list.__setitem__") ⟨[.ref a,.int k t,v],[]⟩) [(a,ab vs e)] (fun r L=>r=.ok (.ret .none)∧L=[(a,ab (vs.set k v) e)]):=
 uz a vs e k t v (by omega) (by omega) (by omega)
def Ap (vs:LV)(k:Nat)(v:Value)(hk:k<1000)(hv:k<vs.length):Ent prog w aa:=fB 0 true true 0 (fun c rs=> .call (.builtin "list.__setitem__") ⟨[.ref (adr rs 0),.int k (cD (gB c 1)),v],[]⟩) (fun _ _=>[]) (fun _ rs=>[(adr rs 0,ab vs (aH rs 0))])
 (fun _ _ _=> .ok (.ret .none)) (fun _ _ _=>[]) (fun _ rs _=>[(adr rs 0,ab (vs.set k v) (aH rs 0))]) fun c rs=>fU (xy _ vs _ k _ v hk hv)
end
section
variable {b1 b2:Bool}{w:WW}{aa:Heap}
def Aq (B:BB w aa b1 b2)(dp:LN)(d:Nat)(jr:∀ x∈dp,x<5)(hd:d<5):gw w aa b1 b2:=
 eD B (P (dp++[d])) (S [d+48]) (pP (P (dp++[d]))) (pP (P (dp++[d]))+1) rfl rfl (gW dp jr d hd) (by show 1≤1000;decide)
end
section
variable {prog:Program}{w:WW}{aa:Heap}
def yM (rs:Ow)(i j:Nat):Tok:=match (JM rs i)[j]? with
 |some v=>cD v
 |none=>0
def c5 (rs:Ow)(i:Nat):LV:=[.int 0 (yM rs i 0),.int 1 (yM rs i 1),.int 2 (yM rs i 2),.int 3 (yM rs i 3),.int 4 (yM rs i 4)]
def Dm (ds:LN)(hb:ds.length≤900)(τ:NT):Ent prog w aa:=
 dk 0 true true 0 none (fun _ rr=> .builtin "list.__add__" ⟨[.ref (adr rr 0),.ref (adr rr 1)],[]⟩) (fun _ _=>[]) (fun _ rr=>[(adr rr 0,ab (af ds τ) (aH rr 0)),(adr rr 1,ab (c5 rr 1) (aH rr 1))])
  (fun _ _ b _=> .ok (.ret (.ref (b 0)))) (fun _ _ _ _=>[]) (fun _ rr b f=>[(b 0,ab (af (ds++[0,1,2,3,4]) (f 0)) 0),(adr rr 0,ab (af ds τ) (aH rr 0)),(adr rr 1,ab (c5 rr 1) (aH rr 1))])
  fun cc rr t x=>(d3.f (sY (adr rr 0) (adr rr 1) (af ds τ) (c5 rr 1) (aH rr 0) (aH rr 1) (by rw[bf];show ds.length+5≤1000;omega))).mono lr fun r L hP=>by
   obtain⟨c,rfl,rfl⟩:=hP;refine⟨fun _=>c,fun _ i=>if i<ds.length then τ i else yM rr 1 (i-ds.length),[],?_,rfl,rfl⟩;have e:af (ds++[0,1,2,3,4]) (fun i=>if i<ds.length then τ i else yM rr 1 (i-ds.length))=af ds τ++c5 rr 1:=by
    rw[iZ,fW ds _ τ fun i hi=>if_pos hi];have h:(fun i=>if i+ds.length<ds.length then τ (i+ds.length) else yM rr 1 (i+ds.length-ds.length))=fun i=>yM rr 1 i:=by
     funext i;rw[if_neg (by omega),Nat.add_sub_cancel]
    rw[h];rfl
   show _=[]++[(c,ab (af (ds++[0,1,2,3,4]) (fun i=>if i<ds.length then τ i else yM rr 1 (i-ds.length))) 0),_,_];rw[e];rfl
end
def K9 (w0:WW)(o:Option (Int×Nat×Nat))(po:Option Str)(xs wv:LV)(i te we:Nat)(dp:LN)(d:Nat)(t0:Tok)(a:N2):SX Code Code:=⟨cH (wt w0) [7] (a 3) (a 0) (a 5) (a 6) (a 7) (a 1) (a 8),[(a 0,ah (ke (a 9) (a 10) o (a 4) po))],[(a 1,cR (a 2)),(a 2,ab wv we),(a 3,aq (a 4) i),(a 4,ab xs te)],fun b f=>cH (wt w0) [7] (a 3) (a 0) (a 5) (a 6) (a 7) (a 1) (a 8),fun b f=>[(a 0,ah (ke (a 9) (a 10) o (a 4) (some (aj 47 (dp++[d])))))],fun b f=>[(a 1,cR (a 2)),(a 2,ab (wv.set d (.str (aj 47 (dp++[d])) t0)) we),(a 3,aq (a 4) (i+1)),(a 4,ab xs te)]⟩
section
variable (b1 b2:Bool){w:WW}{aa:Heap}(B:BB w aa b1 b2)
include B
theorem OD (w0:WW)(o:Option (Int×Nat×Nat))(po:Option Str)(xs wv:LV)(i te we:Nat)(dp:LN)(d:Nat)(t0:Tok)(a:N2)(hx:xs[i]?=some (.str (aj 47 (dp++[d])) t0)) (jr:∀ x∈dp,x<5) (hd:d<5) (hk:d<1000) (hw:d<wv.length):eR w aa b1 b2 2 true (K9 w0 o po xs wv i te we dp d t0 a):=
 eO B (ol 0x4b4 (.u [3,3] (bQ xs i (.str (aj 47 (dp++[d])) t0) hx)::(ol 0x3334aaa3a (.u [] (Aq B dp d jr hd)::(.u [] (rZ B d hd)::(ol 0x55 (.u [4] (Ap wv d (.str (aj 47 (dp++[d])) t0) hk hw)::(ol 0xd [])))))))) z2 z3 [3,3,0,0,0] 0 1 fun t x X Fr=>by revert b1 b2 o po;exact Gx (by kernel_rfl)
def K' (w0:WW)(xs:LV)(i te:Nat)(a:N2):SX Code Result:=sB (cH (wt w0) [7] (a 0) (a 7) (a 2) (a 3) (a 4) (a 6) (a 5)) [] [(a 0,aq (a 1) i),(a 1,ab xs te)] (fun b f=> .ok .next) (fun b f=>[(a 1,ab xs te)])
theorem OF (w0:WW)(xs:LV)(i te:Nat)(a:N2)(hx:xs[i]?=none) {frx:OE}:eP w aa b1 b2 2 frx true true (K' w0 xs i te a):=
 tX B aO.none (ol 0x1b1 (.u [0,0] (bA xs i hx)::(ol 0x1b []))) z2 z3 [2] 2 0
end
noncomputable def upd {α:Type}(W:Nat→α)(d:Nat)(q:α):Nat→α:=fun a=>if a=d then q else W a
def fm (out:List LN)(i:Nat):Nat→List Nat:=(out.take i).foldl (fun W q=>upd W (az q) q) fun _=>[]
theorem xA {out:List LN}{i:Nat}(h:i<out.length):fm out (i+1)=upd (fm out i) (az out[i]) out[i]:=by
 unfold fm;rw[dv h,List.foldl_append];rfl
theorem mO (a:Nat):∀ (l:List LN)(W:Nat→List Nat),(∀ q∈l,az q≠a)→l.foldl (fun W q=>upd W (az q) q) W a=W a
 |[],_,_=>rfl
 |q::l,W,h=>by
  rw[List.foldl_cons,mO a l _ fun q' nP=>h q' (bE _ nP)];unfold upd;rw[if_neg (Ne.symm (h q bT))]
theorem tf:∀ (l:List LN)(W:Nat→List Nat),(l.Pairwise fun q1 q2=>az q1≠az q2)→∀ q∈l,l.foldl (fun W q=>upd W (az q) q) W (az q)=q
 |[],_,_,q,h=>nomatch h
 |q0::l,W,hp,q,h=>by
  have hp:=List.pairwise_cons.mp hp;rw[List.foldl_cons];rcases ba.mp h with rfl|h
  ·rw[mO _ l _ fun q' nP=>Ne.symm (hp.1 q' nP)]
   unfold upd;rw[if_pos rfl]
  ·exact tf l _ hp.2 q h
theorem As {out:List LN}(hp:out.Pairwise fun q1 q2=>az q1≠az q2){q:LN}(h:q∈out):fm out out.length (az q)=q:=by
 unfold fm;rw[List.take_length];exact tf out _ hp q h
def aE (W:Nat→List Nat)(τ:NT):LV:=[.str (aj 47 (W 0)) (τ 0),.str (aj 47 (W 1)) (τ 1),.str (aj 47 (W 2)) (τ 2),.str (aj 47 (W 3)) (τ 3),.str (aj 47 (W 4)) (τ 4)]
theorem uA (W:Nat→List Nat)(τ:NT)(d:Nat)(hd:d<5)(q:LN)(t:Tok):(aE W τ).set d (.str (aj 47 q) t)=aE (upd W d q) (upd τ d t):=by
 match d,hd with
 |0,_=>rfl
 |1,_=>rfl
 |2,_=>rfl
 |3,_=>rfl
 |4,_=>rfl
theorem Dn (a sc ll:Nat)(o:Option (Int×Nat×Nat))(tl:Nat)(s:Str)(x:Nat→Tk):nL (rt [(a,ah (ke sc ll o tl (some s)))] x)=[(a,ah (ke sc ll o tl (some s)))]:=by
 cases o<;>rfl
section
variable (b1 b2:Bool){w:WW}{aa:Heap}(B:BB w aa b1 b2)
include B
theorem Dq (w0:WW)(fr cc ca cv cw ct wl it tl sc ll te we:Nat)(o:Option (Int×Nat×Nat))(out:List LN)(ho:∀ q∈out,∃ dp d,q=dp++[d]∧(∀ x∈dp,x<5)∧d<5)(hl:out.length≤900)(pl:LN)(ib:out.getLast?=some pl)(dg τ:NT)(x:Nat→Tk):
  gh w aa b1 b2 2 none (cH (wt w0) [7] it fr cc ca cv cw ct) (rt [(fr,ah (ke sc ll o tl none))] x++[(cw,cR wl),(wl,ab (aE (fun _=>[]) τ) we),(it,aq tl 0),(tl,ab (ag (out.map (aj 47)) dg) te)])
   (fun r L=>∃ x' bG,r=.ok .next∧L=rt [(fr,ah (ke sc ll o tl (some (aj 47 pl))))] x'++[(cw,cR wl),(wl,ab (aE (fm out out.length) bG) we),(tl,ab (ag (out.map (aj 47)) dg) te)]):=by
 refine aJ.out ?_;refine bw out.length (fun i L=>∃ po x bG,(i=out.length→po=some (aj 47 pl))∧L=(rt [(fr,ah (ke sc ll o tl po))] x++[(cw,cR wl),(wl,ab (aE (fm out i) bG) we),(it,aq tl i),(tl,ab (ag (out.map (aj 47)) dg) te)])) ?_ ?_ (bZ _) ⟨none,x,τ,?_,rfl⟩
 ·rintro i L hi ⟨po,x,bG,Je,rfl⟩ ih
  obtain⟨dp,d,hq,jr,hd⟩:=ho out[i] (List.getElem_mem hi);have hx:(ag (out.map (aj 47)) dg)[i]?=some (.str (aj 47 (dp++[d])) (dg i)):=eA _ _ _ _ (by rw[List.getElem?_map,cy hi,←hq];rfl)
  let a:N2:=ix [fr,cw,wl,it,tl,cc,ca,cv,ct,sc,ll];refine(OD b1 b2 B w0 o po (ag (out.map (aj 47)) dg) (aE (fm out i) bG) i te we dp d (dg i) a hx jr hd (by omega) hd).z lr (fun b f x'=>ih _ ⟨some (aj 47 (dp++[d])),x',upd bG d (dg i),?_,?_⟩) (fun _=>0) x
  ·intro iz
   rw[List.getLast?_eq_getElem?,show out.length-1=i by omega,cy hi,hq] at ib;injection ib with ib
   rw[ib]
  ·have e:fm out (i+1)=upd (fm out i) d (dp++[d]):=by rw[xA hi,hq,cW]
   rw[e,←uA _ _ d hd];rfl
 ·rintro L ⟨po,x,bG,Je,rfl⟩
  have Je:=Je rfl;subst Je;let a:N2:=ix [it,tl,cc,ca,cv,ct,cw,fr];have z:=(OF b1 b2 B w0 (ag (out.map (aj 47)) dg) out.length te a (fG _ _ _ (eU (by simp))) (frx:=none)).use (rt [(fr,ah (ke sc ll o tl (some (aj 47 pl))))] x++[(cw,cR wl),(wl,ab (aE (fm out out.length) bG) we)]) (fun _=>0) x;refine(aJ.perm z ?_).mono lr ?_
  ·show List.Perm _ (rt [] x++[(it,aq tl out.length),(tl,ab (ag (out.map (aj 47)) dg) te)]++(rt [(fr,ah (ke sc ll o tl (some (aj 47 pl))))] x++[(cw,cR wl),(wl,ab (aE (fm out out.length) bG) we)]))
   exact pm [3,4,0,1,2]
  ·rintro rs L' ⟨b,f,x',hr,rfl⟩
   refine⟨rt [(fr,ah (ke sc ll o tl (some (aj 47 pl))))] x++[(cw,cR wl),(wl,ab (aE (fm out out.length) bG) we),(tl,ab (ag (out.map (aj 47)) dg) te)],[],?_,x,bG,hr,rfl⟩;show List.Perm (rt [] x'++[(tl,ab (ag (out.map (aj 47)) dg) te)]++(rt [(fr,ah (ke sc ll o tl (some (aj 47 pl))))] x++[(cw,cR wl),(wl,ab (aE (fm out out.length) bG) we)])) _;exact pm [1,2,3,0]
 ·intro h0
  have:out=[]:=List.length_eq_zero_iff.mp h0.symm;rw[this] at ib;cases ib
end
section
variable {b1 b2:Bool}{w:WW}{aa:Heap}
def Lb (B:BB w aa b1 b2)(w0:WW)(o:Option (Int×Nat×Nat))(out:List LN)(ho:∀ q∈out,∃ dp d,q=dp++[d]∧(∀ x∈dp,x<5)∧d<5)(hl:out.length≤900)(pl:LN)(ib:out.getLast?=some pl)(dg τ:NT)(sc ll:Nat):gw w aa b1 b2:=
 dk 2 true true 1 none (fun cc rr=>cH (wt w0) [7] (adr rr 3) (adr rr 0) (gI cc 0) (gI cc 1) (gI cc 2) (adr rr 1) (gI cc 4)) (fun _ rr=>[(adr rr 0,ah (ke sc ll o (adr rr 4) none))])
  (fun _ rr=>[(adr rr 1,cR (adr rr 2)),(adr rr 2,ab (aE (fun _=>[]) τ) (aH rr 2)),(adr rr 3,aq (adr rr 4) 0),(adr rr 4,ab (ag (out.map (aj 47)) dg) (aH rr 4))])
  (fun _ _ _ _=> .ok .next) (fun _ rr _ _=>[(adr rr 0,ah (ke sc ll o (adr rr 4) (some (aj 47 pl))))])
  (fun _ rr b f=>[(adr rr 1,cR (adr rr 2)),(adr rr 2,ab (aE (fm out out.length) (f 0)) (aH rr 2)),(adr rr 4,ab (ag (out.map (aj 47)) dg) (aH rr 4))])
  fun cc rr t x=>(Dq b1 b2 B w0 (adr rr 0) (gI cc 0) (gI cc 1) (gI cc 2) (adr rr 1) (gI cc 4) (adr rr 2) (adr rr 3) (adr rr 4) sc ll (aH rr 4) (aH rr 2) o out ho hl pl ib dg τ x).mono lr fun r L hP=>by
   obtain⟨x',bG,rfl,rfl⟩:=hP;exact⟨fun _=>0,fun _=>bG,rt [(adr rr 0,ah (ke sc ll o (adr rr 4) (some (aj 47 pl))))] x',rfl,rfl,Dn _ _ _ _ _ _ _⟩
end
noncomputable def rn (k i:Nat)(s:Value):Obj:=⟨.type "set_iterator",none,.fields ⟨[.int k 0,.int i 0,s,.int 1 0,.int 1 0]⟩,#[]⟩
noncomputable def k8 (led:Bool):Obj:=⟨.type "set",none,.set ⟨[(0,.bool false)]⟩ 1 ⟨7,⟨[0]⟩,⟨[]⟩,0,led,0,true⟩,#[]⟩
theorem mP:entryFor table "set_iterator.__next__"=some Builtin.«set_iterator.__next__»:=entryFor_of_tree (by kernel_rfl)
theorem By (f:N2)(x:Int×Value):pickOrder f (⟨[x]⟩:Array (Int×Value))=⟨[x]⟩:=by
 unfold pickOrder;show pickOrder.go f 1 0 [x] #[]=_;unfold pickOrder.go;have:f 0 % [x].length=0:=Nat.mod_one _;rw[this];rfl
section
variable {prog:Program}{w:WW}{aa:Heap}
theorem uC (hw:w.params.followText "set-order"=true)(it s:Nat):d3 prog w aa 0 (.builtin "set_iterator.__next__" ⟨[.ref it],[]⟩) [(it,rn 0 0 (.ref s)),(s,k8 false)] (fun r L=>r=.ok (.ret (.bool false))∧L=[(it,rn 0 1 (.ref s)),(s,k8 false)]):=by
 intro A R Fr h g d os tok size hA hD kk;have ho:h.get? it=some (rn 0 0 (.ref s)):=hD.get (.head _) (fun _=>rfl);have hl:h.get? s=some (k8 false):=hD.get (.tail _ (.head _)) (fun _=>rfl);refine dw mP ?_;show wpAny _ _ (fieldsOf (.ref it)>>=_) _ _ _;refine aw (wpAny_fieldsOf ho rfl ?_);show wpAny _ _ (setEntries s>>=_) _ _ _;refine aw (wpAny_setEntries_of hl rfl rfl ?_);show wpAny _ _ (setNext s 0 0 1>>=_) _ _ _;unfold setNext setWalk setsByText;refine aw (aw (wpAny_setState_of hl rfl rfl ?_));refine aw (aw (wpAny_askSetting (aG ?_)));show wpAny _ _ (if w.params.followText "set-order"=true then _ else _) _ _ _;rw[if_pos hw];refine aw (aw (wpAny_setState_of hl rfl rfl ?_));refine aw (aw (wpAny_askSetting (aG ?_)));show wpAny _ _ (if w.params.followText "set-order"=true then _ else _) _ _ _;rw[if_pos hw];refine aw (wpAny_askSetting (aG ?_));rw[By];refine aG ?_;show wpAny _ _ (setField (.ref it) 0 (rawInt 0)>>=_) _ _ _;refine aw (wpAny_setField ho rfl (by simp) ?_);have D1:=hD.fC (f:=Obj.mapFields (·.setIfInBounds 0 (rawInt 0))) (o':=rn 0 0 (.ref s)) (fun _=>rfl) rfl rfl;have OG:(h.update it (Obj.mapFields (·.setIfInBounds 0 (rawInt 0)))).get? it=some (rn 0 0 (.ref s)):=D1.get (.head _) (fun _=>rfl);refine aw (wpAny_setField OG rfl (by simp) (aG ?_));have D2:=D1.fC (f:=Obj.mapFields (·.setIfInBounds 1 (rawInt 1))) (o':=rn 0 1 (.ref s)) (fun _=>rfl) rfl rfl;exact kk (.ok (.ret (.bool false))) [(it,rn 0 1 (.ref s)),(s,k8 false)] _ g tok size ⟨rfl,rfl⟩ (bh.refl _) D2
theorem pB (hw:w.params.followText "set-order"=true)(it s:Nat):d3 prog w aa 0 (.builtin "set_iterator.__next__" ⟨[.ref it],[]⟩) [(it,rn 0 1 (.ref s)),(s,k8 false)] (fun r L=>∃ b t,r=.error (.ref b)∧L=[(b,cZ t),(it,rn 0 1 .none),(s,k8 false)]):=by
 intro A R Fr h g d os tok size hA hD kk;have ho:h.get? it=some (rn 0 1 (.ref s)):=hD.get (.head _) (fun _=>rfl);have hl:h.get? s=some (k8 false):=hD.get (.tail _ (.head _)) (fun _=>rfl);refine dw mP ?_;show wpAny _ _ (fieldsOf (.ref it)>>=_) _ _ _;refine aw (wpAny_fieldsOf ho rfl ?_);show wpAny _ _ (setEntries s>>=_) _ _ _;refine aw (wpAny_setEntries_of hl rfl rfl ?_);show wpAny _ _ (setNext s 0 1 1>>=_) _ _ _;unfold setNext setWalk setsByText;refine aw (aw (wpAny_setState_of hl rfl rfl ?_));refine aw (aw (wpAny_askSetting (aG ?_)));show wpAny _ _ (if w.params.followText "set-order"=true then _ else _) _ _ _;rw[if_pos hw];refine aw (aw (wpAny_setState_of hl rfl rfl ?_));refine aw (aw (wpAny_askSetting (aG ?_)));show wpAny _ _ (if w.params.followText "set-order"=true then _ else _) _ _ _;rw[if_pos hw];refine aw (wpAny_askSetting (aG ?_));rw[By];refine aG ?_;show wpAny _ _ (setField (.ref it) 2 .none>>=_) _ _ _;refine aw (wpAny_setField ho rfl (by simp) ?_);have D1:=hD.fC (f:=Obj.mapFields (·.setIfInBounds 2 .none)) (o':=rn 0 1 .none) (fun _=>rfl) rfl rfl;show wpAny _ _ (newExc (.type "StopIteration") []>>=_) _ _ _;refine aw ?_;simp only[newExc,newTuple];refine aw (wpAny_newObj_type ?_ (by size_fits));have D2:=D1.alloc (o:=⟨.type "tuple",none,.seq #[] 0,#[]⟩) rfl;refine aw (m:=firstArgMember _ _) (wpAny_of_eq (a:=Value.none) (by first|rfl|(simp only[firstArgMember];rfl)) ?_);refine wpAny_newObj_type ?_ (by size_fits);have D3:=D2.alloc (o:=cZ size) rfl;have es:(h.update it (Obj.mapFields (·.setIfInBounds 2 .none))).objs.size=size:=D1.sz;refine wpAny_raiseNew_none (show(A.under _).handled=none from hA.hd) ?_;have key:=kk (.error (.ref (size+1))) [(size+1,cZ size),(it,rn 0 1 .none),(s,k8 false)] _ g tok (size+1+1) ⟨size+1,size,rfl,rfl⟩ (bh.refl _) (D3.sub ((List.Sublist.refl [_]).append (List.sublist_cons_self _ _)));simp only[Heap.size_push,es];exact key
def iQ (hw:w.params.followText "set-order"=true):Ent prog w aa:=fB 0 true true 0 (fun c rs=> .builtin "set_iterator.__next__" ⟨[.ref (adr rs 0)],[]⟩) (fun _ _=>[]) (fun c rs=>[(adr rs 0,rn 0 0 (.ref (adr rs 1))),(adr rs 1,k8 false)])
 (fun _ _ _=> .ok (.ret (.bool false))) (fun _ _ _=>[]) (fun c rs _=>[(adr rs 0,rn 0 1 (.ref (adr rs 1))),(adr rs 1,k8 false)]) fun c rs=>fU (uC hw _ _)
def eL (hw:w.params.followText "set-order"=true):Ent prog w aa:=fB 0 true true 0 (fun c rs=> .builtin "set_iterator.__next__" ⟨[.ref (adr rs 0)],[]⟩) (fun _ _=>[]) (fun c rs=>[(adr rs 0,rn 0 1 (.ref (adr rs 1))),(adr rs 1,k8 false)])
 (fun _ _ b=> .error (.ref (b 0))) (fun _ _ _=>[]) (fun c rs b=>[(b 0,cZ (b 1)),(adr rs 0,rn 0 1 .none),(adr rs 1,k8 false)]) fun c rs t x=>
  (pB hw (adr rs 0) (adr rs 1)).mono lr fun r L hP=>by
   obtain⟨b,t,rfl,rfl⟩:=hP;exact⟨fun i=>match i with|0=>b|_=>t,[],rfl,rfl,rfl⟩
end
section
variable {prog:Program}{w:WW}{aa:Heap}
theorem r8:plainId "enumerate.__new__"=true:=by decide+kernel
theorem r9:entryFor table "enumerate.__new__"=some Builtin.«enumerate.__new__»:=entryFor_of_tree (by kernel_rfl)
theorem uD (l:Nat)(vs:LV)(e:Nat):d3 prog w aa 0 (.builtin "enumerate.__new__" ⟨[.type "enumerate",.ref l],[]⟩) [(l,ab vs e)] (fun r L=>∃ b it,r=.ok (.ret (.ref b))∧L=[(b,ig it 0 .none),(it,aq l 0),(l,ab vs e)]):=by
 refine sI r8 r9 (meets_enumerate_new l ⟨vs⟩ e) ?_;intro A R Fr h gs d os tok size D kk;refine⟨D.get (.head _) (fun _=>rfl),?_⟩;have D2:=D.alloc (o:=aq l 0) rfl;have D3:=D2.alloc (o:=ig size 0 .none) rfl;have es:h.objs.size=size:=D.sz;have key:=kk (.ok (.ret (.ref (size+1)))) [(size+1,ig size 0 .none),(size,aq l 0),(l,ab vs e)] _ gs tok (size+1+1) ⟨size+1,size,rfl,rfl⟩ (bh.refl _) D3;show R (.ok (.ret (.ref (h.push (aq l 0)).objs.size))) ⟨(h.push (aq l 0)).push (ig h.objs.size 0 .none),gs,d,tok,os⟩;rw[Heap.size_push,es];exact key
def dD (vs:LV):Ent prog w aa:=dk 0 true true 0 none (fun _ rr=> .builtin "enumerate.__new__" ⟨[.type "enumerate",.ref (adr rr 0)],[]⟩) (fun _ _=>[]) (fun _ rr=>[(adr rr 0,ab vs (aH rr 0))])
 (fun _ _ b _=> .ok (.ret (.ref (b 0)))) (fun _ _ _ _=>[]) (fun _ rr b _=>[(b 0,ig (b 1) 0 .none),(b 1,aq (adr rr 0) 0),(adr rr 0,ab vs (aH rr 0))]) fun cc rr t x=>
  (d3.f (uD (adr rr 0) vs (aH rr 0))).mono lr fun r L hP=>by
   obtain⟨b,it,rfl,rfl⟩:=hP;exact⟨fun i=>match i with|0=>b|_=>it,fun _ _=>0,[],rfl,rfl,rfl⟩
end
section
variable {b1 b2:Bool}{w:WW}{aa:Heap}
def lK (B:BB w aa b1 b2)(w0:WW)(l1 l2:LN)(h1:l1.length≤100)(h2:l2.length≤100)(bq:l1≠[])(hp:l1<+:l2)(τ1 τ2:NT):gw w aa b1 b2:=
 dk 2 true true 1 none (fun cc rr=>jg (wt w0) (adr rr 1) (adr rr 0) (gI cc 0) (gI cc 1)) (fun _ rr=>[(adr rr 0,ah (cK (adr rr 5) (adr rr 6) (adr rr 3) (adr rr 4) (adr rr 3) none))])
  (fun _ rr=>[(adr rr 1,ig (adr rr 2) 0 .none),(adr rr 2,aq (adr rr 3) 0),(adr rr 3,ab (ag (l1.map ao) τ1) (aH rr 3)),(adr rr 4,ab (ag (l2.map ao) τ2) (aH rr 4))]++aR 5 rr) (fun _ _ _ _=> .ok .next)
  (fun _ rr b _=>[(adr rr 0,ah (cK (adr rr 5) (adr rr 6) (adr rr 3) (adr rr 4) (adr rr 3) (some (b 0,b 1))))])
  (fun _ rr b f=>[(adr rr 3,ab (ag (l1.map ao) τ1) (aH rr 3)),(adr rr 4,ab (ag (l2.map ao) τ2) (aH rr 4))]++aR 5 rr)
  fun cc rr t x=>by
   have z:=(Dj b1 b2 B w0 (adr rr 0) (gI cc 0) (gI cc 1) (adr rr 1) (adr rr 2) (adr rr 3) (adr rr 4) (adr rr 5) (adr rr 6) l1 l2 h1 h2 bq hp τ1 τ2 (aH rr 3) (aH rr 4) x).frame (aR 5 rr);rw[a5] at z;refine aJ.mono z lr fun r L hP=>?_;obtain⟨L',rfl,x',i,d,rfl,rfl⟩:=hP;exact⟨fun j=>match j with|0=>i|_=>d,fun _ _=>0,rt [(adr rr 0,ah (cK (adr rr 5) (adr rr 6) (adr rr 3) (adr rr 4) (adr rr 3) (some (i,d))))] x',a5 _ _ _,rfl,rfl⟩
def lL (B:BB w aa b1 b2)(w0:WW)(l1 l2:LN)(h1:l1.length≤100)(h2:l2.length≤100)(k:Nat)(xx:k<l1.length)(uy:k<l2.length)(bq:l1[k]≠l2[k])(heq:∀ i (h:i<k),l1[i]=l2[i])(τ1 τ2:NT):gw w aa b1 b2:=
 dk 2 true true 1 none (fun cc rr=>jg (wt w0) (adr rr 1) (adr rr 0) (gI cc 0) (gI cc 1)) (fun _ rr=>[(adr rr 0,ah (cK (adr rr 5) (adr rr 6) (adr rr 3) (adr rr 4) (adr rr 3) none))])
  (fun _ rr=>[(adr rr 1,ig (adr rr 2) 0 .none),(adr rr 2,aq (adr rr 3) 0),(adr rr 3,ab (ag (l1.map ao) τ1) (aH rr 3)),(adr rr 4,ab (ag (l2.map ao) τ2) (aH rr 4))]++aR 5 rr) (fun _ _ _ _=> .ok .next)
  (fun _ rr b _=>[(adr rr 0,ah (cK (adr rr 5) (adr rr 6) (adr rr 3) (adr rr 4) (b 2) (some (b 0,b 1))))])
  (fun _ rr b f=>[(b 2,ab (ag ((l1.take k).map ao) τ1) 0),(adr rr 3,ab (ag (l1.map ao) τ1) (aH rr 3)),(adr rr 4,ab (ag (l2.map ao) τ2) (aH rr 4))]++aR 5 rr)
  fun cc rr t x=>by
   have z:=(Dk b1 b2 B w0 (adr rr 0) (gI cc 0) (gI cc 1) (adr rr 1) (adr rr 2) (adr rr 3) (adr rr 4) (adr rr 5) (adr rr 6) l1 l2 h1 h2 k xx uy bq heq τ1 τ2 (aH rr 3) (aH rr 4) x).frame (aR 5 rr);rw[a5] at z;refine aJ.mono z lr fun r L hP=>?_;obtain⟨L',rfl,x',i,d,c,rfl,rfl⟩:=hP;exact⟨fun j=>match j with|0=>i|1=>d|_=>c,fun _ _=>0,rt [(adr rr 0,ah (cK (adr rr 5) (adr rr 6) (adr rr 3) (adr rr 4) c (some (i,d))))] x',a5 _ _ _,rfl,rfl⟩
def HL (B:BB w aa b1 b2)(w0:WW)(l1:LN)(h1:l1.length≤100)(bq:l1≠[])(τ1:NT):gw w aa b1 b2:=
 dk 2 true true 1 none (fun cc rr=>jg (wt w0) (adr rr 1) (adr rr 0) (gI cc 0) (gI cc 1)) (fun _ rr=>[(adr rr 0,ah (cK (adr rr 4) (adr rr 5) (adr rr 3) (adr rr 3) (adr rr 3) none))])
  (fun _ rr=>[(adr rr 1,ig (adr rr 2) 0 .none),(adr rr 2,aq (adr rr 3) 0),(adr rr 3,ab (ag (l1.map ao) τ1) (aH rr 3))]++aR 4 rr) (fun _ _ _ _=> .ok .next)
  (fun _ rr b _=>[(adr rr 0,ah (cK (adr rr 4) (adr rr 5) (adr rr 3) (adr rr 3) (adr rr 3) (some (b 0,b 1))))])
  (fun _ rr b f=>[(adr rr 3,ab (ag (l1.map ao) τ1) (aH rr 3))]++aR 4 rr)
  fun cc rr t x=>by
   have z:=(Dl b1 b2 B w0 (adr rr 0) (gI cc 0) (gI cc 1) (adr rr 1) (adr rr 2) (adr rr 3) (adr rr 4) (adr rr 5) l1 h1 bq τ1 (aH rr 3) x).frame (aR 4 rr);rw[a5] at z;refine aJ.mono z lr fun r L hP=>?_;obtain⟨L',rfl,x',i,d,rfl,rfl⟩:=hP;exact⟨fun j=>match j with|0=>i|_=>d,fun _ _=>0,rt [(adr rr 0,ah (cK (adr rr 4) (adr rr 5) (adr rr 3) (adr rr 3) (adr rr 3) (some (i,d))))] x',a5 _ _ _,rfl,rfl⟩
end
def Lc (e0 e1:Nat)(p q:LN)(t1 t2:Tok)(a:N2):SX Code Result:=sB (.builtin "list.extend.loop" ⟨[.ref (a 0),.ref (a 1),.ref (a 0)],[]⟩) [] [(a 0,ab [] e0),(a 1,⟨.type "map",none,.fields ⟨[.ref (a 2),.ref 157]⟩,#[]⟩),(a 2,⟨.type "tuple",none,.seq ⟨[.ref (a 3)]⟩ 0,#[]⟩),(a 3,aq (a 4) 0),(a 4,ab [.str (aj 47 p) t1,.str (aj 47 q) t2] e1)] (fun b f=> .ok (.ret (.ref (a 0)))) (fun b f=>[(a 0,ab [.str (aj 47 p) t1,.str (aj 47 q) t2] (e0+2)),(a 4,ab [.str (aj 47 p) t1,.str (aj 47 q) t2] e1)])
theorem OH (b1 b2:Bool){w:WW}{aa:Heap}(B:BB w aa b1 b2)(e0 e1:Nat)(p q:LN)(t1 t2:Tok)(a:N2){frx:OE}:eP w aa b1 b2 2 frx true true (Lc e0 e1 p q t1 t2 a):=
 tX B aO.none (ol 0x2b2b234b4b445442c11baa1bb11aa1aaaabbb1111bb2333b4b4b456b6b667664c11baa1bb11aa1aaaabbb1111bb2555b6b6b678b8b889881 []) z2 z3 [6,9] 9 0
theorem jj:Slot "map" "__iter__" "map.__iter__":=
 .of (owner:="map") (n:="__iter__") (by rw[typeLookup_type,builtinLookup_eq_fast];kernel_rfl) (by decide+kernel) (by decide+kernel) (by decide+kernel)
  (by first|exact .inl (by decide+kernel)|exact .inr (by decide+kernel)) (by rw[isSubtype_type];kernel_rfl)
theorem mQ:entryFor table "map.__iter__"=some Builtin.«dict_keyiterator.__iter__»:=
 entryFor_alias (id':="dict_keyiterator.__iter__") (by kernel_rfl) rfl (by decide+kernel) (by kernel_rfl)
theorem nE (a:Value):argsOk "map.__iter__" ⟨[a],[]⟩:=by unfold argsOk;kernel_rfl
theorem sd:typeLookup (.type "map") "__len__"=pure none:=by rw[typeLookup_type,builtinLookup_eq_fast];kernel_rfl
theorem qR:typeLookup (.type "map") "__length_hint__"=pure none:=by rw[typeLookup_type,builtinLookup_eq_fast];kernel_rfl
theorem xB:typeLookup (.type "map") "__next__"=pure (some (.builtin "map.__next__")):=by rw[typeLookup_type,builtinLookup_eq_fast];kernel_rfl
section
variable {prog:Program}{w:WW}{aa:Heap}
noncomputable def uE (tp f:Nat):Obj:=⟨.type "map",none,.fields ⟨[.ref tp,.ref f]⟩,#[]⟩
theorem uF {lv:Nat}(l m tp f e:Nat){Z:Ow}{P:Result→Ow→Prop}(hN:d3 prog w aa lv (.builtin "list.extend.loop" ⟨[.ref l,.ref m,.ref l],[]⟩) ((l,ab [] (e+2))::(m,uE tp f)::Z) P):
  d3 prog w aa lv (.builtin "list.__iadd__" ⟨[.ref l,.ref m],[]⟩) ((l,ab [] e)::(m,uE tp f)::Z) P:=by
 intro A R Fr h g d os tok size hA hD kk;have hl:h.get? l=some (ab [] e):=hD.get (.head _) (fun _=>rfl);have hm:h.get? m=some (uE tp f):=hD.get (.tail _ (.head _)) (fun _=>rfl);have bq:l≠m:=fun hh=>by
  rw[hh,hm] at hl;injection hl with hl
  have:=congrArg Obj.cls hl;simp[uE,ab] at this
 have hT:Shared.TypeIs ⟨h,g,d,tok,os⟩ (.ref m) "map":=⟨_,hm,rfl⟩;refine dw F.entry_list_iadd ?_;rw[Around.under_plainId F.plain_list_iadd _];show wpAny _ A.in1 (Builtin.List.listExtendWith (.ref l) (.ref m) (.ref l)) _ _ _;unfold Builtin.List.listExtendWith;refine aw (wpAny_typeOf hT ?_);have h1:Builtin.List.listSameRef (.ref l) (.ref m)=false:=by simp[Builtin.List.listSameRef,bq]
 have h2:(Value.type "map"==Value.type "list")=false:=by decide
 have h3:(Value.type "map"==Value.type "tuple")=false:=by decide
 simp only[h1,h2,h3,Bool.or_false,Bool.false_eq_true,if_false];refine aw (wpAny_pyIter_slot hT jj (wpAny_call_entry jj hT mQ ?_ (nE _)));refine aG ⟨_,rfl,"map",_,hT,xB,?_⟩;refine aw (wpAny_holding ?_);unfold Builtin.List.listLengthHint;refine aw (wpAny_specialOf hT sd ?_);show wpAny _ A.in1 (specialOf (Value.ref m) (Str.ofString "__length_hint__")>>=_) _ _ _;refine aw (wpAny_specialOf hT qR ?_);refine aG ?_;show wpAny _ A.in1 (rule "list.extend.makes-room">>=fun _=>Builtin.List.listTouch (.ref l)>>=fun _=>
  again (.builtin "list.extend.loop" ⟨[.ref l,.ref m,.ref l],[]⟩)) _ _ _
 refine aw (wpAny_rule ?_);refine aw ?_;show wpAny _ A.in1 (updateSeq l (·.push .none)>>=fun _=>updateSeq l (·.pop)) _ _ _;refine aw (wpAny_updateSeq hl rfl ?_);have D0:Rp aa h ((l,ab [] e)::[]++((m,uE tp f)::(Z++Fr))) size:=hD;have D1:=D0.fC (f:=Obj.mapSeq (·.push Value.none)) (o':=ab [.none] (e+1)) (fun _=>rfl) (by simp[Obj.mapSeq,ab]) rfl;have OI:=D1.get (.head _) (fun _=>rfl);refine wpAny_updateSeq OI rfl ?_;have D2:=D1.fC (f:=Obj.mapSeq (·.pop)) (o':=ab [] (e+2)) (fun _=>rfl) (by simp[Obj.mapSeq,ab]) rfl;exact aG ⟨plainId_quiet F.plain_extend_loop _,hN A R Fr _ g d os tok size hA D2 kk⟩
end
section
variable {b1 b2:Bool}{w:WW}{aa:Heap}
def c4 (B:BB w aa b1 b2)(p q:LN)(t1 t2:Tok):gw w aa b1 b2:=
 dk 2 true true 0 none (fun _ rr=> .builtin "list.__iadd__" ⟨[.ref (adr rr 0),.ref (adr rr 1)],[]⟩) (fun _ _=>[])
  (fun _ rr=>[(adr rr 0,ab [] (aH rr 0)),(adr rr 1,uE (adr rr 2) 157),(adr rr 2,⟨.type "tuple",none,.seq ⟨[.ref (adr rr 3)]⟩ 0,#[]⟩),(adr rr 3,aq (adr rr 4) 0),(adr rr 4,ab [.str (aj 47 p) t1,.str (aj 47 q) t2] (aH rr 4))])
  (fun _ rr _ _=> .ok (.ret (.ref (adr rr 0)))) (fun _ _ _ _=>[]) (fun _ rr _ _=>[(adr rr 0,ab [.str (aj 47 p) t1,.str (aj 47 q) t2] (aH rr 0+2+2)),(adr rr 4,ab [.str (aj 47 p) t1,.str (aj 47 q) t2] (aH rr 4))])
  fun cc rr t x=>by
   let a:N2:=ix [adr rr 0,adr rr 1,adr rr 2,adr rr 3,adr rr 4];have z:=(OH b1 b2 B (aH rr 0+2) (aH rr 4) p q t1 t2 a (frx:=none) t x).t;exact(uF (adr rr 0) (adr rr 1) (adr rr 2) 157 (aH rr 0) z).f
end
def HM (w0:WW)(t1 t2:Tok)(e1:Nat)(p:LN)(a:N2):SX Code Result:=sC (.call (.ref 197) ⟨[.ref (a 0)],[]⟩) [] [(a 0,ab [.str (aj 47 p) t1,.str (aj 47 p) t2] e1)] (fun b f=> .ok (.ret (.str (aj 47 p) (b 1000))))
theorem Ld (b1 b2:Bool){w:WW}{aa:Heap}(B:Base (wd (so w false) b1 b2) aa (dF (wd (so w false) b1 b2)))(w0:WW)(t1 t2:Tok)(e1:Nat)(p:LN)(a:N2)(hp:p≠[])(e9:∀ d∈p,d<5)(ee:p.length≤100)(nF:(0+(S [47]).length≤(aj 47 p).length&&PySem.Builtin.Str.subAt (aj 47 p) (S [47]) 0)=false)(iG:dC p p=false)(i4:dC p p=false){frx:OE}:TX pw (wd (so w false) b1 b2) aa 3 frx true true (HM w0 t1 t2 e1 p a):=
 tX B aO.none (ow 0x33baaaaa3bbbb44b4b111b1b1bbbb1b (.u [0,0,0,0,3] (c4 B p p t1 t2)::(ow (cond b2 0x111b1b166611b1b1b1aa6111b1b1aabbbbbbbb5544611b1b1bb3b3b334331118 0x111b1b166611b1b1b1aa6111b1b1aabbbbbbbb5544611b1b1b33b3b3b3b3b334331118) (.ud [] (bX p hp e9 ee) (fun u1=>(ow 0xb3b333b4b4b445442229 (.ud [] (bX p hp e9 ee) (fun u2=>(ow (cond b2 0xb4b444b5b5b5565514f4f5554f88b8b1bb3b3b332f331116f 0xb4b444b5b5b5565514f4f5554f88b8b1b33b3b3b3b3b332f331116f) (.u [] (bC (aj 47 p) (S [47]) false nF)::(ow 0xb2bbb222b3b3b332f331116f (.u [] (bC (aj 47 p) (S [47]) false nF)::(ow (cond b2 0xb2bbb22b3b3b332f331333444b4b44411b1b15511111b1b155111cfcfcf5f5fb5fb1bb3b3b338f331116f6fb6fb1 0xb2bbb22b3b3b332f331333444b4b44411b1b15511111b1b155111cfcfcf5f5fb5fb1b33b3b3b3b3b338f331116f6fb6fb1) (.ud [0,1,0,14,20] (gH B w0 p hp e9 ((u1.u).f 0) ee) (fun u8=>(ow 0x111b6b666b7b7b77bf775559f9fb9fb1 (.ud [0,1,0,17,3] (gH B w0 p hp e9 ((u2.u).f 0) ee) (fun m5=>(ow 0x111b9b999b1fb1fb1f1fdf1f1f11d01d01f1f1faa1d0bb2f2fb2fb1b12b2b224f22111 (.u [1,11,0,7,3] (jh B p p ((u8.u).f 0) ((m5.u).f 0) false iG)::(ow 0x1d01d0aa1d0bb11b1b1b12b2b22322111 (.u [1,1,0,0,0] (ji B p p ((u8.u).f 0) ((m5.u).f 0) false i4)::(ow 0x1d01d01d01d01d0aa1d0bbb (.u [1] (dD (ag (p.map ao) ((u8.u).f 0)))::(ow 0x11b1b111b1b1 (.u [31,0,0,0,24,0] (HL B w0 p ee hp ((u8.u).f 0))::(ow 0x11d0bb11112221e02 (.u [2] (hM 47 p ee ((u8.u).f 0))::(ow 0xbb []))))))))))))::[])))::[])))))))::[])))::[])))) (cond b2 (fe [(285,0)]) (fe [(297,0)])) z3 [29] 30 0
def HN (w0:WW)(t1 t2:Tok)(e1:Nat)(p q:LN)(a:N2):SX Code Result:=sC (.call (.ref 197) ⟨[.ref (a 0)],[]⟩) [] [(a 0,ab [.str (aj 47 p) t1,.str (aj 47 q) t2] e1)] (fun b f=> .ok (.ret (.str (aj 47 p) (b 1000))))
theorem Le (b1 b2:Bool){w:WW}{aa:Heap}(B:Base (wd (so w false) b1 b2) aa (dF (wd (so w false) b1 b2)))(w0:WW)(t1 t2:Tok)(e1:Nat)(p q:LN)(a:N2)(hp:p≠[])(e9:∀ d∈p,d<5)(ee:p.length≤100)(nF:(0+(S [47]).length≤(aj 47 p).length&&PySem.Builtin.Str.subAt (aj 47 p) (S [47]) 0)=false)(hq:q≠[])(j7:∀ d∈q,d<5)(ic:q.length≤100)(sf:(0+(S [47]).length≤(aj 47 q).length&&PySem.Builtin.Str.subAt (aj 47 q) (S [47]) 0)=false)(iG:dC q p=false)(i4:dC p q=true)(eg:p<+:q){frx:OE}:TX pw (wd (so w false) b1 b2) aa 3 frx true true (HN w0 t1 t2 e1 p q a):=
 tX B aO.none (ow 0x33baaaaa3bbbb44b4b111b1b1bbbb1b (.u [0,0,0,0,3] (c4 B p q t1 t2)::(ow (cond b2 0x111b1b166611b1b1b1aa6111b1b1aabbbbbbbb5544611b1b1bb3b3b334331118 0x111b1b166611b1b1b1aa6111b1b1aabbbbbbbb5544611b1b1b33b3b3b3b3b334331118) (.ud [] (bX p hp e9 ee) (fun u1=>(ow 0xb3b333b4b4b445442229 (.ud [] (bX q hq j7 ic) (fun u2=>(ow (cond b2 0xb4b444b5b5b5565514f4f5554f88b8b1bb3b3b332f331116f 0xb4b444b5b5b5565514f4f5554f88b8b1b33b3b3b3b3b332f331116f) (.u [] (bC (aj 47 p) (S [47]) false nF)::(ow 0xb2bbb222b3b3b332f331116f (.u [] (bC (aj 47 q) (S [47]) false sf)::(ow (cond b2 0xb2bbb22b3b3b332f331333444b4b44411b1b15511111b1b155111cfcfcf5f5fb5fb1bb3b3b338f331116f6fb6fb1 0xb2bbb22b3b3b332f331333444b4b44411b1b15511111b1b155111cfcfcf5f5fb5fb1b33b3b3b3b3b338f331116f6fb6fb1) (.ud [0,1,0,14,20] (gH B w0 p hp e9 ((u1.u).f 0) ee) (fun u8=>(ow 0x111b6b666b7b7b77bf775559f9fb9fb1 (.ud [0,1,0,17,3] (gH B w0 q hq j7 ((u2.u).f 0) ic) (fun m5=>(ow 0x111b9b999b1fb1fb1f1fdf1f1f11d01d01f1f1faa1d0bb2f2fb2fb1b12b2b224f22111 (.u [1,11,0,7,3] (jh B p q ((u8.u).f 0) ((m5.u).f 0) false iG)::(ow 0x1d01d0aa1d0bb11b1b1b12b2b22322111 (.u [1,1,0,0,0] (ji B p q ((u8.u).f 0) ((m5.u).f 0) true i4)::(ow 0x1d01d01d01d01d0aa1d0bbb (.u [1] (dD (ag (p.map ao) ((u8.u).f 0)))::(ow 0x11b1b111b1b1 (.u [31,0,0,0,1,23,0] (lK B w0 p q ee ic hp eg ((u8.u).f 0) ((m5.u).f 0))::(ow 0x11d0bb11112221e02 (.u [2] (hM 47 p ee ((u8.u).f 0))::(ow 0xbb []))))))))))))::[])))::[])))))))::[])))::[])))) (cond b2 (fe [(285,0)]) (fe [(297,0)])) z3 [29] 30 0
def HO (w0:WW)(t1 t2:Tok)(e1:Nat)(p q:LN)(k:Nat)(a:N2):SX Code Result:=sC (.call (.ref 197) ⟨[.ref (a 0)],[]⟩) [] [(a 0,ab [.str (aj 47 p) t1,.str (aj 47 q) t2] e1)] (fun b f=> .ok (.ret (.str (aj 47 (p.take k)) (b 1000))))
theorem Lf (b1 b2:Bool){w:WW}{aa:Heap}(B:Base (wd (so w false) b1 b2) aa (dF (wd (so w false) b1 b2)))(w0:WW)(t1 t2:Tok)(e1:Nat)(p q:LN)(k:Nat)(a:N2)(hp:p≠[])(e9:∀ d∈p,d<5)(ee:p.length≤100)(nF:(0+(S [47]).length≤(aj 47 p).length&&PySem.Builtin.Str.subAt (aj 47 p) (S [47]) 0)=false)(hq:q≠[])(j7:∀ d∈q,d<5)(ic:q.length≤100)(sf:(0+(S [47]).length≤(aj 47 q).length&&PySem.Builtin.Str.subAt (aj 47 q) (S [47]) 0)=false)(iG:dC q p=false)(i4:dC p q=true)(xx:k<p.length)(uy:k<q.length)(Dr:p[k]≠q[k])(Ds:∀ i (h:i<k),p[i]=q[i])(hl:(p.take k).length≤100){frx:OE}:TX pw (wd (so w false) b1 b2) aa 3 frx true true (HO w0 t1 t2 e1 p q k a):=
 tX B aO.none (ow 0x33baaaaa3bbbb44b4b111b1b1bbbb1b (.u [0,0,0,0,3] (c4 B p q t1 t2)::(ow (cond b2 0x111b1b166611b1b1b1aa6111b1b1aabbbbbbbb5544611b1b1bb3b3b334331118 0x111b1b166611b1b1b1aa6111b1b1aabbbbbbbb5544611b1b1b33b3b3b3b3b334331118) (.ud [] (bX p hp e9 ee) (fun u1=>(ow 0xb3b333b4b4b445442229 (.ud [] (bX q hq j7 ic) (fun u2=>(ow (cond b2 0xb4b444b5b5b5565514f4f5554f88b8b1bb3b3b332f331116f 0xb4b444b5b5b5565514f4f5554f88b8b1b33b3b3b3b3b332f331116f) (.u [] (bC (aj 47 p) (S [47]) false nF)::(ow 0xb2bbb222b3b3b332f331116f (.u [] (bC (aj 47 q) (S [47]) false sf)::(ow (cond b2 0xb2bbb22b3b3b332f331333444b4b44411b1b15511111b1b155111cfcfcf5f5fb5fb1bb3b3b338f331116f6fb6fb1 0xb2bbb22b3b3b332f331333444b4b44411b1b15511111b1b155111cfcfcf5f5fb5fb1b33b3b3b3b3b338f331116f6fb6fb1) (.ud [0,1,0,14,20] (gH B w0 p hp e9 ((u1.u).f 0) ee) (fun u8=>(ow 0x111b6b666b7b7b77bf775559f9fb9fb1 (.ud [0,1,0,17,3] (gH B w0 q hq j7 ((u2.u).f 0) ic) (fun m5=>(ow 0x111b9b999b1fb1fb1f1fdf1f1f11d01d01f1f1faa1d0bb2f2fb2fb1b12b2b224f22111 (.u [1,11,0,7,3] (jh B p q ((u8.u).f 0) ((m5.u).f 0) false iG)::(ow 0x1d01d0aa1d0bb11b1b1b12b2b22322111 (.u [1,1,0,0,0] (ji B p q ((u8.u).f 0) ((m5.u).f 0) true i4)::(ow 0x1d01d01d01d01d0aa1d0bbb (.u [1] (dD (ag (p.map ao) ((u8.u).f 0)))::(ow 0x11b1b111b1b1 (.u [31,0,0,0,1,23,0] (lL B w0 p q ee ic k xx uy Dr Ds ((u8.u).f 0) ((m5.u).f 0))::(ow 0x11e0bb11112221f02 (.u [2] (hM 47 (p.take k) hl ((u8.u).f 0))::(ow 0xbb []))))))))))))::[])))::[])))))))::[])))::[])))) (cond b2 (fe [(285,0)]) (fe [(297,0)])) z3 [30] 31 0
def HP (w0:WW)(t1 t2:Tok)(e1:Nat)(p q:LN)(a:N2):SX Code Result:=sC (.call (.ref 197) ⟨[.ref (a 0)],[]⟩) [] [(a 0,ab [.str (aj 47 p) t1,.str (aj 47 q) t2] e1)] (fun b f=> .ok (.ret (.str (aj 47 q) (b 1000))))
theorem Lg (b1 b2:Bool){w:WW}{aa:Heap}(B:Base (wd (so w false) b1 b2) aa (dF (wd (so w false) b1 b2)))(w0:WW)(t1 t2:Tok)(e1:Nat)(p q:LN)(a:N2)(hp:p≠[])(e9:∀ d∈p,d<5)(ee:p.length≤100)(nF:(0+(S [47]).length≤(aj 47 p).length&&PySem.Builtin.Str.subAt (aj 47 p) (S [47]) 0)=false)(hq:q≠[])(j7:∀ d∈q,d<5)(ic:q.length≤100)(sf:(0+(S [47]).length≤(aj 47 q).length&&PySem.Builtin.Str.subAt (aj 47 q) (S [47]) 0)=false)(iG:dC q p=true)(i4:dC p q=false)(eg:q<+:p){frx:OE}:TX pw (wd (so w false) b1 b2) aa 3 frx true true (HP w0 t1 t2 e1 p q a):=
 tX B aO.none (ow 0x33baaaaa3bbbb44b4b111b1b1bbbb1b (.u [0,0,0,0,3] (c4 B p q t1 t2)::(ow (cond b2 0x111b1b166611b1b1b1aa6111b1b1aabbbbbbbb5544611b1b1bb3b3b334331118 0x111b1b166611b1b1b1aa6111b1b1aabbbbbbbb5544611b1b1b33b3b3b3b3b334331118) (.ud [] (bX p hp e9 ee) (fun u1=>(ow 0xb3b333b4b4b445442229 (.ud [] (bX q hq j7 ic) (fun u2=>(ow (cond b2 0xb4b444b5b5b5565514f4f5554f88b8b1bb3b3b332f331116f 0xb4b444b5b5b5565514f4f5554f88b8b1b33b3b3b3b3b332f331116f) (.u [] (bC (aj 47 p) (S [47]) false nF)::(ow 0xb2bbb222b3b3b332f331116f (.u [] (bC (aj 47 q) (S [47]) false sf)::(ow (cond b2 0xb2bbb22b3b3b332f331333444b4b44411b1b15511111b1b155111cfcfcf5f5fb5fb1bb3b3b338f331116f6fb6fb1 0xb2bbb22b3b3b332f331333444b4b44411b1b15511111b1b155111cfcfcf5f5fb5fb1b33b3b3b3b3b338f331116f6fb6fb1) (.ud [0,1,0,14,20] (gH B w0 p hp e9 ((u1.u).f 0) ee) (fun u8=>(ow 0x111b6b666b7b7b77bf775559f9fb9fb1 (.ud [0,1,0,17,3] (gH B w0 q hq j7 ((u2.u).f 0) ic) (fun m5=>(ow 0x111b9b999b1fb1fb1f1fdf1f1f11d01d01f1f1faa1d0bb2f2fb2fb1b12b2b224f22111 (.u [1,11,0,7,3] (jh B p q ((u8.u).f 0) ((m5.u).f 0) true iG)::(ow 0x1d01d0aa1d0bb11b1b1b12b2b22322111 (.u [1,1,0,0,0] (ji B p q ((u8.u).f 0) ((m5.u).f 0) false i4)::(ow 0x1d01d01d01d01d0aa1d0bbb (.u [2] (dD (ag (q.map ao) ((m5.u).f 0)))::(ow 0x11b1b111b1b1 (.u [31,0,0,0,1,23,0] (lK B w0 q p ic ee hq eg ((m5.u).f 0) ((u8.u).f 0))::(ow 0x11d0bb11112221e02 (.u [2] (hM 47 q ic ((m5.u).f 0))::(ow 0xbb []))))))))))))::[])))::[])))))))::[])))::[])))) (cond b2 (fe [(285,0)]) (fe [(297,0)])) z3 [29] 30 0
def HQ (w0:WW)(t1 t2:Tok)(e1:Nat)(p q:LN)(k:Nat)(a:N2):SX Code Result:=sC (.call (.ref 197) ⟨[.ref (a 0)],[]⟩) [] [(a 0,ab [.str (aj 47 p) t1,.str (aj 47 q) t2] e1)] (fun b f=> .ok (.ret (.str (aj 47 (q.take k)) (b 1000))))
theorem Lh (b1 b2:Bool){w:WW}{aa:Heap}(B:Base (wd (so w false) b1 b2) aa (dF (wd (so w false) b1 b2)))(w0:WW)(t1 t2:Tok)(e1:Nat)(p q:LN)(k:Nat)(a:N2)(hp:p≠[])(e9:∀ d∈p,d<5)(ee:p.length≤100)(nF:(0+(S [47]).length≤(aj 47 p).length&&PySem.Builtin.Str.subAt (aj 47 p) (S [47]) 0)=false)(hq:q≠[])(j7:∀ d∈q,d<5)(ic:q.length≤100)(sf:(0+(S [47]).length≤(aj 47 q).length&&PySem.Builtin.Str.subAt (aj 47 q) (S [47]) 0)=false)(iG:dC q p=true)(i4:dC p q=false)(xx:k<q.length)(uy:k<p.length)(Dr:q[k]≠p[k])(Ds:∀ i (h:i<k),q[i]=p[i])(hl:(q.take k).length≤100){frx:OE}:TX pw (wd (so w false) b1 b2) aa 3 frx true true (HQ w0 t1 t2 e1 p q k a):=
 tX B aO.none (ow 0x33baaaaa3bbbb44b4b111b1b1bbbb1b (.u [0,0,0,0,3] (c4 B p q t1 t2)::(ow (cond b2 0x111b1b166611b1b1b1aa6111b1b1aabbbbbbbb5544611b1b1bb3b3b334331118 0x111b1b166611b1b1b1aa6111b1b1aabbbbbbbb5544611b1b1b33b3b3b3b3b334331118) (.ud [] (bX p hp e9 ee) (fun u1=>(ow 0xb3b333b4b4b445442229 (.ud [] (bX q hq j7 ic) (fun u2=>(ow (cond b2 0xb4b444b5b5b5565514f4f5554f88b8b1bb3b3b332f331116f 0xb4b444b5b5b5565514f4f5554f88b8b1b33b3b3b3b3b332f331116f) (.u [] (bC (aj 47 p) (S [47]) false nF)::(ow 0xb2bbb222b3b3b332f331116f (.u [] (bC (aj 47 q) (S [47]) false sf)::(ow (cond b2 0xb2bbb22b3b3b332f331333444b4b44411b1b15511111b1b155111cfcfcf5f5fb5fb1bb3b3b338f331116f6fb6fb1 0xb2bbb22b3b3b332f331333444b4b44411b1b15511111b1b155111cfcfcf5f5fb5fb1b33b3b3b3b3b338f331116f6fb6fb1) (.ud [0,1,0,14,20] (gH B w0 p hp e9 ((u1.u).f 0) ee) (fun u8=>(ow 0x111b6b666b7b7b77bf775559f9fb9fb1 (.ud [0,1,0,17,3] (gH B w0 q hq j7 ((u2.u).f 0) ic) (fun m5=>(ow 0x111b9b999b1fb1fb1f1fdf1f1f11d01d01f1f1faa1d0bb2f2fb2fb1b12b2b224f22111 (.u [1,11,0,7,3] (jh B p q ((u8.u).f 0) ((m5.u).f 0) true iG)::(ow 0x1d01d0aa1d0bb11b1b1b12b2b22322111 (.u [1,1,0,0,0] (ji B p q ((u8.u).f 0) ((m5.u).f 0) false i4)::(ow 0x1d01d01d01d01d0aa1d0bbb (.u [2] (dD (ag (q.map ao) ((m5.u).f 0)))::(ow 0x11b1b111b1b1 (.u [31,0,0,0,1,23,0] (lL B w0 q p ic ee k xx uy Dr Ds ((m5.u).f 0) ((u8.u).f 0))::(ow 0x11e0bb11112221f02 (.u [2] (hM 47 (q.take k) hl ((m5.u).f 0))::(ow 0xbb []))))))))))))::[])))::[])))))))::[])))::[])))) (cond b2 (fe [(285,0)]) (fe [(297,0)])) z3 [30] 31 0
def HR (w0:WW)(t1 t2:Tok)(e1:Nat)(p:LN)(a:N2):SX Code Result:=sC (.call (.ref 197) ⟨[.ref (a 0)],[]⟩) [] [(a 0,ab [.str (aj 47 p) t1,.str (aj 47 p) t2] e1)] (fun b f=> .ok (.ret (.str (aj 47 p) (b 1000))))
theorem Li (b1 b2:Bool){w:WW}{aa:Heap}(B:Base (wd (so w true) b1 b2) aa (dF (wd (so w true) b1 b2)))(w0:WW)(t1 t2:Tok)(e1:Nat)(p:LN)(a:N2)(hp:p≠[])(e9:∀ d∈p,d<5)(ee:p.length≤100)(nF:(0+(S [47]).length≤(aj 47 p).length&&PySem.Builtin.Str.subAt (aj 47 p) (S [47]) 0)=false)(iG:dC p p=false)(i4:dC p p=false){frx:OE}:TX pw (wd (so w true) b1 b2) aa 3 frx true true (HR w0 t1 t2 e1 p a):=
 tX B aO.none (ow 0x33baaaaa3bbbb44b4b111b1b1bbbb1b (.u [0,0,0,0,3] (c4 B p p t1 t2)::(ow (cond b2 0x111b1b166611b1b1b1aa6111b1b1aabbbbbbbb5544611b1b1bb3b3b334331118 0x111b1b166611b1b1b1aa6111b1b1aabbbbbbbb5544611b1b1b33b3b3b3b3b334331118) (.ud [] (bX p hp e9 ee) (fun u1=>(ow 0xb3b333b4b4b445442229 (.ud [] (bX p hp e9 ee) (fun u2=>(ow (cond b2 0xb4b444b5b5b5565514f4f5554f88b8b1bb3b3b332f331116f 0xb4b444b5b5b5565514f4f5554f88b8b1b33b3b3b3b3b332f331116f) (.u [] (bC (aj 47 p) (S [47]) false nF)::(ow 0xb2bbb222b3b3b332f331116f (.u [] (bC (aj 47 p) (S [47]) false nF)::(ow 0xb2bbb22b3b3b332f331333444b4b44411b1 (.u [0,3] (iQ (gf w b1 b2))::(ow 0x1b1 (.u [0,0] (eL (gf w b1 b2))::(ow (cond b2 0x1bfbfbf4f4fb4fb1bb3b3b337f331115f5fb5fb1 0x1bfbfbf4f4fb4fb1b33b3b3b3b3b337f331115f5fb5fb1) (.ud [0,1,0,13,19] (gH B w0 p hp e9 ((u1.u).f 0) ee) (fun u9=>(ow 0x111b6b666b7b7b77af775558f8fb8fb1 (.ud [0,1,0,16,3] (gH B w0 p hp e9 ((u2.u).f 0) ee) (fun m6=>(ow 0x111b9b999b1fb1fb1f1fcf1f1f11c01c01f1f1faa1c0bb2f2fb2fb1b12b2b224f22111 (.u [1,11,0,7,3] (jh B p p ((u9.u).f 0) ((m6.u).f 0) false iG)::(ow 0x1c01c0aa1c0bb11b1b1b12b2b22322111 (.u [1,1,0,0,0] (ji B p p ((u9.u).f 0) ((m6.u).f 0) false i4)::(ow 0x1c01c01c01c01c0aa1c0bbb (.u [1] (dD (ag (p.map ao) ((u9.u).f 0)))::(ow 0x11b1b111b1b1 (.u [30,0,0,0,23,0] (HL B w0 p ee hp ((u9.u).f 0))::(ow 0x11c0bb11112221d02 (.u [2] (hM 47 p ee ((u9.u).f 0))::(ow 0xbb []))))))))))))::[])))::[])))))))))))::[])))::[])))) (cond b2 (fe [(275,0)]) (fe [(287,0)])) z3 [28] 29 0
def HS (w0:WW)(t1 t2:Tok)(e1:Nat)(p q:LN)(a:N2):SX Code Result:=sC (.call (.ref 197) ⟨[.ref (a 0)],[]⟩) [] [(a 0,ab [.str (aj 47 p) t1,.str (aj 47 q) t2] e1)] (fun b f=> .ok (.ret (.str (aj 47 p) (b 1000))))
theorem Lj (b1 b2:Bool){w:WW}{aa:Heap}(B:Base (wd (so w true) b1 b2) aa (dF (wd (so w true) b1 b2)))(w0:WW)(t1 t2:Tok)(e1:Nat)(p q:LN)(a:N2)(hp:p≠[])(e9:∀ d∈p,d<5)(ee:p.length≤100)(nF:(0+(S [47]).length≤(aj 47 p).length&&PySem.Builtin.Str.subAt (aj 47 p) (S [47]) 0)=false)(hq:q≠[])(j7:∀ d∈q,d<5)(ic:q.length≤100)(sf:(0+(S [47]).length≤(aj 47 q).length&&PySem.Builtin.Str.subAt (aj 47 q) (S [47]) 0)=false)(iG:dC q p=false)(i4:dC p q=true)(eg:p<+:q){frx:OE}:TX pw (wd (so w true) b1 b2) aa 3 frx true true (HS w0 t1 t2 e1 p q a):=
 tX B aO.none (ow 0x33baaaaa3bbbb44b4b111b1b1bbbb1b (.u [0,0,0,0,3] (c4 B p q t1 t2)::(ow (cond b2 0x111b1b166611b1b1b1aa6111b1b1aabbbbbbbb5544611b1b1bb3b3b334331118 0x111b1b166611b1b1b1aa6111b1b1aabbbbbbbb5544611b1b1b33b3b3b3b3b334331118) (.ud [] (bX p hp e9 ee) (fun u1=>(ow 0xb3b333b4b4b445442229 (.ud [] (bX q hq j7 ic) (fun u2=>(ow (cond b2 0xb4b444b5b5b5565514f4f5554f88b8b1bb3b3b332f331116f 0xb4b444b5b5b5565514f4f5554f88b8b1b33b3b3b3b3b332f331116f) (.u [] (bC (aj 47 p) (S [47]) false nF)::(ow 0xb2bbb222b3b3b332f331116f (.u [] (bC (aj 47 q) (S [47]) false sf)::(ow 0xb2bbb22b3b3b332f331333444b4b44411b1 (.u [0,3] (iQ (gf w b1 b2))::(ow 0x1b1 (.u [0,0] (eL (gf w b1 b2))::(ow (cond b2 0x1bfbfbf4f4fb4fb1bb3b3b337f331115f5fb5fb1 0x1bfbfbf4f4fb4fb1b33b3b3b3b3b337f331115f5fb5fb1) (.ud [0,1,0,13,19] (gH B w0 p hp e9 ((u1.u).f 0) ee) (fun u9=>(ow 0x111b6b666b7b7b77af775558f8fb8fb1 (.ud [0,1,0,16,3] (gH B w0 q hq j7 ((u2.u).f 0) ic) (fun m6=>(ow 0x111b9b999b1fb1fb1f1fcf1f1f11c01c01f1f1faa1c0bb2f2fb2fb1b12b2b224f22111 (.u [1,11,0,7,3] (jh B p q ((u9.u).f 0) ((m6.u).f 0) false iG)::(ow 0x1c01c0aa1c0bb11b1b1b12b2b22322111 (.u [1,1,0,0,0] (ji B p q ((u9.u).f 0) ((m6.u).f 0) true i4)::(ow 0x1c01c01c01c01c0aa1c0bbb (.u [1] (dD (ag (p.map ao) ((u9.u).f 0)))::(ow 0x11b1b111b1b1 (.u [30,0,0,0,1,22,0] (lK B w0 p q ee ic hp eg ((u9.u).f 0) ((m6.u).f 0))::(ow 0x11c0bb11112221d02 (.u [2] (hM 47 p ee ((u9.u).f 0))::(ow 0xbb []))))))))))))::[])))::[])))))))))))::[])))::[])))) (cond b2 (fe [(275,0)]) (fe [(287,0)])) z3 [28] 29 0
def HT (w0:WW)(t1 t2:Tok)(e1:Nat)(p q:LN)(k:Nat)(a:N2):SX Code Result:=sC (.call (.ref 197) ⟨[.ref (a 0)],[]⟩) [] [(a 0,ab [.str (aj 47 p) t1,.str (aj 47 q) t2] e1)] (fun b f=> .ok (.ret (.str (aj 47 (p.take k)) (b 1000))))
theorem Lk (b1 b2:Bool){w:WW}{aa:Heap}(B:Base (wd (so w true) b1 b2) aa (dF (wd (so w true) b1 b2)))(w0:WW)(t1 t2:Tok)(e1:Nat)(p q:LN)(k:Nat)(a:N2)(hp:p≠[])(e9:∀ d∈p,d<5)(ee:p.length≤100)(nF:(0+(S [47]).length≤(aj 47 p).length&&PySem.Builtin.Str.subAt (aj 47 p) (S [47]) 0)=false)(hq:q≠[])(j7:∀ d∈q,d<5)(ic:q.length≤100)(sf:(0+(S [47]).length≤(aj 47 q).length&&PySem.Builtin.Str.subAt (aj 47 q) (S [47]) 0)=false)(iG:dC q p=false)(i4:dC p q=true)(xx:k<p.length)(uy:k<q.length)(Dr:p[k]≠q[k])(Ds:∀ i (h:i<k),p[i]=q[i])(hl:(p.take k).length≤100){frx:OE}:TX pw (wd (so w true) b1 b2) aa 3 frx true true (HT w0 t1 t2 e1 p q k a):=
 tX B aO.none (ow 0x33baaaaa3bbbb44b4b111b1b1bbbb1b (.u [0,0,0,0,3] (c4 B p q t1 t2)::(ow (cond b2 0x111b1b166611b1b1b1aa6111b1b1aabbbbbbbb5544611b1b1bb3b3b334331118 0x111b1b166611b1b1b1aa6111b1b1aabbbbbbbb5544611b1b1b33b3b3b3b3b334331118) (.ud [] (bX p hp e9 ee) (fun u1=>(ow 0xb3b333b4b4b445442229 (.ud [] (bX q hq j7 ic) (fun u2=>(ow (cond b2 0xb4b444b5b5b5565514f4f5554f88b8b1bb3b3b332f331116f 0xb4b444b5b5b5565514f4f5554f88b8b1b33b3b3b3b3b332f331116f) (.u [] (bC (aj 47 p) (S [47]) false nF)::(ow 0xb2bbb222b3b3b332f331116f (.u [] (bC (aj 47 q) (S [47]) false sf)::(ow 0xb2bbb22b3b3b332f331333444b4b44411b1 (.u [0,3] (iQ (gf w b1 b2))::(ow 0x1b1 (.u [0,0] (eL (gf w b1 b2))::(ow (cond b2 0x1bfbfbf4f4fb4fb1bb3b3b337f331115f5fb5fb1 0x1bfbfbf4f4fb4fb1b33b3b3b3b3b337f331115f5fb5fb1) (.ud [0,1,0,13,19] (gH B w0 p hp e9 ((u1.u).f 0) ee) (fun u9=>(ow 0x111b6b666b7b7b77af775558f8fb8fb1 (.ud [0,1,0,16,3] (gH B w0 q hq j7 ((u2.u).f 0) ic) (fun m6=>(ow 0x111b9b999b1fb1fb1f1fcf1f1f11c01c01f1f1faa1c0bb2f2fb2fb1b12b2b224f22111 (.u [1,11,0,7,3] (jh B p q ((u9.u).f 0) ((m6.u).f 0) false iG)::(ow 0x1c01c0aa1c0bb11b1b1b12b2b22322111 (.u [1,1,0,0,0] (ji B p q ((u9.u).f 0) ((m6.u).f 0) true i4)::(ow 0x1c01c01c01c01c0aa1c0bbb (.u [1] (dD (ag (p.map ao) ((u9.u).f 0)))::(ow 0x11b1b111b1b1 (.u [30,0,0,0,1,22,0] (lL B w0 p q ee ic k xx uy Dr Ds ((u9.u).f 0) ((m6.u).f 0))::(ow 0x11d0bb11112221e02 (.u [2] (hM 47 (p.take k) hl ((u9.u).f 0))::(ow 0xbb []))))))))))))::[])))::[])))))))))))::[])))::[])))) (cond b2 (fe [(275,0)]) (fe [(287,0)])) z3 [29] 30 0
def HU (w0:WW)(t1 t2:Tok)(e1:Nat)(p q:LN)(a:N2):SX Code Result:=sC (.call (.ref 197) ⟨[.ref (a 0)],[]⟩) [] [(a 0,ab [.str (aj 47 p) t1,.str (aj 47 q) t2] e1)] (fun b f=> .ok (.ret (.str (aj 47 q) (b 1000))))
theorem Ll (b1 b2:Bool){w:WW}{aa:Heap}(B:Base (wd (so w true) b1 b2) aa (dF (wd (so w true) b1 b2)))(w0:WW)(t1 t2:Tok)(e1:Nat)(p q:LN)(a:N2)(hp:p≠[])(e9:∀ d∈p,d<5)(ee:p.length≤100)(nF:(0+(S [47]).length≤(aj 47 p).length&&PySem.Builtin.Str.subAt (aj 47 p) (S [47]) 0)=false)(hq:q≠[])(j7:∀ d∈q,d<5)(ic:q.length≤100)(sf:(0+(S [47]).length≤(aj 47 q).length&&PySem.Builtin.Str.subAt (aj 47 q) (S [47]) 0)=false)(iG:dC q p=true)(i4:dC p q=false)(eg:q<+:p){frx:OE}:TX pw (wd (so w true) b1 b2) aa 3 frx true true (HU w0 t1 t2 e1 p q a):=
 tX B aO.none (ow 0x33baaaaa3bbbb44b4b111b1b1bbbb1b (.u [0,0,0,0,3] (c4 B p q t1 t2)::(ow (cond b2 0x111b1b166611b1b1b1aa6111b1b1aabbbbbbbb5544611b1b1bb3b3b334331118 0x111b1b166611b1b1b1aa6111b1b1aabbbbbbbb5544611b1b1b33b3b3b3b3b334331118) (.ud [] (bX p hp e9 ee) (fun u1=>(ow 0xb3b333b4b4b445442229 (.ud [] (bX q hq j7 ic) (fun u2=>(ow (cond b2 0xb4b444b5b5b5565514f4f5554f88b8b1bb3b3b332f331116f 0xb4b444b5b5b5565514f4f5554f88b8b1b33b3b3b3b3b332f331116f) (.u [] (bC (aj 47 p) (S [47]) false nF)::(ow 0xb2bbb222b3b3b332f331116f (.u [] (bC (aj 47 q) (S [47]) false sf)::(ow 0xb2bbb22b3b3b332f331333444b4b44411b1 (.u [0,3] (iQ (gf w b1 b2))::(ow 0x1b1 (.u [0,0] (eL (gf w b1 b2))::(ow (cond b2 0x1bfbfbf4f4fb4fb1bb3b3b337f331115f5fb5fb1 0x1bfbfbf4f4fb4fb1b33b3b3b3b3b337f331115f5fb5fb1) (.ud [0,1,0,13,19] (gH B w0 p hp e9 ((u1.u).f 0) ee) (fun u9=>(ow 0x111b6b666b7b7b77af775558f8fb8fb1 (.ud [0,1,0,16,3] (gH B w0 q hq j7 ((u2.u).f 0) ic) (fun m6=>(ow 0x111b9b999b1fb1fb1f1fcf1f1f11c01c01f1f1faa1c0bb2f2fb2fb1b12b2b224f22111 (.u [1,11,0,7,3] (jh B p q ((u9.u).f 0) ((m6.u).f 0) true iG)::(ow 0x1c01c0aa1c0bb11b1b1b12b2b22322111 (.u [1,1,0,0,0] (ji B p q ((u9.u).f 0) ((m6.u).f 0) false i4)::(ow 0x1c01c01c01c01c0aa1c0bbb (.u [2] (dD (ag (q.map ao) ((m6.u).f 0)))::(ow 0x11b1b111b1b1 (.u [30,0,0,0,1,22,0] (lK B w0 q p ic ee hq eg ((m6.u).f 0) ((u9.u).f 0))::(ow 0x11c0bb11112221d02 (.u [2] (hM 47 q ic ((m6.u).f 0))::(ow 0xbb []))))))))))))::[])))::[])))))))))))::[])))::[])))) (cond b2 (fe [(275,0)]) (fe [(287,0)])) z3 [28] 29 0
def HV (w0:WW)(t1 t2:Tok)(e1:Nat)(p q:LN)(k:Nat)(a:N2):SX Code Result:=sC (.call (.ref 197) ⟨[.ref (a 0)],[]⟩) [] [(a 0,ab [.str (aj 47 p) t1,.str (aj 47 q) t2] e1)] (fun b f=> .ok (.ret (.str (aj 47 (q.take k)) (b 1000))))
theorem Lm (b1 b2:Bool){w:WW}{aa:Heap}(B:Base (wd (so w true) b1 b2) aa (dF (wd (so w true) b1 b2)))(w0:WW)(t1 t2:Tok)(e1:Nat)(p q:LN)(k:Nat)(a:N2)(hp:p≠[])(e9:∀ d∈p,d<5)(ee:p.length≤100)(nF:(0+(S [47]).length≤(aj 47 p).length&&PySem.Builtin.Str.subAt (aj 47 p) (S [47]) 0)=false)(hq:q≠[])(j7:∀ d∈q,d<5)(ic:q.length≤100)(sf:(0+(S [47]).length≤(aj 47 q).length&&PySem.Builtin.Str.subAt (aj 47 q) (S [47]) 0)=false)(iG:dC q p=true)(i4:dC p q=false)(xx:k<q.length)(uy:k<p.length)(Dr:q[k]≠p[k])(Ds:∀ i (h:i<k),q[i]=p[i])(hl:(q.take k).length≤100){frx:OE}:TX pw (wd (so w true) b1 b2) aa 3 frx true true (HV w0 t1 t2 e1 p q k a):=
 tX B aO.none (ow 0x33baaaaa3bbbb44b4b111b1b1bbbb1b (.u [0,0,0,0,3] (c4 B p q t1 t2)::(ow (cond b2 0x111b1b166611b1b1b1aa6111b1b1aabbbbbbbb5544611b1b1bb3b3b334331118 0x111b1b166611b1b1b1aa6111b1b1aabbbbbbbb5544611b1b1b33b3b3b3b3b334331118) (.ud [] (bX p hp e9 ee) (fun u1=>(ow 0xb3b333b4b4b445442229 (.ud [] (bX q hq j7 ic) (fun u2=>(ow (cond b2 0xb4b444b5b5b5565514f4f5554f88b8b1bb3b3b332f331116f 0xb4b444b5b5b5565514f4f5554f88b8b1b33b3b3b3b3b332f331116f) (.u [] (bC (aj 47 p) (S [47]) false nF)::(ow 0xb2bbb222b3b3b332f331116f (.u [] (bC (aj 47 q) (S [47]) false sf)::(ow 0xb2bbb22b3b3b332f331333444b4b44411b1 (.u [0,3] (iQ (gf w b1 b2))::(ow 0x1b1 (.u [0,0] (eL (gf w b1 b2))::(ow (cond b2 0x1bfbfbf4f4fb4fb1bb3b3b337f331115f5fb5fb1 0x1bfbfbf4f4fb4fb1b33b3b3b3b3b337f331115f5fb5fb1) (.ud [0,1,0,13,19] (gH B w0 p hp e9 ((u1.u).f 0) ee) (fun u9=>(ow 0x111b6b666b7b7b77af775558f8fb8fb1 (.ud [0,1,0,16,3] (gH B w0 q hq j7 ((u2.u).f 0) ic) (fun m6=>(ow 0x111b9b999b1fb1fb1f1fcf1f1f11c01c01f1f1faa1c0bb2f2fb2fb1b12b2b224f22111 (.u [1,11,0,7,3] (jh B p q ((u9.u).f 0) ((m6.u).f 0) true iG)::(ow 0x1c01c0aa1c0bb11b1b1b12b2b22322111 (.u [1,1,0,0,0] (ji B p q ((u9.u).f 0) ((m6.u).f 0) false i4)::(ow 0x1c01c01c01c01c0aa1c0bbb (.u [2] (dD (ag (q.map ao) ((m6.u).f 0)))::(ow 0x11b1b111b1b1 (.u [30,0,0,0,1,22,0] (lL B w0 q p ic ee k xx uy Dr Ds ((m6.u).f 0) ((u9.u).f 0))::(ow 0x11d0bb11112221e02 (.u [2] (hM 47 (q.take k) hl ((m6.u).f 0))::(ow 0xbb []))))))))))))::[])))::[])))))))))))::[])))::[])))) (cond b2 (fe [(275,0)]) (fe [(287,0)])) z3 [29] 30 0
theorem qS {p:LN}(bq:p≠[])(hp:∀ d∈p,d<5):(0+(S [47]).length≤(aj 47 p).length&&PySem.Builtin.Str.subAt (aj 47 p) (S [47]) 0)=false:=by
 cases h:(0+(S [47]).length≤(aj 47 p).length&&PySem.Builtin.Str.subAt (aj 47 p) (S [47]) 0:Bool) with
 |false=>rfl
 |true=>
  rw[Bool.and_eq_true,dU] at h;have z:=(StrLaws.subAt_one (aj 47 p) 47 0).mp h;cases p with
  |nil=>exact absurd rfl bq
  |cons d ds=>
   have e:(aj 47 (d::ds)).cps.toList[0]?=some (d+48):=by
    show(aV 47 (d::ds))[0]?=_
    rw[eB];rfl
   rw[e] at z;have:=hp d bT;simp at z
theorem ks:∀ (a b:LN),dC a b=true→¬ a<+:b→∃ k,∃ (h1:k<a.length)(h2:k<b.length),a[k]≠b[k]∧(∀ i (h:i<k),a[i]=b[i])∧eY a b=a.take k
 |[],b,_,h=>absurd (List.nil_prefix) h
 |x::a,[],h,_=>by cases h
 |x::a,y::b,h,hp=>by
  unfold dC at h;by_cases e:x=y
  ·subst e
   rw[if_pos rfl] at h;obtain⟨k,h1,h2,h3,h4,h5⟩:=ks a b h fun hh=>hp (List.cons_prefix_cons.mpr ⟨rfl,hh⟩);refine⟨k+1,by simpa using h1,by simpa using h2,h3,fun i hi=>?_,by unfold eY;rw[if_pos rfl,h5];rfl⟩;cases i with
   |zero=>rfl
   |succ i=>exact h4 i (by omega)
  ·exact⟨0,by simp,by simp,e,fun i hi=>absurd hi (by omega),by unfold eY;rw[if_neg e];rfl⟩
theorem qT (p:LN):eY p p=p:=(dP p p).mpr (List.prefix_refl p)
structure bY (p:LN):Prop where
 ne:p≠[]
 lt:∀ d∈p,d<5
 len:p.length≤100
abbrev kS (b1 b2:Bool)(w:WW)(aa:Heap)(p q:LN)(t1 t2:Tok)(e1 la:Nat):Prop:=
 gh w aa b1 b2 3 none (.call (.ref 197) ⟨[.ref la],[]⟩) [(la,ab [.str (aj 47 p) t1,.str (aj 47 q) t2] e1)] (fun r L=>∃ t,r=.ok (.ret (.str (aj 47 (eY p q)) t))∧L=[(la,ab [.str (aj 47 p) t1,.str (aj 47 q) t2] e1)])
theorem gr {w:WW}{aa:Heap}{lv:Nat}{c:Code}{ra:Ow}{s:Str}{g:(N2)→Tok}(h:TX pw w aa lv none true true ⟨c,[],ra,fun b _=> .ok (.ret (.str s (g b))),fun _ _=>[],fun _ _=>ra⟩):aJ pw w aa lv none c ra (fun r L=>∃ t,r=.ok (.ret (.str s t))∧L=ra):=
 (h (fun _=>0) (fun _=>⟨fun _=>0,fun _=>0,fun _=>0,0⟩)).mono lr fun r L hP=>by
  obtain⟨b,f,L1,hL,hr,hn⟩:=hP;refine⟨_,hr,?_⟩;rw[hL];cases L1 with
  |nil=>rfl
  |cons=>cases hn
theorem HW (b1 b2 b3:Bool){w:WW}{aa:Heap}(B:Base (wd (so w b3) b1 b2) aa (dF (wd (so w b3) b1 b2)))(p q:LN)(hp:bY p)(hq:bY q)(t1 t2:Tok)(e1 la:Nat):kS b1 b2 (so w b3) aa p q t1 t2 e1 la:=by
 have np:=qS hp.ne hp.lt;have nq:=qS hq.ne hq.lt;let a:N2:=fun _=>la;cases uG:dC q p with
 |true=>
  have mJ:=oy q p uG;by_cases eg:q<+:p
  ·have el:eY p q=q:=(dP p q).mpr eg
   unfold kS;rw[el];cases b3
   ·exact gr (Lg b1 b2 B w t1 t2 e1 p q a hp.ne hp.lt hp.len np hq.ne hq.lt hq.len nq uG mJ eg)
   ·exact gr (Ll b1 b2 B w t1 t2 e1 p q a hp.ne hp.lt hp.len np hq.ne hq.lt hq.len nq uG mJ eg)
  ·obtain⟨k,k1,k2,k3,k4,k5⟩:=ks q p uG eg
   have hl:(q.take k).length≤100:=by rw[dR];have:=hq.len;omega
   unfold kS;rw[j0,k5];cases b3
   ·exact gr (Lh b1 b2 B w t1 t2 e1 p q k a hp.ne hp.lt hp.len np hq.ne hq.lt hq.len nq uG mJ k1 k2 k3 k4 hl)
   ·exact gr (Lm b1 b2 B w t1 t2 e1 p q k a hp.ne hp.lt hp.len np hq.ne hq.lt hq.len nq uG mJ k1 k2 k3 k4 hl)
 |false=>
  cases mJ:dC p q with
  |true=>
   by_cases eg:p<+:q
   ·have el:eY p q=p:=by rw[j0];exact(dP q p).mpr eg
    unfold kS;rw[el];cases b3
    ·exact gr (Le b1 b2 B w t1 t2 e1 p q a hp.ne hp.lt hp.len np hq.ne hq.lt hq.len nq uG mJ eg)
    ·exact gr (Lj b1 b2 B w t1 t2 e1 p q a hp.ne hp.lt hp.len np hq.ne hq.lt hq.len nq uG mJ eg)
   ·obtain⟨k,k1,k2,k3,k4,k5⟩:=ks p q mJ eg
    have hl:(p.take k).length≤100:=by rw[dR];have:=hp.len;omega
    unfold kS;rw[k5];cases b3
    ·exact gr (Lf b1 b2 B w t1 t2 e1 p q k a hp.ne hp.lt hp.len np hq.ne hq.lt hq.len nq uG mJ k1 k2 k3 k4 hl)
    ·exact gr (Lk b1 b2 B w t1 t2 e1 p q k a hp.ne hp.lt hp.len np hq.ne hq.lt hq.len nq uG mJ k1 k2 k3 k4 hl)
  |false=>
   have e:=xn p q mJ uG;subst e;unfold kS;rw[qT];cases b3
   ·exact gr (Ld b1 b2 B w t1 t2 e1 p a hp.ne hp.lt hp.len np uG mJ)
   ·exact gr (Li b1 b2 B w t1 t2 e1 p a hp.ne hp.lt hp.len np uG mJ)
section
variable (b1 b2:Bool){w:WW}{aa:Heap}(B:BB w aa b1 b2)
include B
theorem Dt (p q:LN)(hp:bY p)(hq:bY q)(t1 t2:Tok)(e1 la:Nat):kS b1 b2 w aa p q t1 t2 e1 la:=by
 obtain⟨b3,hw⟩:=zq w;exact Eq.subst (motive:=fun w=>BB w aa b1 b2→kS b1 b2 w aa p q t1 t2 e1 la) hw.symm (fun B=>HW b1 b2 b3 B p q hp hq t1 t2 e1 la) B
def Du {b1 b2:Bool}{w:WW}{aa:Heap}(B:BB w aa b1 b2)(p q:LN)(hp:bY p)(hq:bY q)(t1 t2:Tok):gw w aa b1 b2:=
 dk 3 true false 0 none (fun _ rr=> .call (.ref 197) ⟨[.ref (adr rr 0)],[]⟩) (fun _ _=>[]) (fun _ rr=>[(adr rr 0,ab [.str (aj 47 p) t1,.str (aj 47 q) t2] (aH rr 0))])
  (fun _ _ _ _=> .ok (.ret (.str (aj 47 (eY p q)) 0))) (fun _ _ _ _=>[]) (fun _ rr _ _=>[(adr rr 0,ab [.str (aj 47 p) t1,.str (aj 47 q) t2] (aH rr 0))])
  fun cc rr t x=>(Dt b1 b2 B p q hp hq t1 t2 (aH rr 0) (adr rr 0)).mono lr fun r L hP=>by
   obtain⟨t,hr,hL⟩:=hP;exact⟨fun _=>t,fun _ _=>0,[],hL,by rw[hr];rfl,rfl⟩
def Ln (w0:WW)(pt:Str)(n:Int)(va vb b0 i we xe:Nat)(xs wv:LV)(t0:Tok)(p q:LN)(tp tq:Tok)(a:N2):SX Code Code:=⟨cH (wt w0) [8,0] (a 3) (a 0) (a 8) (a 9) (a 10) (a 1) (a 11),[(a 0,ah (jx (a 5) (a 6) (a 7) pt (some (n,va,b0)) none))],[(a 1,cR (a 2)),(a 2,ab wv we),(a 3,aq (a 4) i),(a 4,ab xs xe)],fun b f=>cH (wt w0) [8,0] (a 3) (a 0) (a 8) (a 9) (a 10) (a 1) (a 11),fun b f=>[(a 0,ah (jx (a 5) (a 6) (a 7) pt (some (n,va,vb)) none))],fun b f=>[(a 1,cR (a 2)),(a 2,ab wv we),(a 3,aq (a 4) (i+1)),(a 4,ab xs xe)]⟩
theorem OJ (w0:WW)(pt:Str)(n:Int)(va vb b0 i we xe:Nat)(xs wv:LV)(t0:Tok)(p q:LN)(tp tq:Tok)(a:N2)(hx:xs[i]?=some (.int vb t0)) (gM:decide ((va:Int)<(vb:Int))=true) (ha:va<1000) (hb:vb<1000) (s6:wv[va]?=some (.str (aj 47 p) tp)) (uq:wv[vb]?=some (.str (aj 47 q) tq)) (hp:bY p) (hq:bY q) (OK:(([.str (aj 47 p) 0,.str (aj 47 q) 0]:LV).all fun y=>alike y (.str (aj 47 (eY p q)) 0))=true) (nY:(([.str (aj 47 p) 0,.str (aj 47 q) 0]:LV).any fun y=>eqv y (.str (aj 47 (eY p q)) 0))=true):eR w aa b1 b2 4 true (Ln w0 pt n va vb b0 i we xe xs wv t0 p q tp tq a):=
 eO B (ol 0x4b4 (.u [3,3] (bQ xs i (.int vb t0) hx)::(ol 0x3333 (.u [] (I3 va vb true gM)::(ol 0xa43555 (.u [4] (aY wv va (.str (aj 47 p) tp) ha s6)::(ol 0x54111 (.u [0] (aY wv vb (.str (aj 47 q) tq) hb uq)::(ol 0xa (.u [0] (Du B p q hp hq tp tq)::(ol 0x65222 (.u [1] (aY wv va (.str (aj 47 p) tp) ha s6)::(ol 0x65111 (.u [0] (aY wv vb (.str (aj 47 q) tq) hb uq)::(ol 0x11 (.u [0] (rC [.str (aj 47 p) 0,.str (aj 47 q) 0] (.str (aj 47 (eY p q)) 0) true OK nY)::(ol 0xd []))))))))))))))))) z2 z3 [5,5,1,2,2] 2 1
def Lo (w0:WW)(pt:Str)(n:Int)(va vb b0 i we xe:Nat)(xs wv:LV)(t0:Tok)(a:N2):SX Code Code:=⟨cH (wt w0) [8,0] (a 1) (a 0) (a 6) (a 7) (a 8) (a 10) (a 9),[(a 0,ah (jx (a 3) (a 4) (a 5) pt (some (n,va,b0)) none))],[(a 1,aq (a 2) i),(a 2,ab xs xe)],fun b f=>cH (wt w0) [8,0] (a 1) (a 0) (a 6) (a 7) (a 8) (a 10) (a 9),fun b f=>[(a 0,ah (jx (a 3) (a 4) (a 5) pt (some (n,va,vb)) none))],fun b f=>[(a 1,aq (a 2) (i+1)),(a 2,ab xs xe)]⟩
theorem OL (w0:WW)(pt:Str)(n:Int)(va vb b0 i we xe:Nat)(xs wv:LV)(t0:Tok)(a:N2)(hx:xs[i]?=some (.int vb t0)) (gM:decide ((va:Int)<(vb:Int))=false):eR w aa b1 b2 2 true (Lo w0 pt n va vb b0 i we xe xs wv t0 a):=
 eO B (ol 0x2b2 (.u [1,1] (bQ xs i (.int vb t0) hx)::(ol 0x3333 (.u [] (I3 va vb false gM)::(ol 0xd []))))) z2 z3 [2,0,0] 0 1
def Lp (w0:WW)(xs:LV)(i xe:Nat)(a:N2):SX Code Result:=sB (cH (wt w0) [8,0] (a 0) (a 10) (a 5) (a 6) (a 7) (a 9) (a 8)) [] [(a 0,aq (a 1) i),(a 1,ab xs xe)] (fun b f=> .ok .next) (fun b f=>[(a 1,ab xs xe)])
theorem OM (w0:WW)(xs:LV)(i xe:Nat)(a:N2)(hx:xs[i]?=none) {frx:OE}:eP w aa b1 b2 2 frx true true (Lp w0 xs i xe a):=
 tX B aO.none (ol 0x1b1 (.u [0,0] (bA xs i hx)::(ol 0x1b []))) z2 z3 [2] 2 0
end
noncomputable abbrev SO:=Option (Int×Nat×Nat)
noncomputable def pD (l:LN)(b:Nat):Nat:=(l.getLast?).getD b
noncomputable def ku (a:Nat):SO→SO
 |none=>none
 |some (n,_,b)=>some (n,a,b)
def f7 (row:LN):SO→SO
 |none=>none
 |some (n,a,b)=>some (n,a,pD row b)
noncomputable def sK (T:Nat→List Nat)(o:SO):Nat→SO
 |0=>o
 |k+1=>f7 (T k) (ku k (sK T o k))
theorem cP {a:Nat}{s:SO}(h:ku a s=none):s=none:=by
 cases s with
 |none=>rfl
 |some x=>cases h
theorem sg {row:LN}{s:SO}(h:f7 row s=none):s=none:=by
 cases s with
 |none=>rfl
 |some x=>cases h
theorem ec {T:Nat→List Nat}{o:SO}:∀ {k:Nat},sK T o k=none→o=none
 |0,h=>h
 |k+1,h=>ec (cP (sg h))
theorem dE (a:Nat)(s:SO):∀ x,ku a s=some x→x.2.1=a:=by
 intro x h;cases s with
 |none=>cases h
 |some y=>cases h;rfl
theorem di (W:Nat→List Nat)(τ:NT){d:Nat}(hd:d<5):(aE W τ)[d]?=some (.str (aj 47 (W d)) (τ d)):=by
 match d,hd with
 |0,_=>rfl
 |1,_=>rfl
 |2,_=>rfl
 |3,_=>rfl
 |4,_=>rfl
theorem qU (s:Str):eqv (.str s 0) (.str s 0)=true:=beq_self_eq_true s
theorem OO {p q r:LN}(h:r=p∨r=q):(([.str (aj 47 p) 0,.str (aj 47 q) 0]:LV).any fun y=>eqv y (.str (aj 47 r) 0))=true:=by
 rcases h with rfl|rfl
 ·show(eqv (.str (aj 47 r) 0) (.str (aj 47 r) 0)||_)=true
  rw[qU];rfl
 ·show(_||(eqv (.str (aj 47 r) 0) (.str (aj 47 r) 0)||_))=true
  rw[qU,Bool.true_or,Bool.or_true]
theorem Dv (a sc ll tl:Nat)(pt:Str)(s:SO)(na:ON)(x:Nat→Tk):nL (rt [(a,ah (jx sc ll tl pt s na))] x)=[(a,ah (jx sc ll tl pt s na))]:=by
 cases s<;>cases na<;>rfl
section
variable (b1 b2:Bool){w:WW}{aa:Heap}(B:BB w aa b1 b2)
include B
theorem Dw (w0:WW)(fr cc ca cv cw ct wl it ra sc ll tl we xe:Nat)(pt:Str)(va:Nat)(E7:va<5)(row:LN)(iJ:∀ b∈row,b<5)(hlen:row.length≤100)(W:Nat→List Nat)(hW:∀ a<5,bY (W a))(ht:∀ b∈row,va<b→eY (W va) (W b)=W va∨eY (W va) (W b)=W b)(τ ay:NT)(s:SO)(na:ON)(hs:s=none→row=[])(Gv:∀ x,s=some x→x.2.1=va)(x:Nat→Tk):
  gh w aa b1 b2 4 none (cH (wt w0) [8,0] it fr cc ca cv cw ct) (rt [(fr,ah (jx sc ll tl pt s na))] x++[(cw,cR wl),(wl,ab (aE W τ) we),(it,aq ra 0),(ra,ab (af row ay) xe)])
   (fun r L=>∃ x',r=.ok .next∧L=rt [(fr,ah (jx sc ll tl pt (f7 row s) na))] x'++[(cw,cR wl),(wl,ab (aE W τ) we),(ra,ab (af row ay) xe)]):=by
 refine aJ.out ?_;refine bw row.length (fun i L=>∃ x,L.Perm (rt [(fr,ah (jx sc ll tl pt (f7 (row.take i) s) na))] x++[(cw,cR wl),(wl,ab (aE W τ) we),(it,aq ra i),(ra,ab (af row ay) xe)])) ?_ ?_ (bZ _) ⟨x,?_⟩
 ·rintro i L hi ⟨x,hL⟩ ih
  have hx:(af row ay)[i]?=some (.int (row[i]:Nat) (ay i)):=cf _ _ _ _ (cy hi)
  have hb:=iJ row[i] (List.getElem_mem hi);have MY:∀ n b0,f7 (row.take (i+1)) (some (n,va,b0))=some (n,va,row[i]):=fun n b0=>by
   show some (n,va,pD (row.take (i+1)) b0)=_;unfold pD;rw[dv hi,List.getLast?_concat];rfl
  cases s with
  |none=>rw[hs rfl] at hi;cases hi
  |some y=>
   obtain⟨n,a0,b0⟩:=y;have OP:a0=va:=Gv _ rfl;subst OP;generalize HA:pD (row.take i) b0=bb at*;have hL:L.Perm (rt [(fr,ah (jx sc ll tl pt (some (n,a0,bb)) na))] x++[(cw,cR wl),(wl,ab (aE W τ) we),(it,aq ra i),(ra,ab (af row ay) xe)]):=by rw[←HA];exact hL
   by_cases gM:a0<row[i]
   ·let a:N2:=ix [fr,cw,wl,it,ra,sc,ll,tl,cc,ca,cv,ct]
    have z:=(OJ b1 b2 B w0 pt n a0 row[i] bb i we xe (af row ay) (aE W τ) (ay i) (W a0) (W row[i]) (τ a0) (τ row[i]) a hx (cT (by omega)) (by omega) (by omega) (di W τ E7) (di W τ hb) (hW _ E7) (hW _ hb) rfl (OO (ht _ (List.getElem_mem hi) gM))).z (frx:=none) (lvx:=4) lr (P:=fun r L=>∃ L' Gb,L.Perm (L'++Gb)∧∃ x',r=.ok .next∧L'=rt [(fr,ah (jx sc ll tl pt (f7 row (some (n,a0,b0))) na))] x'++[(cw,cR wl),(wl,ab (aE W τ) we),(ra,ab (af row ay) xe)]) (fun b f x'=>ih _ ⟨x',by rw[MY];exact .refl _⟩) (fun _=>0) x;exact aJ.perm z hL
   ·let a:N2:=ix [fr,it,ra,sc,ll,tl,cc,ca,cv,ct,cw]
    have z:=(OL b1 b2 B w0 pt n a0 row[i] bb i we xe (af row ay) (aE W τ) (ay i) a hx (decide_eq_false (by omega))).y (frx:=none) (lvx:=4) (by omega) [(cw,cR wl),(wl,ab (aE W τ) we)] (P:=fun r L=>∃ L' Gb,L.Perm (L'++Gb)∧∃ x',r=.ok .next∧L'=rt [(fr,ah (jx sc ll tl pt (f7 row (some (n,a0,b0))) na))] x'++[(cw,cR wl),(wl,ab (aE W τ) we),(ra,ab (af row ay) xe)]) (fun b f x'=>ih _ ⟨x',by
     rw[MY];show List.Perm (rt [(fr,ah (jx sc ll tl pt (some (n,a0,row[i])) none))] x'++[(it,aq ra (i+1)),(ra,ab (af row ay) xe)]++[(cw,cR wl),(wl,ab (aE W τ) we)]) (rt [(fr,ah (jx sc ll tl pt (some (n,a0,row[i])) none))] x'++[(cw,cR wl),(wl,ab (aE W τ) we),(it,aq ra (i+1)),(ra,ab (af row ay) xe)]);exact pm [0,3,4,1,2]⟩) (fun _=>0) x
    refine aJ.perm z (hL.trans ?_);show List.Perm (rt [(fr,ah (jx sc ll tl pt (some (n,a0,bb)) none))] x++[(cw,cR wl),(wl,ab (aE W τ) we),(it,aq ra i),(ra,ab (af row ay) xe)]) (rt [(fr,ah (jx sc ll tl pt (some (n,a0,bb)) none))] x++[(it,aq ra i),(ra,ab (af row ay) xe)]++[(cw,cR wl),(wl,ab (aE W τ) we)]);exact pm [0,3,4,1,2]
 ·rintro L ⟨x,hL⟩
  rw[List.take_length] at hL;let a:N2:=ix [it,ra,sc,ll,tl,cc,ca,cv,ct,cw,fr];have z:=(OM b1 b2 B w0 (af row ay) row.length xe a (cF _ _ _ (eU lr)) (frx:=none)).use (rt [(fr,ah (jx sc ll tl pt (f7 row s) na))] x++[(cw,cR wl),(wl,ab (aE W τ) we)]) (fun _=>0) x;refine(aJ.perm z (hL.trans ?_)).mono (by omega) ?_
  ·show List.Perm _ (rt [] x++[(it,aq ra row.length),(ra,ab (af row ay) xe)]++(rt [(fr,ah (jx sc ll tl pt (f7 row s) na))] x++[(cw,cR wl),(wl,ab (aE W τ) we)]))
   exact pm [3,4,0,1,2]
  ·rintro rs L' ⟨b,f,x',hr,rfl⟩
   refine⟨rt [(fr,ah (jx sc ll tl pt (f7 row s) na))] x++[(cw,cR wl),(wl,ab (aE W τ) we),(ra,ab (af row ay) xe)],[],?_,x,hr,rfl⟩;show List.Perm (rt [] x'++[(ra,ab (af row ay) xe)]++(rt [(fr,ah (jx sc ll tl pt (f7 row s) na))] x++[(cw,cR wl),(wl,ab (aE W τ) we)])) _;exact pm [1,2,3,0]
 ·have e:f7 (row.take 0) s=s:=by
   cases s with
   |none=>rfl
   |some y=>rfl
  rw[e]
end
section
variable {b1 b2:Bool}{w:WW}{aa:Heap}
def nG (B:BB w aa b1 b2)(w0:WW)(va:Nat)(E7:va<5)(row:LN)(iJ:∀ b∈row,b<5)(hlen:row.length≤100)(W:Nat→List Nat)(hW:∀ a<5,bY (W a))(ht:∀ b∈row,va<b→eY (W va) (W b)=W va∨eY (W va) (W b)=W b)(τ ay:NT)(s:SO)(na:ON)(hs:s=none→row=[])(Gv:∀ x,s=some x→x.2.1=va)(sc ll tl:Nat)(pt:Str):gw w aa b1 b2:=
 dk 4 true true 1 none (fun cc rr=>cH (wt w0) [8,0] (adr rr 3) (adr rr 0) (gI cc 0) (gI cc 1) (gI cc 2) (adr rr 1) (gI cc 4)) (fun _ rr=>[(adr rr 0,ah (jx sc ll tl pt s na))])
  (fun _ rr=>[(adr rr 1,cR (adr rr 2)),(adr rr 2,ab (aE W τ) (aH rr 2)),(adr rr 3,aq (adr rr 4) 0),(adr rr 4,ab (af row ay) (aH rr 4))])
  (fun _ _ _ _=> .ok .next) (fun _ rr _ _=>[(adr rr 0,ah (jx sc ll tl pt (f7 row s) na))])
  (fun _ rr b f=>[(adr rr 1,cR (adr rr 2)),(adr rr 2,ab (aE W τ) (aH rr 2)),(adr rr 4,ab (af row ay) (aH rr 4))])
  fun cc rr t x=>(Dw b1 b2 B w0 (adr rr 0) (gI cc 0) (gI cc 1) (gI cc 2) (adr rr 1) (gI cc 4) (adr rr 2) (adr rr 3) (adr rr 4) sc ll tl (aH rr 2) (aH rr 4) pt va E7 row iJ hlen W hW ht τ ay s na hs Gv x).mono lr fun r L hP=>by
   obtain⟨x',rfl,rfl⟩:=hP;exact⟨fun _=>0,fun _ _=>0,rt [(adr rr 0,ah (jx sc ll tl pt (f7 row s) na))] x',rfl,rfl,Dv _ _ _ _ _ _ _ _⟩
end
noncomputable def eZ (i:Nat):Obj:=⟨.type "range_iterator",none,.fields ⟨[.int i 0,.int (5- (i:Int)) 0,.int 1 0]⟩,#[]⟩
section
variable {prog:Program}{w:WW}{aa:Heap}
theorem xC:plainId "range_iterator.__next__"=true:=by decide+kernel
theorem xD (it i:Nat)(hi:i<5):d3 prog w aa 0 (.builtin "range_iterator.__next__" ⟨[.ref it],[]⟩) [(it,eZ i)] (fun r L=>∃ t,r=.ok (.ret (.int i t))∧L=[(it,eZ (i+1))]):=by
 refine sI xC F.entry_range_iterator_next (AutoRange.range_iterator___next___range_iterator_1 it i (5- (i:Int)) 1 (by omega)) ?_;intro A R Fr h gs d os tok size D kk;refine⟨D.get (.head _) (fun _=>rfl),?_⟩;have D0:Rp aa h ((it,eZ i)::[]++Fr) size:=D;have D1:=D0.fC (f:=Obj.mapFields (·.setIfInBounds 0 (rawInt ((i:Int)+1)))) (o':=⟨.type "range_iterator",none,.fields ⟨[.int ((i:Int)+1) 0,.int (5- (i:Int)) 0,.int 1 0]⟩,#[]⟩) (fun _=>rfl) rfl rfl;have D2:=D1.fC (f:=Obj.mapFields (·.setIfInBounds 1 (rawInt (5- (i:Int)-1)))) (o':=eZ (i+1)) (fun _=>rfl) (by
  have e1:(5- (i:Int)-1)=5- ((i+1:Nat):Int):=by omega
  have e2:(i:Int)+1=((i+1:Nat):Int):=by omega
  simp only[Obj.mapFields,eZ,rawInt];rw[e1,e2];rfl) rfl
 exact kk (.ok (.ret (.int i _))) [(it,eZ (i+1))] _ gs _ size ⟨_,rfl,rfl⟩ (bh.refl _) D2
theorem Au (it:Nat):d3 prog w aa 0 (.builtin "range_iterator.__next__" ⟨[.ref it],[]⟩) [(it,eZ 5)] (fun r L=>∃ b t,r=.error (.ref b)∧L=[(b,cZ t),(it,eZ 5)]):=by
 intro A R Fr h g d os tok size hA hD kk;have ho:h.get? it=some (eZ 5):=hD.get (.head _) (fun _=>rfl);refine dw F.entry_range_iterator_next ?_;show wpAny _ _ (field (.ref it) 0>>=_) _ _ _;refine aw (wpAny_field ho rfl (x:=.int 5 0) rfl ?_);show wpAny _ _ (field (.ref it) 1>>=_) _ _ _;refine aw (wpAny_field ho rfl (x:=.int (5- ((5:Nat):Int)) 0) rfl ?_);show wpAny _ _ (field (.ref it) 2>>=_) _ _ _;refine aw (wpAny_field ho rfl (x:=.int 1 0) rfl ?_);show wpAny _ _ (if(5- ((5:Nat):Int))≤0 then _ else _) _ _ _;rw[if_pos (by decide)];refine aw (wpAny_rule ?_);refine aw ?_;show wpAny _ _ (newExc (.type "StopIteration") []>>=_) _ _ _;refine aw ?_;simp only[newExc,newTuple];refine aw (wpAny_newObj_type ?_ (by size_fits));have D2:=hD.alloc (o:=⟨.type "tuple",none,.seq #[] 0,#[]⟩) rfl;refine aw (m:=firstArgMember _ _) (wpAny_of_eq (a:=Value.none) (by first|rfl|(simp only[firstArgMember];rfl)) ?_);refine wpAny_newObj_type ?_ (by size_fits);have D3:=D2.alloc (o:=cZ size) rfl;have es:h.objs.size=size:=hD.sz;refine wpAny_raiseNew_none (show(A.under _).handled=none from hA.hd) ?_;have key:=kk (.error (.ref (size+1))) [(size+1,cZ size),(it,eZ 5)] _ g tok (size+1+1) ⟨size+1,size,rfl,rfl⟩ (bh.refl _) (D3.sub ((List.Sublist.refl [_]).append (List.sublist_cons_self _ _)));simp only[Heap.size_push,es];exact key
def lM (i:Nat)(hi:i<5):Ent prog w aa:=dk 0 true false 0 none (fun _ rr=> .builtin "range_iterator.__next__" ⟨[.ref (adr rr 0)],[]⟩) (fun _ _=>[]) (fun _ rr=>[(adr rr 0,eZ i)])
 (fun _ _ _ _=> .ok (.ret (.int i 0))) (fun _ _ _ _=>[]) (fun _ rr _ _=>[(adr rr 0,eZ (i+1))]) fun cc rr t x=>(d3.f (xD (adr rr 0) i hi)).mono lr fun r L hP=>by
  obtain⟨t,rfl,rfl⟩:=hP;exact⟨fun _=>t,fun _ _=>0,[],rfl,rfl,rfl⟩
def sh:Ent prog w aa:=dk 0 true true 0 none (fun _ rr=> .builtin "range_iterator.__next__" ⟨[.ref (adr rr 0)],[]⟩) (fun _ _=>[]) (fun _ rr=>[(adr rr 0,eZ 5)])
 (fun _ _ b _=> .error (.ref (b 0))) (fun _ _ _ _=>[]) (fun _ rr b _=>[(b 0,cZ (b 1)),(adr rr 0,eZ 5)]) fun cc rr t x=>(d3.f (Au (adr rr 0))).mono lr fun r L hP=>by
  obtain⟨b,t,rfl,rfl⟩:=hP;exact⟨fun i=>match i with|0=>b|_=>t,fun _ _=>0,[],rfl,rfl,rfl⟩
end
def uH (iN:Expr)(env:Env)(v:Value):Sem Fin:=PySem.W.R.bindR (Am iN env v) fun _=> .pure (.done .next)
theorem Av (iN:Expr)(env:Env)(v:Value):uH iN env v=(assign iN env v).bind fun _=> .pure (.done .next):=by
 unfold uH;rw[←PySem.W.R.bindR_eq,td]
section
variable {prog:Program}{w:WW}{aa:Heap}
theorem qV {lv:Nat}{fr:OE}{iN:Expr}{env:Env}{v:Value}{rs:Ow}{P:Ow→Prop}(h:aM prog w aa lv fr (uH iN env v) rs (fun _ L=>P L)):aM prog w aa lv fr (assign iN env v) rs (fun _ L=>P L):=fun A Q E Fr h' g d os tok size hA hf hD kk=>by
 have z:=h A (fun fin s=>Q () s) E Fr h' g d os tok size hA hf hD fun v L' h' g' t s p G D=>kk () L' h' g' t s p G D;rw[Av] at z;intro Γ p iX;have z:=z Γ p iX;rw[Sem.wp_bind] at z;exact z
def Dx (prog:Program)(w:WW)(aa:Heap)(lv:Nat)(fr:OE)(C:Code)(P:Result→Ow→Prop)(f:Flow)(L:Ow):Prop:=match f with
 |.next=>aJ prog w aa lv fr C L P
 |.cont=>aJ prog w aa lv fr C L P
 |.brk=>P (.ok .next) L
 |.ret v=>P (.ok (.ret v)) L
theorem tg {lv:Nat}{fr:OE}{iN:Expr}{body orelse:List Stmt}{env:Env}{it:Value}{P:Result→Ow→Prop}{rs:Ow}{PN:Value→Ow→Prop}{PA:Ow→Prop}(xE:∀ v,letOwnedTupleGo iN it v=pure ())
  (hN:∀ (A:Around)(Q:OV→Shared→Prop)(E:Value→Shared→Prop)(Fr:Ow)(h:Heap)(g:Array GenState)(d:Drawn)(os:OsState)(tok size:Nat),Rp aa h (rs++Fr) size→
   (∀ x L' h' g' aN aC,PN x L'→bh g g'→Rp aa h' (L'++Fr) aC→Q (some x) ⟨h',g',d,aN,os⟩)→wpAny (model prog w) A (pyNext it) Q E ⟨h,g,d,tok,os⟩)
  (hA:∀ x L,PN x L→aM prog w aa lv fr (assign iN env x) L (fun _ L=>PA L))
  (hB:∀ L,PA L→aM prog w aa lv fr (execs body env) L (Dx prog w aa lv fr (.forLoop iN it body orelse env) P)):
  aJ prog w aa lv fr (.forLoop iN it body orelse env) rs P:=by
 intro A R Fr h g d os tok size Jf hf hD kk;refine codeAny_of_tree ?_;show wpAny _ A ((forTurn iN it body orelse env).onRaise (fun x=>do noteFrame x env;theTreesLotGoes x)) _ _ _;refine wpAny_noted ?_;simp only[forTurn];refine aw (wpAny_standAt (aw (wpAny_onRaise ?_)));refine hN A _ _ Fr h g d os tok size hD fun x L1 h1 g1 t1 s1 p1 G1 D1=>?_;show wpAny _ _ (letOwnedTupleGo iN it x>>=_) _ _ _;rw[xE];refine aw (aG ?_);refine aw (hA x L1 p1 A _ _ Fr h1 g1 d os t1 s1 Jf hf D1 fun _ L2 h2 g2 t2 s2 p2 G2 D2=>?_);refine aw (hB L2 p2 A _ _ Fr h2 g2 d os t2 s2 Jf hf D2 fun f L3 h3 g3 t3 s3 p3 G3 D3=>?_);cases f with
 |next=>exact aG ⟨rfl,p3 A R Fr h3 g3 d os t3 s3 Jf hf D3 fun r L4 h4 g4 t4 s4 p4 G4 D4=>kk r L4 h4 g4 t4 s4 p4 (((G1.trans G2).trans G3).trans G4) D4⟩
 |cont=>exact aG ⟨rfl,p3 A R Fr h3 g3 d os t3 s3 Jf hf D3 fun r L4 h4 g4 t4 s4 p4 G4 D4=>kk r L4 h4 g4 t4 s4 p4 (((G1.trans G2).trans G3).trans G4) D4⟩
 |brk=>exact aG (kk _ _ _ _ _ _ p3 ((G1.trans G2).trans G3) D3)
 |ret v=>exact aG (kk _ _ _ _ _ _ p3 ((G1.trans G2).trans G3) D3)
theorem qW {lv:Nat}{fr:OE}{iN:Expr}{body orelse:List Stmt}{env:Env}{it l i e:Nat}{vs:LV}{v:Value}{Z:Ow}{P:Result→Ow→Prop}{PA:Ow→Prop}(xE:∀ it v,letOwnedTupleGo iN it v=pure ())(hx:vs[i]?=some v)
  (hA:aM prog w aa lv fr (assign iN env v) ((it,aq l (i+1))::(l,ab vs e)::Z) (fun _ L=>PA L))
  (hB:∀ L,PA L→aM prog w aa lv fr (execs body env) L (Dx prog w aa lv fr (.forLoop iN (.ref it) body orelse env) P)):
  aJ prog w aa lv fr (.forLoop iN (.ref it) body orelse env) ((it,aq l i)::(l,ab vs e)::Z) P:=
 tg (PN:=fun x L=>x=v∧L=(it,aq l (i+1))::(l,ab vs e)::Z) (fun v=>xE _ v)
  (fun A Q E Fr h g d os tok size hD kk=>kq (Z:=Z++Fr) hD hx fun h' D'=>kk _ _ _ _ _ _ ⟨rfl,rfl⟩ (bh.refl _) D')
  (fun x L hp=>by obtain⟨rfl,rfl⟩:=hp;exact hA) hB
theorem pE {lv:Nat}{fr:OE}{iN:Expr}{body orelse:List Stmt}{env:Env}{it i:Nat}{Z:Ow}{P:Result→Ow→Prop}{PA:Ow→Prop}(xE:∀ it v,letOwnedTupleGo iN it v=pure ())(hi:i<5)
  (hA:∀ t,aM prog w aa lv fr (assign iN env (.int i t)) ((it,eZ (i+1))::Z) (fun _ L=>PA L))
  (hB:∀ L,PA L→aM prog w aa lv fr (execs body env) L (Dx prog w aa lv fr (.forLoop iN (.ref it) body orelse env) P)):
  aJ prog w aa lv fr (.forLoop iN (.ref it) body orelse env) ((it,eZ i)::Z) P:=
 tg (PN:=fun x L=>∃ t,x=.int i t∧L=(it,eZ (i+1))::Z) (fun v=>xE _ v)
  (fun A Q E Fr h g d os tok size hD kk=>by
   have ho:IsRangeIter h it i (5- (i:Int)) 1:=hD.get (.head _) (fun _=>rfl);have hT:Shared.TypeIs ⟨h,g,d,tok,os⟩ (.ref it) "range_iterator":=⟨_,ho,rfl⟩;unfold pyNext;refine aw (wpAny_attempt (wpAny_callSpecial?_slot (name:=Str.ofString "__next__") hT F.slot_range_iterator_next
    (call_meets F.slot_range_iterator_next hT F.entry_range_iterator_next (F.args_range_iterator_next_1 _) (AutoRange.range_iterator___next___range_iterator_1 it i (5- (i:Int)) 1 (by omega)) ⟨ho,?_⟩)))
   refine aG ?_;have D0:Rp aa h ((it,eZ i)::[]++(Z++Fr)) size:=hD;have D1:=D0.fC (f:=Obj.mapFields (·.setIfInBounds 0 (rawInt ((i:Int)+1)))) (o':=⟨.type "range_iterator",none,.fields ⟨[.int ((i:Int)+1) 0,.int (5- (i:Int)) 0,.int 1 0]⟩,#[]⟩) (fun _=>rfl) rfl rfl;have D2:=D1.fC (f:=Obj.mapFields (·.setIfInBounds 1 (rawInt (5- (i:Int)-1)))) (o':=eZ (i+1)) (fun _=>rfl) (by
    have e1:(5- (i:Int)-1)=5- ((i+1:Nat):Int):=by omega
    have e2:(i:Int)+1=((i+1:Nat):Int):=by omega
    simp only[Obj.mapFields,eZ,rawInt];rw[e1,e2];rfl) rfl
   exact kk _ ((it,eZ (i+1))::Z) _ _ _ _ ⟨_,rfl,rfl⟩ (bh.refl _) D2)
  (fun x L hp=>by obtain⟨t,rfl,rfl⟩:=hp;exact hA t) hB
theorem xF {lv:Nat}{fr:OE}{iN iter:Expr}{body orelse:List Stmt}{pos:Pos}{env:Env}{rs:Ow}{P:Flow→Ow→Prop}{P1:Value→Ow→Prop}{P2:Value→Ow→Prop}(hs:∀ x,foldedSetIterable iter env x=pure x)
  (h:aM prog w aa lv fr (eval iter env) rs P1) (hI:∀ x L,P1 x L→aM prog w aa lv fr (pyIter x) L P2)
  (hL:∀ it L,P2 it L→aJ prog w aa lv fr (.forLoop iN it body orelse env) L (fun r L=>∃ f,r=.ok f∧P f L)):aM prog w aa lv fr (exec (.For iN iter body orelse pos) env) rs P:=
 fun A Q E Fr h' g d os tok size hA hf hD kk=>by
  refine wpAny_For (h A _ E Fr h' g d os tok size hA hf hD fun x L1 h1 g1 t1 s1 p1 G1 D1=>hI x L1 p1 A _ E Fr h1 g1 d os t1 s1 hA hf D1 fun it L2 h2 g2 t2 s2 p2 G2 D2=>hL it L2 p2 A _ Fr h2 g2 d os t2 s2 hA hf D2 fun r L3 h3 g3 t3 s3 p3 G3 D3=>?_) hs;obtain⟨f,rfl,p3⟩:=p3;exact kk f L3 h3 g3 t3 s3 p3 ((G1.trans G2).trans G3) D3
theorem nH {lv:Nat}{fr:OE}{l e:Nat}{vs:LV}{Z:Ow}:aM prog w aa lv fr (pyIter (.ref l)) ((l,ab vs e)::Z) (fun v L=>∃ it,v=.ref it∧L=(it,aq l 0)::(l,ab vs e)::Z):=
 fun A Q E Fr h g d os tok size hA hf hD kk=>by
  have ho:h.get? l=some (ab vs e):=hD.get (.head _) (fun _=>rfl);have hl:h.IsList l ⟨vs⟩:=⟨_,ho,rfl,e,rfl⟩;refine wpAny_pyIter_list (s:=⟨h,g,d,tok,os⟩) hl ?_;have es:h.objs.size=size:=hD.sz;have D1:=hD.alloc (o:=aq l 0) rfl;exact kk (.ref h.objs.size) ((size,aq l 0)::(l,ab vs e)::Z) _ g tok _ ⟨size,by rw[es],rfl⟩ (bh.refl _) D1
end
def OQ (q:Option (Nat×Nat×Int)):List (Str×Value):=match q with
 |none=>[]
 |some (l,r,d)=>[(Bi,.ref l),(Bj,.ref r),(GI,.int d 0)]
def fL (sc ll tl rt:Nat)(pt:Str)(s:SO)(q:Option (Nat×Nat×Int))(bn:ON):List (Str×Value):=jx sc ll tl pt s (some 4)++[(jw,.ref rt)]++OQ q++cE qm bn
noncomputable def pF (s:Stmt):Expr:=match s with
 |.For _ i _ _ _=>i
 |_=>default
noncomputable def Dy (s:Stmt):Pos:=match s with
 |.For _ _ _ _ p=>p
 |_=>default
def Lq (w:WW):Stmt:=aU w 10
def f4 (w:WW):Stmt:=eQ w [10] 4
def i0 (w:WW):Stmt:=eQ w [10,4] 0
def i1 (w:WW):Stmt:=eQ w [10,4,0,0] 1
def MZ (w:WW):List Stmt:=subAt [10,4,0,0,1,0] (nk w)
theorem HX (w0:WW):f4 (wt w0)=.For (dQ (f4 (wt w0))) (pF (f4 (wt w0))) [i0 (wt w0)] [] (Dy (f4 (wt w0))):=by kernel_rfl
theorem HY (w0:WW):i0 (wt w0)=.If (.Compare (jv (bj (i0 (wt w0)))) [.Eq] [gO (bj (i0 (wt w0)))] (qk (bj (i0 (wt w0))))) [eQ (wt w0) [10,4,0,0] 0,i1 (wt w0)] [] (sM (i0 (wt w0))):=by kernel_rfl
theorem HZ (w0:WW):i1 (wt w0)=.If (.Compare (jv (bj (i1 (wt w0)))) [.Eq] [gO (bj (i1 (wt w0)))] (qk (bj (i1 (wt w0))))) (MZ (wt w0)) [] (sM (i1 (wt w0))):=by kernel_rfl
theorem H2 (w0:WW):behindInMarks .Eq (gO (bj (i0 (wt w0))))=false:=by kernel_rfl
theorem H3 (w0:WW):behindInMarks .Eq (gO (bj (i1 (wt w0))))=false:=by kernel_rfl
theorem Aw (w0:WW)(it v:Value):letOwnedTupleGo (dQ (Lq (wt w0))) it v=pure ():=by kernel_rfl
theorem Dz (w0:WW)(it v:Value):letOwnedTupleGo (dQ (f4 (wt w0))) it v=pure ():=by kernel_rfl
theorem H4 (w0:WW)(env:Env)(x:Value):foldedSetIterable (pF (f4 (wt w0))) env x=pure x:=by kernel_rfl
theorem H5 (w0:WW):aU (wt w0) 5=.If (.Compare (jv (bj (aU (wt w0) 5))) [.NotEq] [gO (bj (aU (wt w0) 5))] (qk (bj (aU (wt w0) 5)))) (subAt [5,0] (nk (wt w0))) [] (sM (aU (wt w0) 5)):=by kernel_rfl
theorem H6 (w0:WW):behindInMarks .NotEq (gO (bj (aU (wt w0) 5)))=false:=by kernel_rfl
def DA (w0:WW)(e e2:Nat)(xs:LV)(a:N2):SX Code Code:=sC ((atC (rK (wt w0)) (a 1) (a 2) (a 0) (a 4) [])) [(a 0,ak [])] [(a 1,aq (a 3) 0),(a 2,ab [] e2),(a 3,ab xs e)] (fun b f=>cV (atC (rK (wt w0)) (a 1) (a 2) (a 0) (a 4) []))
section
variable (b1 b2:Bool){w:WW}{aa:Heap}(B:BB w aa b1 b2)
include B
theorem OR (w0:WW)(e e2:Nat)(xs:LV)(a:N2):eR w aa b1 b2 2 true (DA w0 e e2 xs a):=
 eO B (ol (cond b2 0xd 0x22b2b2d) []) z2 z3 [0,0,0,0] 0 1
def Lr (w0:WW)(e e2:Nat)(xs:LV)(i:Nat)(vs:LV)(o:Option (Str))(s:Str)(t0:Tok)(a:N2):SX Code Code:=⟨cV (atC (rK (wt w0)) (a 1) (a 2) (a 0) (a 4) []),[(a 0,ak (eI d6 o))],[(a 1,aq (a 3) i),(a 2,ab vs e2),(a 3,ab xs e)],fun b f=>cV (atC (rK (wt w0)) (a 1) (a 2) (a 0) (a 4) []),fun b f=>[(a 0,ak (eI d6 (some s)))],fun b f=>[(a 1,aq (a 3) (i+1)),(a 2,ab (vs++[.str s t0]) (e2+1)),(a 3,ab xs e)]⟩
theorem OS (w0:WW)(e e2:Nat)(xs:LV)(i:Nat)(vs:LV)(o:Option (Str))(s:Str)(t0:Tok)(a:N2)(hx:xs[i]?=some (.str s t0)) (hc:(!(PySem.Builtin.Str.occurrences s (S [47]) 0 s.length 1).isEmpty)=false) (hb:vs.length≤1000):eR w aa b1 b2 2 true (Lr w0 e e2 xs i vs o s t0 a):=
 eO B (ol 0x2b2 (.u [1,2] (bQ xs i (.str s t0) hx)::(ol 0x333 (.u [] (vg s (S [47]) false hc)::(ol 0x3b4 (.u [3] (bD vs hb)::(ol 0xd []))))))) z2 z3 [3,1,0,0] 0 1 fun t x X Fr=>by revert b1 b2 o;exact d4 (by kernel_rfl)
def Ls (w0:WW)(e e2:Nat)(xs:LV)(i:Nat)(vs:LV)(o:Option (Str))(s:Str)(t0:Tok)(a:N2):SX Code Code:=⟨cV (atC (rK (wt w0)) (a 1) (a 2) (a 0) (a 4) []),[(a 0,ak (eI d6 o))],[(a 1,aq (a 3) i),(a 2,ab vs e2),(a 3,ab xs e)],fun b f=>cV (atC (rK (wt w0)) (a 1) (a 2) (a 0) (a 4) []),fun b f=>[(a 0,ak (eI d6 (some s)))],fun b f=>[(a 1,aq (a 3) (i+1)),(a 2,ab vs e2),(a 3,ab xs e)]⟩
theorem OT (w0:WW)(e e2:Nat)(xs:LV)(i:Nat)(vs:LV)(o:Option (Str))(s:Str)(t0:Tok)(a:N2)(hx:xs[i]?=some (.str s t0)) (hc:(!(PySem.Builtin.Str.occurrences s (S [47]) 0 s.length 1).isEmpty)=true):eR w aa b1 b2 2 true (Ls w0 e e2 xs i vs o s t0 a):=
 eO B (ol 0x2b2 (.u [1,2] (bQ xs i (.str s t0) hx)::(ol 0x333 (.u [] (vg s (S [47]) true hc)::(ol 0xd []))))) z2 z3 [2,0,1,0] 0 1 fun t x X Fr=>by revert b1 b2 o;exact d4 (by kernel_rfl)
def Lu (w0:WW)(e e2:Nat)(xs:LV)(i:Nat)(vs:LV)(o:Option (Str))(a:N2):SX Code Result:=sB (cV (atC (rK (wt w0)) (a 1) (a 2) (a 0) (a 4) [])) [(a 0,ak (eI d6 o))] [(a 1,aq (a 3) i),(a 2,ab vs e2),(a 3,ab xs e)] (fun b f=> .ok .next) (fun b f=>[(a 2,ab vs e2),(a 3,ab xs e)])
theorem OU (w0:WW)(e e2:Nat)(xs:LV)(i:Nat)(vs:LV)(o:Option (Str))(a:N2)(hx:xs[i]?=none) {frx:OE}:eP w aa b1 b2 2 frx true true (Lu w0 e e2 xs i vs o a):=
 tX B aO.none (ol 0x2b2 (.u [1,2] (bA xs i hx)::(ol 0x1 []))) z2 z3 [3,3,2] 2 1 fun t x X Fr=>by revert b1 b2 o;exact d4 (by kernel_rfl)
def DB (w0:WW)(e e2:Nat)(xs:LV)(a:N2):SX Code Code:=sC ((atC (rO (wt w0)) (a 1) (a 2) (a 0) (a 4) [])) [(a 0,ak [])] [(a 1,aq (a 3) 0),(a 2,ab [] e2),(a 3,ab xs e)] (fun b f=>cV (atC (rO (wt w0)) (a 1) (a 2) (a 0) (a 4) []))
theorem OW (w0:WW)(e e2:Nat)(xs:LV)(a:N2):eR w aa b1 b2 2 true (DB w0 e e2 xs a):=
 eO B (ol (cond b2 0xd 0x22b2b2d) []) z2 z3 [0,0,0,0] 0 1
def Lv (w0:WW)(e e2:Nat)(xs:LV)(i:Nat)(vs:LV)(o:Option (Str))(s:Str)(t0:Tok)(a:N2):SX Code Code:=⟨cV (atC (rO (wt w0)) (a 1) (a 2) (a 0) (a 4) []),[(a 0,ak (eI d6 o))],[(a 1,aq (a 3) i),(a 2,ab vs e2),(a 3,ab xs e)],fun b f=>cV (atC (rO (wt w0)) (a 1) (a 2) (a 0) (a 4) []),fun b f=>[(a 0,ak (eI d6 (some s)))],fun b f=>[(a 1,aq (a 3) (i+1)),(a 2,ab (vs++[.str s t0]) (e2+1)),(a 3,ab xs e)]⟩
theorem OX (w0:WW)(e e2:Nat)(xs:LV)(i:Nat)(vs:LV)(o:Option (Str))(s:Str)(t0:Tok)(a:N2)(hx:xs[i]?=some (.str s t0)) (hc:(!(PySem.Builtin.Str.occurrences s (S [47]) 0 s.length 1).isEmpty)=false) (hb:vs.length≤1000):eR w aa b1 b2 2 true (Lv w0 e e2 xs i vs o s t0 a):=
 eO B (ol 0x2b2 (.u [1,2] (bQ xs i (.str s t0) hx)::(ol 0x333 (.u [] (vg s (S [47]) false hc)::(ol 0x3b4 (.u [3] (bD vs hb)::(ol 0xd []))))))) z2 z3 [3,1,0,0] 0 1 fun t x X Fr=>by revert b1 b2 o;exact d4 (by kernel_rfl)
def Lw (w0:WW)(e e2:Nat)(xs:LV)(i:Nat)(vs:LV)(o:Option (Str))(s:Str)(t0:Tok)(a:N2):SX Code Code:=⟨cV (atC (rO (wt w0)) (a 1) (a 2) (a 0) (a 4) []),[(a 0,ak (eI d6 o))],[(a 1,aq (a 3) i),(a 2,ab vs e2),(a 3,ab xs e)],fun b f=>cV (atC (rO (wt w0)) (a 1) (a 2) (a 0) (a 4) []),fun b f=>[(a 0,ak (eI d6 (some s)))],fun b f=>[(a 1,aq (a 3) (i+1)),(a 2,ab vs e2),(a 3,ab xs e)]⟩
theorem OY (w0:WW)(e e2:Nat)(xs:LV)(i:Nat)(vs:LV)(o:Option (Str))(s:Str)(t0:Tok)(a:N2)(hx:xs[i]?=some (.str s t0)) (hc:(!(PySem.Builtin.Str.occurrences s (S [47]) 0 s.length 1).isEmpty)=true):eR w aa b1 b2 2 true (Lw w0 e e2 xs i vs o s t0 a):=
 eO B (ol 0x2b2 (.u [1,2] (bQ xs i (.str s t0) hx)::(ol 0x333 (.u [] (vg s (S [47]) true hc)::(ol 0xd []))))) z2 z3 [2,0,1,0] 0 1 fun t x X Fr=>by revert b1 b2 o;exact d4 (by kernel_rfl)
def Lx (w0:WW)(e e2:Nat)(xs:LV)(i:Nat)(vs:LV)(o:Option (Str))(a:N2):SX Code Result:=sB (cV (atC (rO (wt w0)) (a 1) (a 2) (a 0) (a 4) [])) [(a 0,ak (eI d6 o))] [(a 1,aq (a 3) i),(a 2,ab vs e2),(a 3,ab xs e)] (fun b f=> .ok .next) (fun b f=>[(a 2,ab vs e2),(a 3,ab xs e)])
theorem OZ (w0:WW)(e e2:Nat)(xs:LV)(i:Nat)(vs:LV)(o:Option (Str))(a:N2)(hx:xs[i]?=none) {frx:OE}:eP w aa b1 b2 2 frx true true (Lx w0 e e2 xs i vs o a):=
 tX B aO.none (ol 0x2b2 (.u [1,2] (bA xs i hx)::(ol 0x1 []))) z2 z3 [3,3,2] 2 1 fun t x X Fr=>by revert b1 b2 o;exact d4 (by kernel_rfl)
def Ax (w0:WW)(e e2:Nat)(xs:LV)(vv:Nat)(tv:Tok)(a:N2):SX Code Code:=sC ((atC (rL (wt w0)) (a 1) (a 2) (a 0) (a 5) [(a 4)])) [(a 0,ak [])] [(a 1,aq (a 3) 0),(a 2,ab [] e2),(a 3,ab xs e),(a 4,ai (some (.int vv tv)))] (fun b f=>cV (atC (rL (wt w0)) (a 1) (a 2) (a 0) (a 5) [(a 4)]))
theorem O0 (w0:WW)(e e2:Nat)(xs:LV)(vv:Nat)(tv:Tok)(a:N2):eR w aa b1 b2 2 true (Ax w0 e e2 xs vv tv a):=
 eO B (ol (cond b2 0xd 0x22b2b2d) []) z2 z3 [0,0,0,0,0] 0 1
def Ly (w0:WW)(e e2:Nat)(xs:LV)(vv:Nat)(tv:Tok)(i:Nat)(vs:LV)(o:Option (Nat))(d:Nat)(t0:Tok)(a:N2):SX Code Code:=⟨cV (atC (rL (wt w0)) (a 1) (a 2) (a 0) (a 5) [(a 4)]),[(a 0,ak (dm kB o))],[(a 1,aq (a 3) i),(a 2,ab vs e2),(a 3,ab xs e),(a 4,ai (some (.int vv tv)))],fun b f=>cV (atC (rL (wt w0)) (a 1) (a 2) (a 0) (a 5) [(a 4)]),fun b f=>[(a 0,ak (dm kB (some d)))],fun b f=>[(a 1,aq (a 3) (i+1)),(a 2,ab (vs++[.int d t0]) (e2+1)),(a 3,ab xs e),(a 4,ai (some (.int vv tv)))]⟩
theorem O1 (w0:WW)(e e2:Nat)(xs:LV)(vv:Nat)(tv:Tok)(i:Nat)(vs:LV)(o:Option (Nat))(d:Nat)(t0:Tok)(a:N2)(hx:xs[i]?=some (.int d t0)) (hv:decide ((d:Int)≠(vv:Int))=true) (hb:vs.length≤1000):eR w aa b1 b2 2 true (Ly w0 e e2 xs vv tv i vs o d t0 a):=
 eO B (ol 0x2b2 (.u [1,2] (bQ xs i (.int d t0) hx)::(ol 0x3335 (.u [] (xk d vv true hv)::(ol 0x3b4 (.u [3] (bD vs hb)::(ol 0xd []))))))) z2 z3 [3,1,0,0,0] 0 1 fun t x X Fr=>by revert b1 b2 o;exact d4 (by kernel_rfl)
def Lz (w0:WW)(e e2:Nat)(xs:LV)(vv:Nat)(tv:Tok)(i:Nat)(vs:LV)(o:Option (Nat))(d:Nat)(t0:Tok)(a:N2):SX Code Code:=⟨cV (atC (rL (wt w0)) (a 1) (a 2) (a 0) (a 5) [(a 4)]),[(a 0,ak (dm kB o))],[(a 1,aq (a 3) i),(a 2,ab vs e2),(a 3,ab xs e),(a 4,ai (some (.int vv tv)))],fun b f=>cV (atC (rL (wt w0)) (a 1) (a 2) (a 0) (a 5) [(a 4)]),fun b f=>[(a 0,ak (dm kB (some d)))],fun b f=>[(a 1,aq (a 3) (i+1)),(a 2,ab vs e2),(a 3,ab xs e),(a 4,ai (some (.int vv tv)))]⟩
theorem O2 (w0:WW)(e e2:Nat)(xs:LV)(vv:Nat)(tv:Tok)(i:Nat)(vs:LV)(o:Option (Nat))(d:Nat)(t0:Tok)(a:N2)(hx:xs[i]?=some (.int d t0)) (hv:decide ((d:Int)≠(vv:Int))=false):eR w aa b1 b2 2 true (Lz w0 e e2 xs vv tv i vs o d t0 a):=
 eO B (ol 0x2b2 (.u [1,2] (bQ xs i (.int d t0) hx)::(ol 0x3335 (.u [] (xk d vv false hv)::(ol 0xd []))))) z2 z3 [2,0,1,0,0] 0 1 fun t x X Fr=>by revert b1 b2 o;exact d4 (by kernel_rfl)
def LA (w0:WW)(e e2:Nat)(xs:LV)(vv:Nat)(tv:Tok)(i:Nat)(vs:LV)(o:Option (Nat))(a:N2):SX Code Result:=sB (cV (atC (rL (wt w0)) (a 1) (a 2) (a 0) (a 5) [(a 4)])) [(a 0,ak (dm kB o))] [(a 1,aq (a 3) i),(a 2,ab vs e2),(a 3,ab xs e),(a 4,ai (some (.int vv tv)))] (fun b f=> .ok .next) (fun b f=>[(a 2,ab vs e2),(a 3,ab xs e),(a 4,ai (some (.int vv tv)))])
theorem O3 (w0:WW)(e e2:Nat)(xs:LV)(vv:Nat)(tv:Tok)(i:Nat)(vs:LV)(o:Option (Nat))(a:N2)(hx:xs[i]?=none) {frx:OE}:eP w aa b1 b2 2 frx true true (LA w0 e e2 xs vv tv i vs o a):=
 tX B aO.none (ol 0x2b2 (.u [1,2] (bA xs i hx)::(ol 0x1 []))) z2 z3 [3,3,2,2] 2 1 fun t x X Fr=>by revert b1 b2 o;exact d4 (by kernel_rfl)
def DC (w0:WW)(e2:Nat)(vv:Nat)(tv:Tok)(a:N2):SX Code Code:=sC ((atC (rM (wt w0)) (a 1) (a 2) (a 0) (a 4) [(a 3)])) [(a 0,ak [])] [(a 1,eZ 0),(a 2,ab [] e2),(a 3,ai (some (.int vv tv)))] (fun b f=>cV (atC (rM (wt w0)) (a 1) (a 2) (a 0) (a 4) [(a 3)]))
theorem O4 (w0:WW)(e2:Nat)(vv:Nat)(tv:Tok)(a:N2):eR w aa b1 b2 2 true (DC w0 e2 vv tv a):=
 eO B (ol (cond b2 0xd 0x22b2b2d) []) z2 z3 [0,0,0,0] 0 1
def LB (w0:WW)(e2:Nat)(vv:Nat)(tv:Tok)(i:Nat)(vs:LV)(o:ON)(a:N2):SX Code Code:=⟨cV (atC (rM (wt w0)) (a 1) (a 2) (a 0) (a 4) [(a 3)]),[(a 0,ak (dm kA o))],[(a 1,eZ i),(a 2,ab vs e2),(a 3,ai (some (.int vv tv)))],fun b f=>cV (atC (rM (wt w0)) (a 1) (a 2) (a 0) (a 4) [(a 3)]),fun b f=>[(a 0,ak (dm kA (some i)))],fun b f=>[(a 1,eZ (i+1)),(a 2,ab (vs++[.int i (b 1000)]) (e2+1)),(a 3,ai (some (.int vv tv)))]⟩
theorem O5 (w0:WW)(e2:Nat)(vv:Nat)(tv:Tok)(i:Nat)(vs:LV)(o:ON)(a:N2)(hi:i<5)(hv:decide ((i:Int)≠(vv:Int))=true)(hb:vs.length≤1000):eR w aa b1 b2 2 true (LB w0 e2 vv tv i vs o a):=
 eO B (ol 0x2b2 (.u [1] (lM i hi)::(ol 0x2224 (.u [] (xk i vv true hv)::(ol 0x2b3 (.u [2] (bD vs hb)::(ol 0xd []))))))) (fe [(2,0)]) z3 [2,1,0,0] 0 1 fun t x X Fr=>by revert b1 b2 o;exact d4 (by kernel_rfl)
def LC (w0:WW)(e2:Nat)(vv:Nat)(tv:Tok)(i:Nat)(vs:LV)(o:ON)(a:N2):SX Code Code:=⟨cV (atC (rM (wt w0)) (a 1) (a 2) (a 0) (a 4) [(a 3)]),[(a 0,ak (dm kA o))],[(a 1,eZ i),(a 2,ab vs e2),(a 3,ai (some (.int vv tv)))],fun b f=>cV (atC (rM (wt w0)) (a 1) (a 2) (a 0) (a 4) [(a 3)]),fun b f=>[(a 0,ak (dm kA (some i)))],fun b f=>[(a 1,eZ (i+1)),(a 2,ab vs e2),(a 3,ai (some (.int vv tv)))]⟩
theorem O6 (w0:WW)(e2:Nat)(vv:Nat)(tv:Tok)(i:Nat)(vs:LV)(o:ON)(a:N2)(hi:i<5)(hv:decide ((i:Int)≠(vv:Int))=false):eR w aa b1 b2 2 true (LC w0 e2 vv tv i vs o a):=
 eO B (ol 0x2b2 (.u [1] (lM i hi)::(ol 0x2224 (.u [] (xk i vv false hv)::(ol 0xd []))))) z2 z3 [1,0,0,0] 0 1 fun t x X Fr=>by revert b1 b2 o;exact d4 (by kernel_rfl)
def LD (w0:WW)(e2:Nat)(vv:Nat)(tv:Tok)(vs:LV)(o:ON)(a:N2):SX Code Result:=sB (cV (atC (rM (wt w0)) (a 1) (a 2) (a 0) (a 4) [(a 3)])) [(a 0,ak (dm kA o))] [(a 1,eZ 5),(a 2,ab vs e2),(a 3,ai (some (.int vv tv)))] (fun b f=> .ok .next) (fun b f=>[(a 2,ab vs e2),(a 3,ai (some (.int vv tv)))])
theorem O7 (w0:WW)(e2:Nat)(vv:Nat)(tv:Tok)(vs:LV)(o:ON)(a:N2){frx:OE}:eP w aa b1 b2 2 frx true true (LD w0 e2 vv tv vs o a):=
 tX B aO.none (ol 0x2b2 (.u [1] (sh)::(ol 0x1 []))) z2 z3 [2,2,2] 2 1 fun t x X Fr=>by revert b1 b2 o;exact d4 (by kernel_rfl)
def DD (w0:WW)(e2:Nat)(wv:LV)(we vc:Nat)(tc:Tok)(a:N2):SX Code Code:=sC ((atC (rN (wt w0)) (a 1) (a 2) (a 0) (a 6) [(a 3),(a 4)])) [(a 0,ak [])] [(a 1,eZ 0),(a 2,ab [] e2),(a 3,cR (a 5)),(a 4,ai (some (.int vc tc))),(a 5,ab wv we)] (fun b f=>cV (atC (rN (wt w0)) (a 1) (a 2) (a 0) (a 6) [(a 3),(a 4)]))
theorem O8 (w0:WW)(e2:Nat)(wv:LV)(we vc:Nat)(tc:Tok)(a:N2):eR w aa b1 b2 2 true (DD w0 e2 wv we vc tc a):=
 eO B (ol (cond b2 0xd 0x22b2b2d) []) z2 z3 [0,0,0,0,0,0] 0 1
def LF (w0:WW)(e2:Nat)(wv:LV)(we vc:Nat)(tc:Tok)(i:Nat)(vs:LV)(o:ON)(p q:LN)(tp tq:Tok)(a:N2):SX Code Code:=⟨cV (atC (rN (wt w0)) (a 1) (a 2) (a 0) (a 6) [(a 3),(a 4)]),[(a 0,ak (dm kU o))],[(a 1,eZ i),(a 2,ab vs e2),(a 3,cR (a 5)),(a 4,ai (some (.int vc tc))),(a 5,ab wv we)],fun b f=>cV (atC (rN (wt w0)) (a 1) (a 2) (a 0) (a 6) [(a 3),(a 4)]),fun b f=>[(a 0,ak (dm kU (some i)))],fun b f=>[(a 1,eZ (i+1)),(a 2,ab (vs++[.int i (b 1000)]) (e2+1)),(a 3,cR (a 5)),(a 4,ai (some (.int vc tc))),(a 5,ab wv we)]⟩
theorem O9 (w0:WW)(e2:Nat)(wv:LV)(we vc:Nat)(tc:Tok)(i:Nat)(vs:LV)(o:ON)(p q:LN)(tp tq:Tok)(a:N2)(hi:i<5)(E9:i<1000)(LG:wv[i]?=some (.str (aj 47 p) tp)) (H7:vc<1000) (H8:wv[vc]?=some (.str (aj 47 q) tq)) (hp:bY p) (hq:bY q) (hv:((aj 47 (eY p q)).cps.toList==(aj 47 q).cps.toList)=true) (hb:vs.length≤1000):eR w aa b1 b2 4 true (LF w0 e2 wv we vc tc i vs o p q tp tq a):=
 eO B (ol 0x2b2 (.u [1] (lM i hi)::(ol 0x22a42666 (.u [5] (aY wv i (.str (aj 47 p) tp) E9 LG)::(ol 0x56111 (.u [0] (aY wv vc (.str (aj 47 q) tq) H7 H8)::(ol 0xa (.u [0] (Du B p q hp hq tp tq)::(ol 0x67222 (.u [1] (aY wv vc (.str (aj 47 q) tq) H7 H8)::(.u [] (vL (aj 47 (eY p q)) (aj 47 q) true hv)::(ol 0x4b5 (.u [4] (bD vs hb)::(ol 0xd [])))))))))))))) (fe [(2,0)]) z3 [4,3,0,2,2,0] 1 1 fun t x X Fr=>by revert b1 b2 o;exact d4 (by kernel_rfl)
def LH (w0:WW)(e2:Nat)(wv:LV)(we vc:Nat)(tc:Tok)(i:Nat)(vs:LV)(o:ON)(p q:LN)(tp tq:Tok)(a:N2):SX Code Code:=⟨cV (atC (rN (wt w0)) (a 1) (a 2) (a 0) (a 6) [(a 3),(a 4)]),[(a 0,ak (dm kU o))],[(a 1,eZ i),(a 2,ab vs e2),(a 3,cR (a 5)),(a 4,ai (some (.int vc tc))),(a 5,ab wv we)],fun b f=>cV (atC (rN (wt w0)) (a 1) (a 2) (a 0) (a 6) [(a 3),(a 4)]),fun b f=>[(a 0,ak (dm kU (some i)))],fun b f=>[(a 1,eZ (i+1)),(a 2,ab vs e2),(a 3,cR (a 5)),(a 4,ai (some (.int vc tc))),(a 5,ab wv we)]⟩
theorem O' (w0:WW)(e2:Nat)(wv:LV)(we vc:Nat)(tc:Tok)(i:Nat)(vs:LV)(o:ON)(p q:LN)(tp tq:Tok)(a:N2)(hi:i<5)(E9:i<1000)(LG:wv[i]?=some (.str (aj 47 p) tp)) (H7:vc<1000) (H8:wv[vc]?=some (.str (aj 47 q) tq)) (hp:bY p) (hq:bY q) (hv:((aj 47 (eY p q)).cps.toList==(aj 47 q).cps.toList)=false):eR w aa b1 b2 4 true (LH w0 e2 wv we vc tc i vs o p q tp tq a):=
 eO B (ol 0x2b2 (.u [1] (lM i hi)::(ol 0x22a42666 (.u [5] (aY wv i (.str (aj 47 p) tp) E9 LG)::(ol 0x56111 (.u [0] (aY wv vc (.str (aj 47 q) tq) H7 H8)::(ol 0xa (.u [0] (Du B p q hp hq tp tq)::(ol 0x67222 (.u [1] (aY wv vc (.str (aj 47 q) tq) H7 H8)::(.u [] (vL (aj 47 (eY p q)) (aj 47 q) false hv)::(ol 0xd [])))))))))))) z2 z3 [3,2,2,2,2,0] 1 1 fun t x X Fr=>by revert b1 b2 o;exact d4 (by kernel_rfl)
def LI (w0:WW)(e2:Nat)(wv:LV)(we vc:Nat)(tc:Tok)(vs:LV)(o:ON)(a:N2):SX Code Result:=sB (cV (atC (rN (wt w0)) (a 1) (a 2) (a 0) (a 6) [(a 3),(a 4)])) [(a 0,ak (dm kU o))] [(a 1,eZ 5),(a 2,ab vs e2),(a 3,cR (a 5)),(a 4,ai (some (.int vc tc))),(a 5,ab wv we)] (fun b f=> .ok .next) (fun b f=>[(a 2,ab vs e2),(a 3,cR (a 5)),(a 4,ai (some (.int vc tc))),(a 5,ab wv we)])
theorem Pa (w0:WW)(e2:Nat)(wv:LV)(we vc:Nat)(tc:Tok)(vs:LV)(o:ON)(a:N2){frx:OE}:eP w aa b1 b2 2 frx true true (LI w0 e2 wv we vc tc vs o a):=
 tX B aO.none (ol 0x2b2 (.u [1] (sh)::(ol 0x1 []))) z2 z3 [2,2,2,2,2] 2 1 fun t x X Fr=>by revert b1 b2 o;exact d4 (by kernel_rfl)
def Ay (w0:WW)(e e2 ae u:Nat)(xs ls vs:LV)(ow:ON)(a:N2):SX Code Code:=sC ((Cg (atC (hY (wt w0)) (a 1) (a 2) (a 0) (a 6) [(a 7),(a 4)]))) [(a 0,ak (uw u ow))] [(a 1,aq (a 3) 0),(a 2,ab vs e2),(a 3,ab xs e),(a 4,cR (a 5)),(a 5,ab ls ae)] (fun b f=>cV (Cg (atC (hY (wt w0)) (a 1) (a 2) (a 0) (a 6) [(a 7),(a 4)])))
theorem Pb (w0:WW)(e e2 ae u:Nat)(xs ls vs:LV)(ow:ON)(a:N2):eR w aa b1 b2 2 true (Ay w0 e e2 ae u xs ls vs ow a):=
 eO B (ol (cond b2 0xd 0x22b2b2d) []) z2 z3 [0,0,0,0,0,0] 0 1 fun t x X Fr=>by revert b1 b2 ow;exact d4 (by kernel_rfl)
def LJ (w0:WW)(e e2 ae u:Nat)(xs ls vs:LV)(ow:ON)(i d:Nat)(t0:Tok)(a:N2):SX Code Code:=⟨cV (Cg (atC (hY (wt w0)) (a 1) (a 2) (a 0) (a 6) [(a 7),(a 4)])),[(a 0,ak (uw u ow))],[(a 1,aq (a 3) i),(a 2,ab vs e2),(a 3,ab xs e),(a 4,cR (a 5)),(a 5,ab ls ae)],fun b f=>cV (Cg (atC (hY (wt w0)) (a 1) (a 2) (a 0) (a 6) [(a 7),(a 4)])),fun b f=>[(a 0,ak (uw u (some d)))],fun b f=>[(a 1,aq (a 3) (i+1)),(a 2,ab (vs++[.int d t0]) (e2+1)),(a 3,ab xs e),(a 4,cR (a 5)),(a 5,ab ls ae)]⟩
theorem Pc (w0:WW)(e e2 ae u:Nat)(xs ls vs:LV)(ow:ON)(i d:Nat)(t0:Tok)(a:N2)(hx:xs[i]?=some (.int d t0)) (hd:d<5) (ha:∀ t,∀ y∈ls,alike y (aZ t (.str (S [d+48]) 0))=true) (hv:∀ t,ls.any (fun y=>eqv y (aZ t (.str (S [d+48]) 0)))=true) (hb:vs.length≤1000):eR w aa b1 b2 2 true (LJ w0 e e2 ae u xs ls vs ow i d t0 a):=
 eO B (ol 0x2b2 (.u [1,2] (bQ xs i (.int d t0) hx)::(ol 0x33aa3 (.u [] (jt B d hd)::(ol 0x566 (.u [5] (jO ls (.str (S [d+48]) 0) true ha hv)::(ol 0x4b5 (.u [4] (bD vs hb)::(ol 0xd []))))))))) z2 z3 [4,2,0,1,1,0] 0 1 fun t x X Fr=>by revert b1 b2 ow;exact d4 (by kernel_rfl)
def LL (w0:WW)(e e2 ae u:Nat)(xs ls vs:LV)(ow:ON)(i d:Nat)(t0:Tok)(a:N2):SX Code Code:=⟨cV (Cg (atC (hY (wt w0)) (a 1) (a 2) (a 0) (a 6) [(a 7),(a 4)])),[(a 0,ak (uw u ow))],[(a 1,aq (a 3) i),(a 2,ab vs e2),(a 3,ab xs e),(a 4,cR (a 5)),(a 5,ab ls ae)],fun b f=>cV (Cg (atC (hY (wt w0)) (a 1) (a 2) (a 0) (a 6) [(a 7),(a 4)])),fun b f=>[(a 0,ak (uw u (some d)))],fun b f=>[(a 1,aq (a 3) (i+1)),(a 2,ab vs e2),(a 3,ab xs e),(a 4,cR (a 5)),(a 5,ab ls ae)]⟩
theorem Pd (w0:WW)(e e2 ae u:Nat)(xs ls vs:LV)(ow:ON)(i d:Nat)(t0:Tok)(a:N2)(hx:xs[i]?=some (.int d t0)) (hd:d<5) (ha:∀ t,∀ y∈ls,alike y (aZ t (.str (S [d+48]) 0))=true) (hv:∀ t,ls.any (fun y=>eqv y (aZ t (.str (S [d+48]) 0)))=false):eR w aa b1 b2 2 true (LL w0 e e2 ae u xs ls vs ow i d t0 a):=
 eO B (ol 0x2b2 (.u [1,2] (bQ xs i (.int d t0) hx)::(ol 0x33aa3 (.u [] (jt B d hd)::(ol 0x566 (.u [5] (jO ls (.str (S [d+48]) 0) false ha hv)::(ol 0xd []))))))) z2 z3 [3,1,2,1,1,0] 0 1 fun t x X Fr=>by revert b1 b2 ow;exact d4 (by kernel_rfl)
def LM (w0:WW)(e e2 ae u:Nat)(xs ls vs:LV)(ow:ON)(i:Nat)(a:N2):SX Code Result:=sB (cV (Cg (atC (hY (wt w0)) (a 1) (a 2) (a 0) (a 6) [(a 7),(a 4)]))) [(a 0,ak (uw u ow))] [(a 1,aq (a 3) i),(a 2,ab vs e2),(a 3,ab xs e),(a 4,cR (a 5)),(a 5,ab ls ae)] (fun b f=> .ok .next) (fun b f=>[(a 2,ab vs e2),(a 3,ab xs e),(a 4,cR (a 5)),(a 5,ab ls ae)])
theorem Pe (w0:WW)(e e2 ae u:Nat)(xs ls vs:LV)(ow:ON)(i:Nat)(a:N2)(hx:xs[i]?=none) {frx:OE}:eP w aa b1 b2 2 frx true true (LM w0 e e2 ae u xs ls vs ow i a):=
 tX B aO.none (ol 0x2b2 (.u [1,2] (bA xs i hx)::(ol 0x1 []))) z2 z3 [3,3,2,2,2] 2 1 fun t x X Fr=>by revert b1 b2 ow;exact d4 (by kernel_rfl)
end
theorem uI:∀ (q:LN),q≠[]→(∀ d∈q,d<5)→(47∈aV 47 q↔q.length≠1)
 |[],h,_=>absurd rfl h
 |d::ds,_,h=>by
  have h0:=h d bT;rw[eB];cases ds with
  |nil=>simp
  |cons e ds=>simp
theorem xG {q:LN}(h:q≠[])(hd:∀ d∈q,d<5):(!(PySem.Builtin.Str.occurrences (aj 47 q) (S [47]) 0 (aj 47 q).length 1).isEmpty)=decide (q.length≠1):=by
 have z:=StrLaws.found_one (aj 47 q) 47;have e:decide (47∈(aj 47 q).cps.toList)=decide (q.length≠1):=by
  have:=uI q h hd;show decide (47∈aV 47 q)=_;simp only[this]
 rw[←e];exact z
noncomputable def aL (out:List LN):List LN:=out.filter fun q=>decide (q.length=1)
theorem range_succ (i:Nat)(p:Nat→Bool):(List.range (i+1)).filter p=(List.range i).filter p++if p i then[i] else[]:=by
 rw[List.range_succ,List.filter_append,dT];cases p i<;>rfl
theorem oA {p q:LN}(hp:p≠[]→∀ d∈p,d<5)(hq:∀ d∈q,d<5)(Pf:q≠[]):((aj 47 p).cps.toList==(aj 47 q).cps.toList)=decide (p=q):=by
 have key:(aj 47 p).cps.toList=(aj 47 q).cps.toList→p=q:=fun h=>by
  have h:aV 47 p=aV 47 q:=h;by_cases e:p=[]
  ·subst e
   cases q with
   |nil=>rfl
   |cons d ds=>rw[eB] at h;cases h
  ·have h1:=kn p e (hp e)
   have h2:=kn q Pf hq;have h3:aj 47 p=aj 47 q:=by unfold aj;rw[h]
   rw[h3,h2] at h1;have inj:∀ (l m:LN),l.map ao=m.map ao→l=m:=by
    intro l
    induction l with
    |nil=>intro m hm;cases m with|nil=>rfl|cons _ _=>cases hm
    |cons a l ih=>
     intro m hm;cases m with
     |nil=>cases hm
     |cons b m=>
      injection hm with h4 h5
      rw[qC h4,ih m h5]
   exact(inj _ _ h1).symm
 by_cases e:p=q
 ·subst e;simp
 ·rw[decide_eq_false e]
  cases hh:((aj 47 p).cps.toList==(aj 47 q).cps.toList) with
  |false=>rfl
  |true=>exact absurd (key (eq_of_beq hh)) e
theorem DE {p q:LN}(hp:∀ d∈p,d<5):∀ d∈eY p q,d<5:=by
 have eg:∀ (p q:LN),eY p q<+:p:=by
  intro p
  induction p with
  |nil=>intro q;cases q<;>exact List.prefix_refl _
  |cons a p ih=>
   intro q;cases q with
   |nil=>exact List.nil_prefix
   |cons b q=>
    unfold eY;split
    ·exact List.cons_prefix_cons.mpr ⟨rfl,ih q⟩
    ·exact List.nil_prefix
 intro d hd;exact hp d ((eg p q).subset hd)
theorem kT (l:LN)(τ:NT)(d:Nat):∀ t,∀ y∈ag (l.map ao) τ,alike y (aZ t (.str (S [d+48]) 0))=true:=by
 intro t
 induction l generalizing τ with
 |nil=>intro y hy;cases hy
 |cons a l ih=>
  intro y hy;rcases ba.mp (show y∈Value.str (ao a) (τ 0)::ag (l.map ao) (fun i=>τ (i+1)) from hy) with rfl|hy
  ·rfl
  ·exact ih _ y hy
theorem oB (l:LN)(τ:NT)(d:Nat){v:Bool}(hv:decide (d∈l)=v):∀ t,(ag (l.map ao) τ).any (fun y=>eqv y (aZ t (.str (S [d+48]) 0)))=v:=by
 intro t;subst hv
 induction l generalizing τ with
 |nil=>rfl
 |cons a l ih=>
  show(eqv (.str (ao a) (τ 0)) (.str (ao d) t)||(ag (l.map ao) (fun i=>τ (i+1))).any _)=_;rw[ih];have:eqv (.str (ao a) (τ 0)) (.str (ao d) t)=decide (a=d):=mI a d;rw[this];by_cases h:a=d
  ·subst h;simp
  ·have h2:¬ d=a:=fun e=>h e.symm
   simp[h,h2]
section
variable (b1 b2:Bool){w:WW}{aa:Heap}(B:BB w aa b1 b2)
include B
theorem DF (w0:WW)(a:N2)(out:List LN)(ho:∀ q∈out,q≠[]∧∀ d∈q,d<5)(hl:out.length≤900)(pl:LN)(ib:out.getLast?=some pl)(τ:NT)(e e2:Nat){fr:OE}{lv:Nat}(eh:2≤lv)(x:Nat→Tk):
  gh w aa b1 b2 lv fr ((DA w0 e e2 (ag (out.map (aj 47)) τ) a).c) (rt [(a 0,ak [])] x++[(a 1,aq (a 3) 0),(a 2,ab [] e2),(a 3,ab (ag (out.map (aj 47)) τ) e)])
   (fun r L=>∃ τ2 aQ x',r=.ok .next∧L=rt [(a 0,ak (eI d6 (some (aj 47 pl))))] x'++[(a 2,ab (ag ((aL out).map (aj 47)) τ2) aQ),(a 3,ab (ag (out.map (aj 47)) τ) e)]):=by
 refine(OR b1 b2 B w0 e e2 (ag (out.map (aj 47)) τ) a).z eh (fun b f x'=>?_) (fun _=>0) x;refine bw out.length (fun i L=>∃ (o:Option Str)(x:Nat→Tk)(τ2:NT)(aQ:Nat),(i=out.length→o=some (aj 47 pl))∧L=rt [(a 0,ak (eI d6 o))] x++[(a 1,aq (a 3) i),(a 2,ab (ag ((aL (out.take i)).map (aj 47)) τ2) aQ),(a 3,ab (ag (out.map (aj 47)) τ) e)]) ?_ ?_ (bZ _) ⟨none,x',fun _=>0,e2,?_,rfl⟩
 ·rintro i L hi ⟨o,x,τ2,aQ,yN,rfl⟩ ih
  have hq:=ho out[i] (List.getElem_mem hi);have hx:(ag (out.map (aj 47)) τ)[i]?=some (.str (aj 47 out[i]) (τ i)):=eA _ _ _ _ (by rw[List.getElem?_map,cy hi];rfl)
  have hb:(ag ((aL (out.take i)).map (aj 47)) τ2).length≤1000:=by
   rw[aI,bU];have:=List.length_filter_le (fun q:LN=>decide (q.length=1)) (out.take i);rw[dR] at this;unfold aL;omega
  have iz:i+1=out.length→some (aj 47 out[i])=some (aj 47 pl):=fun h=>by
   rw[List.getLast?_eq_getElem?,show out.length-1=i by omega,cy hi] at ib;injection ib with ib
   rw[ib]
  have hs:=xG hq.1 hq.2;by_cases hm:out[i].length=1
  ·refine(OS b1 b2 B w0 e aQ (ag (out.map (aj 47)) τ) i _ o (aj 47 out[i]) (τ i) a hx (by rw[hs];simpa using hm) hb).z eh (fun b f cG=>ih _ ⟨some (aj 47 out[i]),cG,bW ((aL (out.take i)).map (aj 47)).length τ2 (τ i),aQ+1,iz,?_⟩) (fun _=>0) x
   have e:aL (out.take (i+1))=aL (out.take i)++[out[i]]:=by
    unfold aL;rw[dv hi,List.filter_append,dT,if_pos (cT hm)];rfl
   rw[e,List.map_append];show _=rt _ _++[_,(a 2,ab (ag ((aL (out.take i)).map (aj 47)++[aj 47 out[i]]) _) _),_];rw[←dJ];rfl
  ·refine(OT b1 b2 B w0 e aQ (ag (out.map (aj 47)) τ) i _ o (aj 47 out[i]) (τ i) a hx (by rw[hs];simpa using hm)).z eh (fun b f cG=>ih _ ⟨some (aj 47 out[i]),cG,τ2,aQ,iz,?_⟩) (fun _=>0) x
   have e:aL (out.take (i+1))=aL (out.take i):=by
    unfold aL;rw[dv hi,List.filter_append,dT,if_neg (by simpa using hm)];exact ck _
   rw[e];rfl
 ·rintro L ⟨o,x,τ2,aQ,yN,rfl⟩
  have yN:=yN rfl;subst yN;rw[List.take_length];have z:=(OU b1 b2 B w0 e aQ (ag (out.map (aj 47)) τ) out.length (ag ((aL out).map (aj 47)) τ2) (some (aj 47 pl)) a (fG _ _ _ (eU (by simp))) (frx:=fr)).use [] (fun _=>0) x;refine(aJ.perm z ?_).mono eh fun r L hP=>?_
  ·show List.Perm _ (rt [(a 0,ak (eI d6 (some (aj 47 pl))))] x++[(a 1,aq (a 3) out.length),(a 2,ab (ag ((aL out).map (aj 47)) τ2) aQ),(a 3,ab (ag (out.map (aj 47)) τ) e)]++[])
   rw[ck]
  ·obtain⟨b,f,cG,hr,rfl⟩:=hP
   exact⟨τ2,aQ,cG,hr,ck _⟩
 ·intro h0
  have:out=[]:=List.length_eq_zero_iff.mp h0.symm;rw[this] at ib;cases ib
theorem DG (w0:WW)(a:N2)(out:List LN)(ho:∀ q∈out,q≠[]∧∀ d∈q,d<5)(hl:out.length≤900)(pl:LN)(ib:out.getLast?=some pl)(τ:NT)(e e2:Nat){fr:OE}{lv:Nat}(eh:2≤lv)(x:Nat→Tk):
  gh w aa b1 b2 lv fr ((DB w0 e e2 (ag (out.map (aj 47)) τ) a).c) (rt [(a 0,ak [])] x++[(a 1,aq (a 3) 0),(a 2,ab [] e2),(a 3,ab (ag (out.map (aj 47)) τ) e)])
   (fun r L=>∃ τ2 aQ x',r=.ok .next∧L=rt [(a 0,ak (eI d6 (some (aj 47 pl))))] x'++[(a 2,ab (ag ((aL out).map (aj 47)) τ2) aQ),(a 3,ab (ag (out.map (aj 47)) τ) e)]):=by
 refine(OW b1 b2 B w0 e e2 (ag (out.map (aj 47)) τ) a).z eh (fun b f x'=>?_) (fun _=>0) x;refine bw out.length (fun i L=>∃ (o:Option Str)(x:Nat→Tk)(τ2:NT)(aQ:Nat),(i=out.length→o=some (aj 47 pl))∧L=rt [(a 0,ak (eI d6 o))] x++[(a 1,aq (a 3) i),(a 2,ab (ag ((aL (out.take i)).map (aj 47)) τ2) aQ),(a 3,ab (ag (out.map (aj 47)) τ) e)]) ?_ ?_ (bZ _) ⟨none,x',fun _=>0,e2,?_,rfl⟩
 ·rintro i L hi ⟨o,x,τ2,aQ,yN,rfl⟩ ih
  have hq:=ho out[i] (List.getElem_mem hi);have hx:(ag (out.map (aj 47)) τ)[i]?=some (.str (aj 47 out[i]) (τ i)):=eA _ _ _ _ (by rw[List.getElem?_map,cy hi];rfl)
  have hb:(ag ((aL (out.take i)).map (aj 47)) τ2).length≤1000:=by
   rw[aI,bU];have:=List.length_filter_le (fun q:LN=>decide (q.length=1)) (out.take i);rw[dR] at this;unfold aL;omega
  have iz:i+1=out.length→some (aj 47 out[i])=some (aj 47 pl):=fun h=>by
   rw[List.getLast?_eq_getElem?,show out.length-1=i by omega,cy hi] at ib;injection ib with ib
   rw[ib]
  have hs:=xG hq.1 hq.2;by_cases hm:out[i].length=1
  ·refine(OX b1 b2 B w0 e aQ (ag (out.map (aj 47)) τ) i _ o (aj 47 out[i]) (τ i) a hx (by rw[hs];simpa using hm) hb).z eh (fun b f cG=>ih _ ⟨some (aj 47 out[i]),cG,bW ((aL (out.take i)).map (aj 47)).length τ2 (τ i),aQ+1,iz,?_⟩) (fun _=>0) x
   have e:aL (out.take (i+1))=aL (out.take i)++[out[i]]:=by
    unfold aL;rw[dv hi,List.filter_append,dT,if_pos (cT hm)];rfl
   rw[e,List.map_append];show _=rt _ _++[_,(a 2,ab (ag ((aL (out.take i)).map (aj 47)++[aj 47 out[i]]) _) _),_];rw[←dJ];rfl
  ·refine(OY b1 b2 B w0 e aQ (ag (out.map (aj 47)) τ) i _ o (aj 47 out[i]) (τ i) a hx (by rw[hs];simpa using hm)).z eh (fun b f cG=>ih _ ⟨some (aj 47 out[i]),cG,τ2,aQ,iz,?_⟩) (fun _=>0) x
   have e:aL (out.take (i+1))=aL (out.take i):=by
    unfold aL;rw[dv hi,List.filter_append,dT,if_neg (by simpa using hm)];exact ck _
   rw[e];rfl
 ·rintro L ⟨o,x,τ2,aQ,yN,rfl⟩
  have yN:=yN rfl;subst yN;rw[List.take_length];have z:=(OZ b1 b2 B w0 e aQ (ag (out.map (aj 47)) τ) out.length (ag ((aL out).map (aj 47)) τ2) (some (aj 47 pl)) a (fG _ _ _ (eU (by simp))) (frx:=fr)).use [] (fun _=>0) x;refine(aJ.perm z ?_).mono eh fun r L hP=>?_
  ·show List.Perm _ (rt [(a 0,ak (eI d6 (some (aj 47 pl))))] x++[(a 1,aq (a 3) out.length),(a 2,ab (ag ((aL out).map (aj 47)) τ2) aQ),(a 3,ab (ag (out.map (aj 47)) τ) e)]++[])
   rw[ck]
  ·obtain⟨b,f,cG,hr,rfl⟩:=hP
   exact⟨τ2,aQ,cG,hr,ck _⟩
 ·intro h0
  have:out=[]:=List.length_eq_zero_iff.mp h0.symm;rw[this] at ib;cases ib
theorem xH (w0:WW)(a:N2)(row:LN)(τ:NT)(e e2:Nat)(vv:Nat)(tv:Tok)(hlen:row.length≤100){fr:OE}{lv:Nat}(eh:2≤lv)(x:Nat→Tk):
  gh w aa b1 b2 lv fr ((Ax w0 e e2 (af row τ) vv tv a).c) (rt [(a 0,ak [])] x++[(a 1,aq (a 3) 0),(a 2,ab [] e2),(a 3,ab (af row τ) e),(a 4,ai (some (.int vv tv)))])
   (fun r L=>∃ τ2 aQ z L1,z.isSome=!row.isEmpty∧r=.ok .next∧nL L1=[(a 0,ak (dm kB z))]∧L=L1++[(a 2,ab (af (row.filter fun d=>decide (d≠vv)) τ2) aQ),(a 3,ab (af row τ) e),(a 4,ai (some (.int vv tv)))]):=by
 refine(O0 b1 b2 B w0 e e2 (af row τ) vv tv a).z eh (fun b f x'=>?_) (fun _=>0) x;refine bw row.length (fun i L=>∃ (o:ON)(x:Nat→Tk)(τ2:NT)(aQ:Nat),o.isSome=decide (0<i)∧L=rt [(a 0,ak (dm kB o))] x++[(a 1,aq (a 3) i),(a 2,ab (af ((row.take i).filter fun d=>decide (d≠vv)) τ2) aQ),(a 3,ab (af row τ) e),(a 4,ai (some (.int vv tv)))]) ?_ ?_ (bZ _) ⟨none,x',fun _=>0,e2,rfl,rfl⟩
 ·rintro i L hi ⟨o,x,τ2,aQ,ho,rfl⟩ ih
  have hx:(af row τ)[i]?=some (.int (row[i]:Nat) (τ i)):=cf _ _ _ _ (cy hi)
  have hb:(af ((row.take i).filter fun d=>decide (d≠vv)) τ2).length≤1000:=by
   rw[bf];have:=List.length_filter_le (fun d=>decide (d≠vv)) (row.take i);rw[dR] at this;omega
  by_cases hm:row[i]=vv
  ·refine(O2 b1 b2 B w0 e aQ (af row τ) vv tv i _ o row[i] (τ i) a hx (decide_eq_false (by omega))).z eh (fun b f cG=>ih _ ⟨some row[i],cG,τ2,aQ,by simp,?_⟩) (fun _=>0) x
   have e:(row.take (i+1)).filter (fun d=>decide (d≠vv))=(row.take i).filter fun d=>decide (d≠vv):=by
    rw[dv hi,List.filter_append,dT,if_neg (by simpa using hm)];exact ck _
   rw[e];rfl
  ·refine(O1 b1 b2 B w0 e aQ (af row τ) vv tv i _ o row[i] (τ i) a hx (cT (by omega)) hb).z eh (fun b f cG=>ih _ ⟨some row[i],cG,bW ((row.take i).filter fun d=>decide (d≠vv)).length τ2 (τ i),aQ+1,by simp,?_⟩) (fun _=>0) x
   have e:(row.take (i+1)).filter (fun d=>decide (d≠vv))=(row.take i).filter (fun d=>decide (d≠vv))++[row[i]]:=by
    rw[dv hi,List.filter_append,dT,if_pos (cT hm)];rfl
   rw[e,←cn];rfl
 ·rintro L ⟨o,x,τ2,aQ,ho,rfl⟩
  rw[fT lr];refine(O3 b1 b2 B w0 e aQ (af row τ) vv tv row.length _ o a (cF _ _ _ (eU lr)) (fun _=>0) x).mono eh fun r L hP=>?_;obtain⟨b,f,L1,hL,hr,hn⟩:=hP;exact⟨τ2,aQ,o,L1,by rw[ho];exact df _,hr,hn,hL⟩
theorem DH (w0:WW)(a:N2)(e2 vv:Nat)(tv:Tok){fr:OE}{lv:Nat}(eh:2≤lv)(x:Nat→Tk):
  gh w aa b1 b2 lv fr ((DC w0 e2 vv tv a).c) (rt [(a 0,ak [])] x++[(a 1,eZ 0),(a 2,ab [] e2),(a 3,ai (some (.int vv tv)))])
   (fun r L=>∃ τ2 aQ L1,r=.ok .next∧nL L1=[(a 0,ak [(kA,.int 4 0)])]∧L=L1++[(a 2,ab (af ((List.range 5).filter fun d=>decide (d≠vv)) τ2) aQ),(a 3,ai (some (.int vv tv)))]):=by
 refine(O4 b1 b2 B w0 e2 vv tv a).z eh (fun b f x'=>?_) (fun _=>0) x;refine bw 5 (fun i L=>∃ (o:ON)(x:Nat→Tk)(τ2:NT)(aQ:Nat),(i=5→o=some 4)∧L=rt [(a 0,ak (dm kA o))] x++[(a 1,eZ i),(a 2,ab (af ((List.range i).filter fun d=>decide (d≠vv)) τ2) aQ),(a 3,ai (some (.int vv tv)))]) ?_ ?_ (bZ _) ⟨none,x',fun _=>0,e2,(fun h=>absurd h (by decide)),rfl⟩
 ·rintro i L hi ⟨o,x,τ2,aQ,ho,rfl⟩ ih
  have hb:(af ((List.range i).filter fun d=>decide (d≠vv)) τ2).length≤1000:=by
   rw[bf];have:=List.length_filter_le (fun d=>decide (d≠vv)) (List.range i);rw[List.length_range] at this;omega
  by_cases hm:i=vv
  ·refine(O6 b1 b2 B w0 aQ vv tv i _ o a hi (decide_eq_false (by omega))).z eh (fun b f cG=>ih _ ⟨some i,cG,τ2,aQ,(fun h=>by congr;omega),?_⟩) (fun _=>0) x
   rw[range_succ,if_neg (by simpa using hm),ck];rfl
  ·refine(O5 b1 b2 B w0 aQ vv tv i _ o a hi (cT (by omega)) hb).z eh (fun b f cG=>ih _ ⟨some i,cG,bW ((List.range i).filter fun d=>decide (d≠vv)).length τ2 (b 1000),aQ+1,(fun h=>by congr;omega),?_⟩) (fun _=>0) x
   rw[range_succ,if_pos (cT hm),←cn];rfl
 ·rintro L ⟨o,x,τ2,aQ,ho,rfl⟩
  have ho:=ho rfl;subst ho;refine(O7 b1 b2 B w0 aQ vv tv _ (some 4) a (fun _=>0) x).mono eh fun r L hP=>?_;obtain⟨b,f,L1,hL,hr,hn⟩:=hP;exact⟨τ2,aQ,L1,hr,hn,hL⟩
theorem DI (w0:WW)(a:N2)(W:Nat→List Nat)(hW:∀ k<5,bY (W k))(τ:NT)(e2 we vc:Nat)(Ac:vc<5)(tc:Tok){fr:OE}{lv:Nat}(eh:4≤lv)(x:Nat→Tk):
  gh w aa b1 b2 lv fr ((DD w0 e2 (aE W τ) we vc tc a).c) (rt [(a 0,ak [])] x++[(a 1,eZ 0),(a 2,ab [] e2),(a 3,cR (a 5)),(a 4,ai (some (.int vc tc))),(a 5,ab (aE W τ) we)])
   (fun r L=>∃ τ2 aQ L1,r=.ok .next∧nL L1=[(a 0,ak [(kU,.int 4 0)])]∧L=L1++[(a 2,ab (af ((List.range 5).filter fun u=>decide (eY (W u) (W vc)=W vc)) τ2) aQ),(a 3,cR (a 5)),(a 4,ai (some (.int vc tc))),(a 5,ab (aE W τ) we)]):=by
 refine(O8 b1 b2 B w0 e2 (aE W τ) we vc tc a).z (by omega) (fun b f x'=>?_) (fun _=>0) x;refine bw 5 (fun i L=>∃ (o:ON)(x:Nat→Tk)(τ2:NT)(aQ:Nat),(i=5→o=some 4)∧L=rt [(a 0,ak (dm kU o))] x++[(a 1,eZ i),(a 2,ab (af ((List.range i).filter fun u=>decide (eY (W u) (W vc)=W vc)) τ2) aQ),(a 3,cR (a 5)),(a 4,ai (some (.int vc tc))),(a 5,ab (aE W τ) we)]) ?_ ?_ (bZ _) ⟨none,x',fun _=>0,e2,(fun h=>absurd h (by decide)),rfl⟩
 ·rintro i L hi ⟨o,x,τ2,aQ,ho,rfl⟩ ih
  have hb:(af ((List.range i).filter fun u=>decide (eY (W u) (W vc)=W vc)) τ2).length≤1000:=by
   rw[bf];have:=List.length_filter_le (fun u=>decide (eY (W u) (W vc)=W vc)) (List.range i);rw[List.length_range] at this;omega
  have hs:=oA (p:=eY (W i) (W vc)) (q:=W vc) (fun _=>DE (hW i hi).lt) (hW vc Ac).lt (hW vc Ac).ne;by_cases hm:eY (W i) (W vc)=W vc
  ·refine(O9 b1 b2 B w0 aQ (aE W τ) we vc tc i _ o (W i) (W vc) (τ i) (τ vc) a hi (by omega) (di W τ hi) (by omega) (di W τ Ac) (hW i hi) (hW vc Ac) (by rw[hs];exact cT hm) hb).z eh (fun b f cG=>ih _ ⟨some i,cG,bW ((List.range i).filter fun u=>decide (eY (W u) (W vc)=W vc)).length τ2 (b 1000),aQ+1,(fun h=>by congr;omega),?_⟩) (fun _=>0) x
   rw[range_succ,if_pos (cT hm),←cn];rfl
  ·refine(O' b1 b2 B w0 aQ (aE W τ) we vc tc i _ o (W i) (W vc) (τ i) (τ vc) a hi (by omega) (di W τ hi) (by omega) (di W τ Ac) (hW i hi) (hW vc Ac) (by rw[hs];exact decide_eq_false hm)).z eh (fun b f cG=>ih _ ⟨some i,cG,τ2,aQ,(fun h=>by congr;omega),?_⟩) (fun _=>0) x
   rw[range_succ,if_neg (by simpa using hm),ck];rfl
 ·rintro L ⟨o,x,τ2,aQ,ho,rfl⟩
  have ho:=ho rfl;subst ho;refine(Pa b1 b2 B w0 aQ (aE W τ) we vc tc _ (some 4) a (fun _=>0) x).mono (by omega) fun r L hP=>?_;obtain⟨b,f,L1,hL,hr,hn⟩:=hP;exact⟨τ2,aQ,L1,hr,hn,hL⟩
theorem xI (w0:WW)(a:N2)(row:LN)(iJ:∀ d∈row,d<5)(τ:NT)(e e2 ae u:Nat)(av ms:LN)(bH c9:NT)(ow:ON)(hlen:row.length≤100)(qX:ms.length≤800){fr:OE}{lv:Nat}(eh:2≤lv)(x:Nat→Tk):
  gh w aa b1 b2 lv fr ((Ay w0 e e2 ae u (af row τ) (ag (av.map ao) bH) (af ms c9) ow a).c) (rt [(a 0,ak (uw u ow))] x++[(a 1,aq (a 3) 0),(a 2,ab (af ms c9) e2),(a 3,ab (af row τ) e),(a 4,cR (a 5)),(a 5,ab (ag (av.map ao) bH) ae)])
   (fun r L=>∃ τ2 aQ z L1,(row=[]→z=ow)∧(row≠[]→z.isSome)∧r=.ok .next∧nL L1=nL (rt [(a 0,ak (uw u z))] x)∧L=L1++[(a 2,ab (af (ms++row.filter fun d=>decide (d∈av)) τ2) aQ),(a 3,ab (af row τ) e),(a 4,cR (a 5)),(a 5,ab (ag (av.map ao) bH) ae)]):=by
 refine(Pb b1 b2 B w0 e e2 ae u (af row τ) (ag (av.map ao) bH) (af ms c9) ow a).z eh (fun b f x'=>?_) (fun _=>0) x;refine bw row.length (fun i L=>∃ (o:ON)(x:Nat→Tk)(τ2:NT)(aQ:Nat),(i=0→o=ow)∧(0<i→o.isSome)∧L=rt [(a 0,ak (uw u o))] x++[(a 1,aq (a 3) i),(a 2,ab (af (ms++(row.take i).filter fun d=>decide (d∈av)) τ2) aQ),(a 3,ab (af row τ) e),(a 4,cR (a 5)),(a 5,ab (ag (av.map ao) bH) ae)]) ?_ ?_ (bZ _) ⟨ow,x',c9,e2,fun _=>rfl,fun h=>absurd h (by omega),?_⟩
 ·rintro i L hi ⟨o,x,τ2,aQ,ho,Bb,rfl⟩ ih
  have hx:(af row τ)[i]?=some (.int (row[i]:Nat) (τ i)):=cf _ _ _ _ (cy hi)
  have hb:(af (ms++(row.take i).filter fun d=>decide (d∈av)) τ2).length≤1000:=by
   rw[bf,List.length_append];have:=List.length_filter_le (fun d=>decide (d∈av)) (row.take i);rw[dR] at this;omega
  by_cases hm:row[i]∈av
  ·refine(Pc b1 b2 B w0 e aQ ae u (af row τ) (ag (av.map ao) bH) _ o i row[i] (τ i) a hx (iJ _ (List.getElem_mem hi)) (kT av bH row[i]) (oB av bH row[i] (cT hm)) hb).z eh (fun b f cG=>ih _ ⟨some row[i],cG,bW (ms++(row.take i).filter fun d=>decide (d∈av)).length τ2 (τ i),aQ+1,fun h=>by omega,fun _=>rfl,?_⟩) (fun _=>0) x
   have e:(row.take (i+1)).filter (fun d=>decide (d∈av))=(row.take i).filter (fun d=>decide (d∈av))++[row[i]]:=by
    rw[dv hi,List.filter_append,dT,if_pos (cT hm)];rfl
   rw[e,←a5,←cn];rfl
  ·refine(Pd b1 b2 B w0 e aQ ae u (af row τ) (ag (av.map ao) bH) _ o i row[i] (τ i) a hx (iJ _ (List.getElem_mem hi)) (kT av bH row[i]) (oB av bH row[i] (decide_eq_false hm))).z eh (fun b f cG=>ih _ ⟨some row[i],cG,τ2,aQ,fun h=>by omega,fun _=>rfl,?_⟩) (fun _=>0) x
   have e:(row.take (i+1)).filter (fun d=>decide (d∈av))=(row.take i).filter fun d=>decide (d∈av):=by
    rw[dv hi,List.filter_append,dT,if_neg (by simpa using hm)];exact ck _
   rw[e];rfl
 ·rintro L ⟨o,x1,τ2,aQ,ho,Bb,rfl⟩
  rw[fT lr];refine(Pe b1 b2 B w0 e aQ ae u (af row τ) (ag (av.map ao) bH) _ o row.length a (cF _ _ _ (eU lr)) (fun _=>0) x1).mono eh fun r L hP=>?_;obtain⟨b,f,L1,hL,hr,hn⟩:=hP;refine⟨τ2,aQ,o,L1,fun h=>ho (by rw[h];rfl),fun h=>Bb (List.length_pos_iff.mpr h),hr,?_,hL⟩;rw[hn];cases o<;>rfl
 ·rw[List.take_zero,List.filter_nil,ck]
  rfl
end
section
variable {b1 b2:Bool}{w:WW}{aa:Heap}
def H9 (B:BB w aa b1 b2)(w0:WW)(τ:NT)(vv:Nat)(tv:Tok):gw w aa b1 b2:=
 dk 2 true true 1 none (fun cc rr=>(Ax w0 (aH rr 3) (aH rr 2) (af [] τ) vv tv (ef 5 [j6 cc] rr)).c) (fun _ rr=>[(adr rr 0,ak [])])
  (fun _ rr=>[(adr rr 1,aq (adr rr 3) 0),(adr rr 2,ab [] (aH rr 2)),(adr rr 3,ab (af [] τ) (aH rr 3)),(adr rr 4,ai (some (.int vv tv)))]) (fun _ _ _ _=> .ok .next) (fun _ rr _ _=>[(adr rr 0,ak [])])
  (fun _ rr b f=>[(adr rr 2,ab [] (b 0)),(adr rr 3,ab (af [] τ) (aH rr 3)),(adr rr 4,ai (some (.int vv tv)))])
  fun cc rr t x=>(xH b1 b2 B w0 (ef 5 [j6 cc] rr) [] τ (aH rr 3) (aH rr 2) vv tv (by simp) lr x).mono lr fun r L hP=>by
   obtain⟨τ2,aQ,z,L1,hz,rfl,hn,rfl⟩:=hP;cases z with
   |some z=>cases hz
   |none=>exact⟨fun i=>aQ,fun _=>τ2,L1,rfl,rfl,hn⟩
def H' (B:BB w aa b1 b2)(w0:WW)(d:Nat)(row:LN)(τ:NT)(vv:Nat)(tv:Tok)(hlen:(d::row).length≤100):gw w aa b1 b2:=
 dk 2 true true 1 none (fun cc rr=>(Ax w0 (aH rr 3) (aH rr 2) (af (d::row) τ) vv tv (ef 5 [j6 cc] rr)).c) (fun _ rr=>[(adr rr 0,ak [])])
  (fun _ rr=>[(adr rr 1,aq (adr rr 3) 0),(adr rr 2,ab [] (aH rr 2)),(adr rr 3,ab (af (d::row) τ) (aH rr 3)),(adr rr 4,ai (some (.int vv tv)))]) (fun _ _ _ _=> .ok .next) (fun _ rr b _=>[(adr rr 0,ak [(kB,.int (b 1:Nat) 0)])])
  (fun _ rr b f=>[(adr rr 2,ab (af ((d::row).filter fun d=>decide (d≠vv)) (f 0)) (b 0)),(adr rr 3,ab (af (d::row) τ) (aH rr 3)),(adr rr 4,ai (some (.int vv tv)))])
  fun cc rr t x=>(xH b1 b2 B w0 (ef 5 [j6 cc] rr) (d::row) τ (aH rr 3) (aH rr 2) vv tv hlen lr x).mono lr fun r L hP=>by
   obtain⟨τ2,aQ,z,L1,hz,rfl,hn,rfl⟩:=hP;cases z with
   |none=>cases hz
   |some z=>exact⟨fun i=>match i with|0=>aQ|_=>z,fun _=>τ2,L1,rfl,rfl,hn⟩
def LO (B:BB w aa b1 b2)(w0:WW)(out:List LN)(ho:∀ q∈out,q≠[]∧∀ d∈q,d<5)(hl:out.length≤900)(pl:LN)(ib:out.getLast?=some pl)(τ:NT):gw w aa b1 b2:=
 dk 2 true true 1 none (fun cc rr=>(DA w0 (aH rr 3) (aH rr 2) (ag (out.map (aj 47)) τ) (ef 4 [j6 cc] rr)).c) (fun _ rr=>[(adr rr 0,ak [])])
  (fun _ rr=>[(adr rr 1,aq (adr rr 3) 0),(adr rr 2,ab [] (aH rr 2)),(adr rr 3,ab (ag (out.map (aj 47)) τ) (aH rr 3))]) (fun _ _ _ _=> .ok .next) (fun _ rr b _=>[(adr rr 0,ak [(d6,.str (aj 47 pl) 0)])])
  (fun _ rr b f=>[(adr rr 2,ab (ag ((aL out).map (aj 47)) (f 0)) (b 0)),(adr rr 3,ab (ag (out.map (aj 47)) τ) (aH rr 3))])
  fun cc rr t x=>(DF b1 b2 B w0 (ef 4 [j6 cc] rr) out ho hl pl ib τ (aH rr 3) (aH rr 2) lr x).mono lr fun r L hP=>by
   obtain⟨τ2,aQ,x',rfl,rfl⟩:=hP;exact⟨fun i=>aQ,fun _=>τ2,_,rfl,rfl,rfl⟩
def LP (B:BB w aa b1 b2)(w0:WW)(out:List LN)(ho:∀ q∈out,q≠[]∧∀ d∈q,d<5)(hl:out.length≤900)(pl:LN)(ib:out.getLast?=some pl)(τ:NT):gw w aa b1 b2:=
 dk 2 true true 1 none (fun cc rr=>(DB w0 (aH rr 3) (aH rr 2) (ag (out.map (aj 47)) τ) (ef 4 [j6 cc] rr)).c) (fun _ rr=>[(adr rr 0,ak [])])
  (fun _ rr=>[(adr rr 1,aq (adr rr 3) 0),(adr rr 2,ab [] (aH rr 2)),(adr rr 3,ab (ag (out.map (aj 47)) τ) (aH rr 3))]) (fun _ _ _ _=> .ok .next) (fun _ rr b _=>[(adr rr 0,ak [(d6,.str (aj 47 pl) 0)])])
  (fun _ rr b f=>[(adr rr 2,ab (ag ((aL out).map (aj 47)) (f 0)) (b 0)),(adr rr 3,ab (ag (out.map (aj 47)) τ) (aH rr 3))])
  fun cc rr t x=>(DG b1 b2 B w0 (ef 4 [j6 cc] rr) out ho hl pl ib τ (aH rr 3) (aH rr 2) lr x).mono lr fun r L hP=>by
   obtain⟨τ2,aQ,x',rfl,rfl⟩:=hP;exact⟨fun i=>aQ,fun _=>τ2,_,rfl,rfl,rfl⟩
def LQ (B:BB w aa b1 b2)(w0:WW)(W:Nat→List Nat)(hW:∀ k<5,bY (W k))(τ:NT)(vc:Nat)(Ac:vc<5)(tc:Tok):gw w aa b1 b2:=
 dk 4 true true 1 none (fun cc rr=>(DD w0 (aH rr 2) (aE W τ) (aH rr 5) vc tc (ef 6 [j6 cc] rr)).c) (fun _ rr=>[(adr rr 0,ak [])])
  (fun _ rr=>[(adr rr 1,eZ 0),(adr rr 2,ab [] (aH rr 2)),(adr rr 3,cR (adr rr 5)),(adr rr 4,ai (some (.int vc tc))),(adr rr 5,ab (aE W τ) (aH rr 5))]) (fun _ _ _ _=> .ok .next) (fun _ rr b _=>[(adr rr 0,ak [(kU,.int 4 0)])])
  (fun _ rr b f=>[(adr rr 2,ab (af ((List.range 5).filter fun u=>decide (eY (W u) (W vc)=W vc)) (f 0)) (b 0)),(adr rr 3,cR (adr rr 5)),(adr rr 4,ai (some (.int vc tc))),(adr rr 5,ab (aE W τ) (aH rr 5))])
  fun cc rr t x=>(DI b1 b2 B w0 (ef 6 [j6 cc] rr) W hW τ (aH rr 2) (aH rr 5) vc Ac tc lr x).mono lr fun r L hP=>by
   obtain⟨τ2,aQ,L1,rfl,hn,rfl⟩:=hP;exact⟨fun i=>aQ,fun _=>τ2,L1,rfl,rfl,hn⟩
def Bz (B:BB w aa b1 b2)(w0:WW)(τ:NT)(u:Nat)(av ms:LN)(bH c9:NT)(ow:ON)(qX:ms.length≤800):gw w aa b1 b2:=
 dk 2 true true 1 none (fun cc rr=>(Ay w0 (aH rr 3) (aH rr 2) (aH rr 5) u (af [] τ) (ag (av.map ao) bH) (af ms c9) ow (ef 6 [j6 cc,gI cc 0] rr)).c) (fun _ rr=>[(adr rr 0,ak (uw u ow))])
  (fun _ rr=>[(adr rr 1,aq (adr rr 3) 0),(adr rr 2,ab (af ms c9) (aH rr 2)),(adr rr 3,ab (af [] τ) (aH rr 3)),(adr rr 4,cR (adr rr 5)),(adr rr 5,ab (ag (av.map ao) bH) (aH rr 5))]) (fun _ _ _ _=> .ok .next) (fun _ rr b _=>[(adr rr 0,ak (uw u ow))])
  (fun _ rr b f=>[(adr rr 2,ab (af (ms++([]:LN).filter fun d=>decide (d∈av)) (f 0)) (b 0)),(adr rr 3,ab (af [] τ) (aH rr 3)),(adr rr 4,cR (adr rr 5)),(adr rr 5,ab (ag (av.map ao) bH) (aH rr 5))])
  fun cc rr t x=>(xI b1 b2 B w0 (ef 6 [j6 cc,gI cc 0] rr) [] (fun _ h=>nomatch h) τ (aH rr 3) (aH rr 2) (aH rr 5) u av ms bH c9 ow (by simp) qX lr x).mono lr fun r L hP=>by
   obtain⟨τ2,aQ,z,L1,hz,Jg,rfl,hn,rfl⟩:=hP;have hz:=hz rfl;subst hz;refine⟨fun i=>aQ,fun _=>τ2,L1,rfl,rfl,?_⟩;rw[hn];cases z<;>rfl
def BA (B:BB w aa b1 b2)(w0:WW)(d:Nat)(row:LN)(iJ:∀ x∈d::row,x<5)(τ:NT)(u:Nat)(av ms:LN)(bH c9:NT)(ow:ON)(hlen:(d::row).length≤100)(qX:ms.length≤800):gw w aa b1 b2:=
 dk 2 true true 1 none (fun cc rr=>(Ay w0 (aH rr 3) (aH rr 2) (aH rr 5) u (af (d::row) τ) (ag (av.map ao) bH) (af ms c9) ow (ef 6 [j6 cc,gI cc 0] rr)).c) (fun _ rr=>[(adr rr 0,ak (uw u ow))])
  (fun _ rr=>[(adr rr 1,aq (adr rr 3) 0),(adr rr 2,ab (af ms c9) (aH rr 2)),(adr rr 3,ab (af (d::row) τ) (aH rr 3)),(adr rr 4,cR (adr rr 5)),(adr rr 5,ab (ag (av.map ao) bH) (aH rr 5))]) (fun _ _ _ _=> .ok .next) (fun _ rr b _=>[(adr rr 0,ak (uw u (some (b 1))))])
  (fun _ rr b f=>[(adr rr 2,ab (af (ms++(d::row).filter fun d=>decide (d∈av)) (f 0)) (b 0)),(adr rr 3,ab (af (d::row) τ) (aH rr 3)),(adr rr 4,cR (adr rr 5)),(adr rr 5,ab (ag (av.map ao) bH) (aH rr 5))])
  fun cc rr t x=>(xI b1 b2 B w0 (ef 6 [j6 cc,gI cc 0] rr) (d::row) iJ τ (aH rr 3) (aH rr 2) (aH rr 5) u av ms bH c9 ow hlen qX lr x).mono lr fun r L hP=>by
   obtain⟨τ2,aQ,z,L1,hz,Jg,rfl,hn,rfl⟩:=hP;have Jg:=Jg (by simp);cases z with
   |none=>cases Jg
   |some z=>
    refine⟨fun i=>match i with|0=>aQ|_=>z,fun _=>τ2,L1,rfl,rfl,?_⟩;rw[hn];rfl
end
def DJ (w0:WW)(e e2:Nat)(xs:LV)(vv:Nat)(tv:Tok)(a:N2):SX Code Code:=sC ((atC (rP (wt w0)) (a 1) (a 2) (a 0) (a 5) [(a 4)])) [(a 0,ak [])] [(a 1,aq (a 3) 0),(a 2,ab [] e2),(a 3,ab xs e),(a 4,ai (some (.int vv tv)))] (fun b f=>cV (atC (rP (wt w0)) (a 1) (a 2) (a 0) (a 5) [(a 4)]))
section
variable (b1 b2:Bool){w:WW}{aa:Heap}(B:BB w aa b1 b2)
include B
theorem Pg (w0:WW)(e e2:Nat)(xs:LV)(vv:Nat)(tv:Tok)(a:N2):eR w aa b1 b2 2 true (DJ w0 e e2 xs vv tv a):=
 eO B (ol (cond b2 0xd 0x22b2b2d) []) z2 z3 [0,0,0,0,0] 0 1
def LR (w0:WW)(e e2:Nat)(xs:LV)(vv:Nat)(tv:Tok)(i:Nat)(vs:LV)(o:Option (Nat))(τ:NT)(er:Nat)(a:N2):SX Code Code:=⟨cV (atC (rP (wt w0)) (a 1) (a 2) (a 0) (a 6) [(a 4)]),[(a 0,ak (cE iw o))],[(a 1,aq (a 3) i),(a 2,ab vs e2),(a 3,ab xs e),(a 4,ai (some (.int vv tv))),(a 5,ab (af [] τ) er)],fun b f=>cV (atC (rP (wt w0)) (a 1) (a 2) (a 0) (a 6) [(a 4)]),fun b f=>[(a 0,ak (cE iw (some (a 5))))],fun b f=>[(a 1,aq (a 3) (i+1)),(a 2,ab (vs++[.ref (b 6)]) (e2+1)),(a 3,ab xs e),(a 4,ai (some (.int vv tv))),(a 5,ab (af [] τ) er),(b 6,ab [] (b 1000))]⟩
theorem Ph (w0:WW)(e e2:Nat)(xs:LV)(vv:Nat)(tv:Tok)(i:Nat)(vs:LV)(o:Option (Nat))(τ:NT)(er:Nat)(a:N2)(hx:xs[i]?=some (.ref (a 5))) (hb:vs.length≤1000):eR w aa b1 b2 3 true (LR w0 e e2 xs vv tv i vs o τ er a):=
 eO B (ol 0x2b2 (.u [1,2] (bQ xs i (.ref (a 5)) hx)::(ol 0x33366b6b1 (.u [0,1,0,5,4] (H9 B w0 τ vv tv)::(ol 0x1b8 (.u [7] (bD vs hb)::(ol 0xd []))))))) (fe [(10,1)]) z3 [7,5,0,4,3,2,1] 1 1 fun t x X Fr=>by revert b1 b2 o;exact d4 (by kernel_rfl)
def LS (w0:WW)(e e2:Nat)(xs:LV)(vv:Nat)(tv:Tok)(i:Nat)(vs:LV)(o:Option (Nat))(τ:NT)(er d0:Nat)(row:LN)(a:N2):SX Code Code:=⟨cV (atC (rP (wt w0)) (a 1) (a 2) (a 0) (a 6) [(a 4)]),[(a 0,ak (cE iw o))],[(a 1,aq (a 3) i),(a 2,ab vs e2),(a 3,ab xs e),(a 4,ai (some (.int vv tv))),(a 5,ab (af (d0::row) τ) er)],fun b f=>cV (atC (rP (wt w0)) (a 1) (a 2) (a 0) (a 6) [(a 4)]),fun b f=>[(a 0,ak (cE iw (some (a 5))))],fun b f=>[(a 1,aq (a 3) (i+1)),(a 2,ab (vs++[.ref (b 6)]) (e2+1)),(a 3,ab xs e),(a 4,ai (some (.int vv tv))),(a 5,ab (af (d0::row) τ) er),(b 6,ab (af ((d0::row).filter fun d=>decide (d≠vv)) (f 0)) (b 1000))]⟩
theorem Pj (w0:WW)(e e2:Nat)(xs:LV)(vv:Nat)(tv:Tok)(i:Nat)(vs:LV)(o:Option (Nat))(τ:NT)(er d0:Nat)(row:LN)(a:N2)(hx:xs[i]?=some (.ref (a 5))) (hlen:(d0::row).length≤100) (hb:vs.length≤1000):eR w aa b1 b2 3 true (LS w0 e e2 xs vv tv i vs o τ er d0 row a):=
 eO B (ol 0x2b2 (.u [1,2] (bQ xs i (.ref (a 5)) hx)::(ol 0x33366b6b1 (.u [0,1,0,5,4] (H' B w0 d0 row τ vv tv hlen)::(ol 0x111b8 (.u [7] (bD vs hb)::(ol 0xd []))))))) (fe [(10,1)]) (oP [(10,0)]) [7,5,0,4,3,2,1] 1 1 fun t x X Fr=>by revert b1 b2 o;exact d4 (by kernel_rfl)
def LU (w0:WW)(e e2:Nat)(xs:LV)(vv:Nat)(tv:Tok)(i:Nat)(vs:LV)(o:Option (Nat))(a:N2):SX Code Result:=sB (cV (atC (rP (wt w0)) (a 1) (a 2) (a 0) (a 5) [(a 4)])) [(a 0,ak (cE iw o))] [(a 1,aq (a 3) i),(a 2,ab vs e2),(a 3,ab xs e),(a 4,ai (some (.int vv tv)))] (fun b f=> .ok .next) (fun b f=>[(a 2,ab vs e2),(a 3,ab xs e),(a 4,ai (some (.int vv tv)))])
theorem Pk (w0:WW)(e e2:Nat)(xs:LV)(vv:Nat)(tv:Tok)(i:Nat)(vs:LV)(o:Option (Nat))(a:N2)(hx:xs[i]?=none) {frx:OE}:eP w aa b1 b2 2 frx true true (LU w0 e e2 xs vv tv i vs o a):=
 tX B aO.none (ol 0x2b2 (.u [1,2] (bA xs i hx)::(ol 0x1 []))) z2 z3 [3,3,2,2] 2 1 fun t x X Fr=>by revert b1 b2 o;exact d4 (by kernel_rfl)
end
noncomputable def j2 (n:N2)(i:Nat):LV:=(List.range i).map fun j=> .ref (n j)
def si (T:Nat→List Nat)(n:N2)(kP:Nat→Nat→Tok)(en:N2)(i:Nat):Ow:=(List.range i).map (bo n T kP en)
theorem pG {α:Type}{f:Nat→α}{i j:Nat}{v:α}(h:j<i):upd f i v j=f j:=by unfold upd;rw[if_neg (by omega)]
theorem pH {α:Type}{f:Nat→α}{i:Nat}{v:α}:upd f i v i=v:=by unfold upd;rw[if_pos rfl]
theorem oC (n:N2)(i m:Nat):j2 (upd n i m) (i+1)=j2 n i++[.ref m]:=by
 unfold j2;rw[List.range_succ,List.map_append];congr 1
 ·exact List.map_congr_left fun j hj=>by rw[pG (List.mem_range.mp hj)]
 ·simp only[List.map_cons,List.map_nil,pH]
theorem oD (T:Nat→List Nat)(n:N2)(kP:Nat→Nat→Tok)(en:N2)(i m:Nat)(τ:NT)(e:Nat):si T (upd n i m) (upd kP i τ) (upd en i e) (i+1)=si T n kP en i++[(m,ab (af (T i) τ) e)]:=by
 unfold si;rw[List.range_succ,List.map_append];congr 1
 ·exact List.map_congr_left fun j hj=>by
   have:=List.mem_range.mp hj;unfold bo;rw[pG this,pG this,pG this]
 ·simp only[List.map_cons,List.map_nil]
  unfold bo;rw[pH,pH,pH]
section
variable (b1 b2:Bool){w:WW}{aa:Heap}(B:BB w aa b1 b2)
include B
theorem DK (w0:WW)(a:N2)(r:N2)(T:Nat→List Nat)(hT:∀ k<5,(T k).length≤100)(ay:Nat→Nat→Tok)(er:N2)(e e2 vv:Nat)(tv:Tok){fr:OE}{lv:Nat}(eh:3≤lv)(x:Nat→Tk):
  gh w aa b1 b2 lv fr ((DJ w0 e e2 (au r) vv tv a).c) (rt [(a 0,ak [])] x++[(a 1,aq (a 3) 0),(a 2,ab [] e2),(a 3,ab (au r) e),(a 4,ai (some (.int vv tv)))]++aA r T ay er)
   (fun rs L=>∃ n kP en aQ x',rs=.ok .next∧L=rt [(a 0,ak [(iw,.ref (r 4))])] x'++[(a 2,ab (au n) aQ),(a 3,ab (au r) e),(a 4,ai (some (.int vv tv)))]++aA r T ay er++aA n (fun k=>(T k).filter fun d=>decide (d≠vv)) kP en):=by
 refine aJ.out ?_;refine(Pg b1 b2 B w0 e e2 (au r) vv tv a).y (by omega) (aA r T ay er) (fun b f x'=>?_) (fun _=>0) x;refine bw 5 (fun i L=>∃ (n:N2)(kP:Nat→Nat→Tok)(en:N2)(o:ON)(x:Nat→Tk)(aQ:Nat),(i=5→o=some (r 4))∧L.Perm (rt [(a 0,ak (cE iw o))] x++[(a 1,aq (a 3) i),(a 2,ab (j2 n i) aQ),(a 3,ab (au r) e),(a 4,ai (some (.int vv tv)))]++aA r T ay er++si (fun k=>(T k).filter fun d=>decide (d≠vv)) n kP en i)) ?_ ?_ (bZ _) ⟨fun _=>0,fun _ _=>0,fun _=>0,none,x',e2,(fun h=>absurd h (by decide)),?_⟩
 ·rintro i L hi ⟨n,kP,en,o,x,aQ,ho,hL⟩ ih
  have lF:=eE r T ay er i hi;have hx:(au r)[i]?=some (.ref (r i)):=cj r _ hi
  have hb:(j2 n i).length≤1000:=by unfold j2;simp;omega
  have iz:i+1=5→some (r i)=some (r 4):=fun h=>by rw[show i=4 by omega]
  let a':N2:=fun j=>match j with|5=>r i|6=>a 5|j=>a j
  let Y:Ow:=(others i).map (bo r T ay er)++si (fun k=>(T k).filter fun d=>decide (d≠vv)) n kP en i;cases sj:T i with
  |nil=>
   refine aJ.perm ((Ph b1 b2 B w0 e aQ (au r) vv tv i (j2 n i) o (ay i) (er i) a' hx hb).y (by omega) Y (fun b f cG=>ih _ ⟨upd n i (b 6),upd kP i (fun _=>0),upd en i (b 1000),some (r i),cG,aQ+1,iz,?_⟩) (fun _=>0) x) (hL.trans ?_)
   ·rw[oC,oD,sj]
    show List.Perm (rt [(a 0,ak (cE iw (some (r i))))] cG++[(a 1,aq (a 3) (i+1)),(a 2,ab (j2 n i++[.ref (b 6)]) (aQ+1)),(a 3,ab (au r) e),(a 4,ai (some (.int vv tv))),(r i,ab (af [] (ay i)) (er i)),(b 6,ab [] (b 1000))]++Y) _;have e1:bo r T ay er i=(r i,ab (af [] (ay i)) (er i)):=by unfold bo;rw[sj]
    refine cC fun p=>?_;have:=f6 lF p;have e3:((b 6,ab (af (([]:LN).filter fun d=>decide (d≠vv)) fun _=>0) (b 1000)):Nat×Obj)=(b 6,ab [] (b 1000)):=rfl;simp only[Y,e1,f5,cnt_cons,cnt_nil] at this ⊢;rw[e3];omega
   ·have e1:bo r T ay er i=(r i,ab (af [] (ay i)) (er i)):=by unfold bo;rw[sj]
    show List.Perm _ (rt [(a 0,ak (cE iw o))] x++[(a 1,aq (a 3) i),(a 2,ab (j2 n i) aQ),(a 3,ab (au r) e),(a 4,ai (some (.int vv tv))),(r i,ab (af [] (ay i)) (er i))]++Y);have hq:=lF;rw[e1] at hq;exact i' [5,0,1,2,3,4,6] [5,6,0,1,2,3,4,7] hq
  |cons d0 row=>
   have e1:bo r T ay er i=(r i,ab (af (d0::row) (ay i)) (er i)):=by unfold bo;rw[sj]
   refine aJ.perm ((Pj b1 b2 B w0 e aQ (au r) vv tv i (j2 n i) o (ay i) (er i) d0 row a' hx (by rw[←sj];exact hT i hi) hb).y (by omega) Y (fun b f cG=>ih _ ⟨upd n i (b 6),upd kP i (f 0),upd en i (b 1000),some (r i),cG,aQ+1,iz,?_⟩) (fun _=>0) x) (hL.trans ?_)
   ·rw[oC,oD,sj]
    show List.Perm (rt [(a 0,ak (cE iw (some (r i))))] cG++[(a 1,aq (a 3) (i+1)),(a 2,ab (j2 n i++[.ref (b 6)]) (aQ+1)),(a 3,ab (au r) e),(a 4,ai (some (.int vv tv))),(r i,ab (af (d0::row) (ay i)) (er i)),(b 6,ab (af ((d0::row).filter fun d=>decide (d≠vv)) (f 0)) (b 1000))]++Y) _;have hq:=lF;rw[e1] at hq;exact i' [5,7,0,1,2,3,4,6,8] [5,0,1,2,3,4,7,6] hq.symm
   ·show List.Perm _ (rt [(a 0,ak (cE iw o))] x++[(a 1,aq (a 3) i),(a 2,ab (j2 n i) aQ),(a 3,ab (au r) e),(a 4,ai (some (.int vv tv))),(r i,ab (af (d0::row) (ay i)) (er i))]++Y)
    have hq:=lF;rw[e1] at hq;exact i' [5,0,1,2,3,4,6] [5,6,0,1,2,3,4,7] hq
 ·rintro L ⟨n,kP,en,o,x,aQ,ho,hL⟩
  have ho:=ho rfl;subst ho;have z:=(Pk b1 b2 B w0 e aQ (au r) vv tv 5 (j2 n 5) (some (r 4)) a rfl (frx:=fr)).use (aA r T ay er++si (fun k=>(T k).filter fun d=>decide (d≠vv)) n kP en 5) (fun _=>0) x;refine(aJ.perm z (hL.trans ?_)).mono (by omega) ?_
  ·show List.Perm _ (rt [(a 0,ak (cE iw (some (r 4))))] x++[(a 1,aq (a 3) 5),(a 2,ab (j2 n 5) aQ),(a 3,ab (au r) e),(a 4,ai (some (.int vv tv)))]++(aA r T ay er++si (fun k=>(T k).filter fun d=>decide (d≠vv)) n kP en 5))
   rw[a5 (rt _ _++_)]
  ·rintro rs L' ⟨b,f,cG,hr,rfl⟩
   refine⟨rt [(a 0,ak [(iw,.ref (r 4))])] cG++[(a 2,ab (au n) aQ),(a 3,ab (au r) e),(a 4,ai (some (.int vv tv)))]++aA r T ay er++aA n (fun k=>(T k).filter fun d=>decide (d≠vv)) kP en,[],?_,n,kP,en,aQ,cG,hr,rfl⟩;rw[ck];show List.Perm (rt [(a 0,ak [(iw,.ref (r 4))])] cG++[(a 2,ab (au n) aQ),(a 3,ab (au r) e),(a 4,ai (some (.int vv tv)))]++(aA r T ay er++aA n (fun k=>(T k).filter fun d=>decide (d≠vv)) kP en)) _;rw[a5 (rt _ _++_)]
 ·show List.Perm _ (rt [(a 0,ak (cE iw none))] x'++[(a 1,aq (a 3) 0),(a 2,ab [] e2),(a 3,ab (au r) e),(a 4,ai (some (.int vv tv)))]++aA r T ay er++[])
  rw[ck];exact .refl _
end
section
variable {b1 b2:Bool}{w:WW}{aa:Heap}
def Az (B:BB w aa b1 b2)(w0:WW)(T:Nat→List Nat)(hT:∀ k<5,(T k).length≤100)(ay:Nat→Nat→Tok)(vv:Nat)(tv:Tok):gw w aa b1 b2:=
 dk 3 true true 1 none (fun cc rr=>(DJ w0 (aH rr 3) (aH rr 2) (au fun i=>adr rr (i+5)) vv tv (ef 5 [j6 cc] rr)).c) (fun _ rr=>[(adr rr 0,ak [])])
  (fun _ rr=>[(adr rr 1,aq (adr rr 3) 0),(adr rr 2,ab [] (aH rr 2)),(adr rr 3,ab (au fun i=>adr rr (i+5)) (aH rr 3)),(adr rr 4,ai (some (.int vv tv)))]++aA (fun i=>adr rr (i+5)) T ay (fun i=>aH rr (i+5))) (fun _ _ _ _=> .ok .next) (fun _ rr b _=>[(adr rr 0,ak [(iw,.ref (adr rr 9))])])
  (fun _ rr b f=>[(adr rr 2,ab (au fun i=>b (i+1)) (b 0)),(adr rr 3,ab (au fun i=>adr rr (i+5)) (aH rr 3)),(adr rr 4,ai (some (.int vv tv)))]++aA (fun i=>adr rr (i+5)) T ay (fun i=>aH rr (i+5))++aA (fun i=>b (i+1)) (fun k=>(T k).filter fun d=>decide (d≠vv)) f (fun i=>b (i+11)))
  fun cc rr t x=>by
   have z:=DK b1 b2 B w0 (ef 5 [j6 cc] rr) (fun i=>adr rr (i+5)) T hT ay (fun i=>aH rr (i+5)) (aH rr 3) (aH rr 2) vv tv (fr:=none) lr x;rw[a5 (rt _ _)] at z;refine z.mono lr fun rs L hP=>?_;obtain⟨n,kP,en,aQ,x',rfl,rfl⟩:=hP;refine⟨fun j=>if j=0 then aQ else if j<11 then n (j-1) else en (j-11),kP,rt [(adr rr 0,ak [(iw,.ref (adr rr 9))])] x',?_,rfl,rfl⟩;rw[a5 (rt _ _),a5 (rt _ _)];rfl
end
def DL (w0:WW)(e e2 te ae:Nat)(xs tv:LV)(av:LN)(bH:NT)(a:N2):SX Code Code:=sC ((atC (hY (wt w0)) (a 1) (a 2) (a 0) (a 8) [(a 4),(a 6)])) [(a 0,ak [])] [(a 1,aq (a 3) 0),(a 2,ab [] e2),(a 3,ab xs e),(a 4,cR (a 5)),(a 5,ab tv te),(a 6,cR (a 7)),(a 7,ab (ag (av.map ao) bH) ae)] (fun b f=>cV (atC (hY (wt w0)) (a 1) (a 2) (a 0) (a 8) [(a 4),(a 6)]))
section
variable (b1 b2:Bool){w:WW}{aa:Heap}(B:BB w aa b1 b2)
include B
theorem Pl (w0:WW)(e e2 te ae:Nat)(xs tv:LV)(av:LN)(bH:NT)(a:N2):eR w aa b1 b2 2 true (DL w0 e e2 te ae xs tv av bH a):=
 eO B (ol (cond b2 0xd 0x22b2b2d) []) z2 z3 [0,0,0,0,0,0,0,0] 0 1
def Ia (w0:WW)(e e2 te ae:Nat)(xs tv:LV)(av:LN)(bH:NT)(ms:LN)(c9:NT)(i d er:Nat)(t0:Tok)(τ:NT)(a:N2):SX Code Code:=⟨cV (atC (hY (wt w0)) (a 1) (a 2) (a 0) (a 9) [(a 4),(a 6)]),[(a 0,ak ([]))],[(a 1,aq (a 3) i),(a 2,ab (af ms c9) e2),(a 3,ab xs e),(a 4,cR (a 5)),(a 5,ab tv te),(a 6,cR (a 7)),(a 7,ab (ag (av.map ao) bH) ae),(a 8,ab (af [] τ) er)],fun b f=>cV (atC (hY (wt w0)) (a 1) (a 2) (a 0) (a 9) [(a 4),(a 6)]),fun b f=>[(a 0,ak (uw d none))],fun b f=>[(a 1,aq (a 3) (i+1)),(a 2,ab (af (ms++([]:LN).filter fun d=>decide (d∈av)) (f 0)) (b 1000)),(a 3,ab xs e),(a 4,cR (a 5)),(a 5,ab tv te),(a 6,cR (a 7)),(a 7,ab (ag (av.map ao) bH) ae),(a 8,ab (af [] τ) er)]⟩
theorem LW (w0:WW)(e e2 te ae:Nat)(xs tv:LV)(av:LN)(bH:NT)(ms:LN)(c9:NT)(i d er:Nat)(t0:Tok)(τ:NT)(a:N2)(hx:xs[i]?=some (.int d t0)) (hd:d<1000) (hg:tv[d]?=some (.ref (a 8))) (qX:ms.length≤800):eR w aa b1 b2 3 true (Ia w0 e e2 te ae xs tv av bH ms c9 i d er t0 τ a):=
 eO B (ol 0x2b2 (.u [1,2] (bQ xs i (.int d t0) hx)::(ol 0x3353666 (.u [5] (aY tv d (.ref (a 8)) hd hg)::(ol 0x99b9b1 (.u [4,0,3,6,4,4] (Bz B w0 τ d av ms bH c9 none qX)::(ol 0xd []))))))) (fe [(15,1)]) (oP [(15,0)]) [0,5,0,4,4,3,1,1,0] 0 1
def Ib (w0:WW)(e e2 te ae:Nat)(xs tv:LV)(av:LN)(bH:NT)(ms:LN)(c9:NT)(i d er:Nat)(t0:Tok)(τ:NT)(b0:Nat)(row:LN)(a:N2):SX Code Code:=⟨cV (atC (hY (wt w0)) (a 1) (a 2) (a 0) (a 9) [(a 4),(a 6)]),[(a 0,ak ([]))],[(a 1,aq (a 3) i),(a 2,ab (af ms c9) e2),(a 3,ab xs e),(a 4,cR (a 5)),(a 5,ab tv te),(a 6,cR (a 7)),(a 7,ab (ag (av.map ao) bH) ae),(a 8,ab (af (b0::row) τ) er)],fun b f=>cV (atC (hY (wt w0)) (a 1) (a 2) (a 0) (a 9) [(a 4),(a 6)]),fun b f=>[(a 0,ak (uw d (some (b 1000))))],fun b f=>[(a 1,aq (a 3) (i+1)),(a 2,ab (af (ms++(b0::row).filter fun d=>decide (d∈av)) (f 0)) (b 1001)),(a 3,ab xs e),(a 4,cR (a 5)),(a 5,ab tv te),(a 6,cR (a 7)),(a 7,ab (ag (av.map ao) bH) ae),(a 8,ab (af (b0::row) τ) er)]⟩
theorem LX (w0:WW)(e e2 te ae:Nat)(xs tv:LV)(av:LN)(bH:NT)(ms:LN)(c9:NT)(i d er:Nat)(t0:Tok)(τ:NT)(b0:Nat)(row:LN)(a:N2)(hx:xs[i]?=some (.int d t0)) (hd:d<1000) (hg:tv[d]?=some (.ref (a 8))) (qX:ms.length≤800) (iJ:∀ x∈b0::row,x<5) (hlen:(b0::row).length≤100):eR w aa b1 b2 3 true (Ib w0 e e2 te ae xs tv av bH ms c9 i d er t0 τ b0 row a):=
 eO B (ol 0x2b2 (.u [1,2] (bQ xs i (.int d t0) hx)::(ol 0x3353666 (.u [5] (aY tv d (.ref (a 8)) hd hg)::(ol 0x99b9b1 (.u [4,0,3,6,4,4] (BA B w0 b0 row iJ τ d av ms bH c9 none hlen qX)::(ol 0xd []))))))) (fe [(15,2),(15,1)]) (oP [(15,0)]) [0,5,0,4,4,3,1,1,0] 0 1
def Ic (w0:WW)(e e2 te ae:Nat)(xs tv:LV)(av:LN)(bH:NT)(ms:LN)(c9:NT)(i d er:Nat)(t0:Tok)(τ:NT)(u0:Nat)(ow:ON)(a:N2):SX Code Code:=⟨cV (atC (hY (wt w0)) (a 1) (a 2) (a 0) (a 9) [(a 4),(a 6)]),[(a 0,ak (uw u0 ow))],[(a 1,aq (a 3) i),(a 2,ab (af ms c9) e2),(a 3,ab xs e),(a 4,cR (a 5)),(a 5,ab tv te),(a 6,cR (a 7)),(a 7,ab (ag (av.map ao) bH) ae),(a 8,ab (af [] τ) er)],fun b f=>cV (atC (hY (wt w0)) (a 1) (a 2) (a 0) (a 9) [(a 4),(a 6)]),fun b f=>[(a 0,ak (uw d ow))],fun b f=>[(a 1,aq (a 3) (i+1)),(a 2,ab (af (ms++([]:LN).filter fun d=>decide (d∈av)) (f 0)) (b 1000)),(a 3,ab xs e),(a 4,cR (a 5)),(a 5,ab tv te),(a 6,cR (a 7)),(a 7,ab (ag (av.map ao) bH) ae),(a 8,ab (af [] τ) er)]⟩
theorem LY (w0:WW)(e e2 te ae:Nat)(xs tv:LV)(av:LN)(bH:NT)(ms:LN)(c9:NT)(i d er:Nat)(t0:Tok)(τ:NT)(u0:Nat)(ow:ON)(a:N2)(hx:xs[i]?=some (.int d t0)) (hd:d<1000) (hg:tv[d]?=some (.ref (a 8))) (qX:ms.length≤800):eR w aa b1 b2 3 true (Ic w0 e e2 te ae xs tv av bH ms c9 i d er t0 τ u0 ow a):=
 eO B (ol 0x2b2 (.u [1,2] (bQ xs i (.int d t0) hx)::(ol 0x3353666 (.u [5] (aY tv d (.ref (a 8)) hd hg)::(ol 0x99b9b1 (.u [4,0,3,6,4,4] (Bz B w0 τ d av ms bH c9 ow qX)::(ol 0xd []))))))) (fe [(15,1)]) (oP [(15,0)]) [0,5,0,4,4,3,1,1,0] 0 1 fun t x X Fr=>by revert b1 b2 ow;exact d4 (by kernel_rfl)
def Ie (w0:WW)(e e2 te ae:Nat)(xs tv:LV)(av:LN)(bH:NT)(ms:LN)(c9:NT)(i d er:Nat)(t0:Tok)(τ:NT)(b0:Nat)(row:LN)(u0:Nat)(ow:ON)(a:N2):SX Code Code:=⟨cV (atC (hY (wt w0)) (a 1) (a 2) (a 0) (a 9) [(a 4),(a 6)]),[(a 0,ak (uw u0 ow))],[(a 1,aq (a 3) i),(a 2,ab (af ms c9) e2),(a 3,ab xs e),(a 4,cR (a 5)),(a 5,ab tv te),(a 6,cR (a 7)),(a 7,ab (ag (av.map ao) bH) ae),(a 8,ab (af (b0::row) τ) er)],fun b f=>cV (atC (hY (wt w0)) (a 1) (a 2) (a 0) (a 9) [(a 4),(a 6)]),fun b f=>[(a 0,ak (uw d (some (b 1000))))],fun b f=>[(a 1,aq (a 3) (i+1)),(a 2,ab (af (ms++(b0::row).filter fun d=>decide (d∈av)) (f 0)) (b 1001)),(a 3,ab xs e),(a 4,cR (a 5)),(a 5,ab tv te),(a 6,cR (a 7)),(a 7,ab (ag (av.map ao) bH) ae),(a 8,ab (af (b0::row) τ) er)]⟩
theorem LZ (w0:WW)(e e2 te ae:Nat)(xs tv:LV)(av:LN)(bH:NT)(ms:LN)(c9:NT)(i d er:Nat)(t0:Tok)(τ:NT)(b0:Nat)(row:LN)(u0:Nat)(ow:ON)(a:N2)(hx:xs[i]?=some (.int d t0)) (hd:d<1000) (hg:tv[d]?=some (.ref (a 8))) (qX:ms.length≤800) (iJ:∀ x∈b0::row,x<5) (hlen:(b0::row).length≤100):eR w aa b1 b2 3 true (Ie w0 e e2 te ae xs tv av bH ms c9 i d er t0 τ b0 row u0 ow a):=
 eO B (ol 0x2b2 (.u [1,2] (bQ xs i (.int d t0) hx)::(ol 0x3353666 (.u [5] (aY tv d (.ref (a 8)) hd hg)::(ol 0x99b9b1 (.u [4,0,3,6,4,4] (BA B w0 b0 row iJ τ d av ms bH c9 ow hlen qX)::(ol 0xd []))))))) (fe [(15,2),(15,1)]) (oP [(15,0)]) [0,5,0,4,4,3,1,1,0] 0 1 fun t x X Fr=>by revert b1 b2 ow;exact d4 (by kernel_rfl)
def L5 (w0:WW)(e e2 te ae:Nat)(xs tv:LV)(av:LN)(bH:NT)(vs:LV)(i u0:Nat)(ow:ON)(a:N2):SX Code Result:=sB (cV (atC (hY (wt w0)) (a 1) (a 2) (a 0) (a 8) [(a 4),(a 6)])) [(a 0,ak (uw u0 ow))] [(a 1,aq (a 3) i),(a 2,ab vs e2),(a 3,ab xs e),(a 4,cR (a 5)),(a 5,ab tv te),(a 6,cR (a 7)),(a 7,ab (ag (av.map ao) bH) ae)] (fun b f=> .ok .next) (fun b f=>[(a 2,ab vs e2),(a 3,ab xs e),(a 4,cR (a 5)),(a 5,ab tv te),(a 6,cR (a 7)),(a 7,ab (ag (av.map ao) bH) ae)])
theorem Pn (w0:WW)(e e2 te ae:Nat)(xs tv:LV)(av:LN)(bH:NT)(vs:LV)(i u0:Nat)(ow:ON)(a:N2)(hx:xs[i]?=none) {frx:OE}:eP w aa b1 b2 2 frx true true (L5 w0 e e2 te ae xs tv av bH vs i u0 ow a):=
 tX B aO.none (ol 0x2b2 (.u [1,2] (bA xs i hx)::(ol 0x1 []))) z2 z3 [3,3,2,2,2,2,2] 2 1 fun t x X Fr=>by revert b1 b2 ow;exact d4 (by kernel_rfl)
end
def Po (o:Option (Nat×ON)):List (Str×Value):=match o with
 |none=>[]
 |some (u,ow)=>uw u ow
noncomputable def bk (T:Nat→List Nat)(av us:LN):LN:=(us.flatMap T).filter fun d=>decide (d∈av)
theorem AA (T:Nat→List Nat)(av us:LN)(i:Nat)(hi:i<us.length):bk T av (us.take (i+1))=bk T av (us.take i)++(T us[i]).filter fun d=>decide (d∈av):=by
 unfold bk;rw[dv hi,List.flatMap_append,List.filter_append];simp
theorem xJ (T:Nat→List Nat)(av:LN):∀ (us:LN),(∀ u∈us,(T u).length≤100)→(bk T av us).length≤100*us.length
 |[],_=>by simp[bk]
 |u::us,h=>by
  have:=xJ T av us fun x hx=>h x (bE _ hx);have h1:=List.length_filter_le (fun d=>decide (d∈av)) (T u);have h2:=h u bT;unfold bk at this ⊢;rw[List.flatMap_cons,List.filter_append,List.length_append,dS];omega
section
variable (b1 b2:Bool){w:WW}{aa:Heap}(B:BB w aa b1 b2)
include B
theorem DM (w0:WW)(a:N2)(r:N2)(T:Nat→List Nat)(hT:∀ k<5,(T k).length≤100)(vk:∀ k<5,∀ x∈T k,x<5)(us:LN)(yO:∀ u∈us,u<5)(BC:us.length≤5)(hw:∃ u∈us,T u≠[])(av:LN)(τ bH:NT)(ay:Nat→Nat→Tok)(er:N2)(e e2 te ae:Nat){fr:OE}{lv:Nat}(eh:3≤lv)(x:Nat→Tk):
  gh w aa b1 b2 lv fr ((DL w0 e e2 te ae (af us τ) (au r) av bH a).c) (rt [(a 0,ak [])] x++[(a 1,aq (a 3) 0),(a 2,ab [] e2),(a 3,ab (af us τ) e),(a 4,cR (a 5)),(a 5,ab (au r) te),(a 6,cR (a 7)),(a 7,ab (ag (av.map ao) bH) ae)]++aA r T ay er)
   (fun rs L=>∃ τ2 aQ u0 w1 x',rs=.ok .next∧L=rt [(a 0,ak (uw u0 (some w1)))] x'++[(a 2,ab (af (bk T av us) τ2) aQ),(a 3,ab (af us τ) e),(a 4,cR (a 5)),(a 5,ab (au r) te),(a 6,cR (a 7)),(a 7,ab (ag (av.map ao) bH) ae)]++aA r T ay er):=by
 refine aJ.out ?_;refine(Pl b1 b2 B w0 e e2 te ae (af us τ) (au r) av bH a).y (by omega) (aA r T ay er) (fun b f x'=>?_) (fun _=>0) x;let CT:Ow:=[(a 3,ab (af us τ) e),(a 4,cR (a 5)),(a 5,ab (au r) te),(a 6,cR (a 7)),(a 7,ab (ag (av.map ao) bH) ae)];refine bw us.length (fun i L=>∃ (o:Option (Nat×ON))(x:Nat→Tk)(τ2:NT)(aQ:Nat),(o=none→i=0)∧(∀ u ow,o=some (u,ow)→0<i∧((∃ u∈us.take i,T u≠[])→ow.isSome))∧L.Perm (rt [(a 0,ak (Po o))] x++((a 1,aq (a 3) i)::(a 2,ab (af (bk T av (us.take i)) τ2) aQ)::CT)++aA r T ay er)) ?_ ?_ (bZ _) ⟨none,x',fun _=>0,e2,fun _=>rfl,(fun _ _ h=>nomatch h),.refl _⟩
 ·rintro i L hi ⟨o,x,τ2,aQ,ho,Bb,hL⟩ ih
  have hu:=yO us[i] (List.getElem_mem hi);have lF:=eE r T ay er us[i] hu;have hx:(af us τ)[i]?=some (.int (us[i]:Nat) (τ i)):=cf _ _ _ _ (cy hi)
  have qX:(bk T av (us.take i)).length≤800:=by
   have:=xJ T av (us.take i) fun u Bc=>hT u (yO u (List.mem_of_mem_take Bc));rw[dR] at this;omega
  have uJ:=AA T av us i hi;have hex:∀ ow:ON,(T us[i]≠[]→ow.isSome)→((∃ u∈us.take i,T u≠[])→ow.isSome)→(∃ u∈us.take (i+1),T u≠[])→ow.isSome:=fun ow h1 h2 ⟨u,AB,L6⟩=>by
   rw[dv hi] at AB;rcases cS.mp AB with AB|AB
   ·exact h2 ⟨u,AB,L6⟩
   ·rw[List.mem_singleton.mp AB] at L6;exact h1 L6
  let a':N2:=fun j=>match j with|8=>r us[i]|9=>a 8|j=>a j
  let Y:Ow:=(others us[i]).map (bo r T ay er);cases sj:T us[i] with
  |nil=>
   rw[sj] at uJ hex;have e1:bo r T ay er us[i]=(r us[i],ab (af [] (ay us[i])) (er us[i])):=by unfold bo;rw[sj]
   cases o with
   |none=>
    refine aJ.perm ((LW b1 b2 B w0 e aQ te ae (af us τ) (au r) av bH (bk T av (us.take i)) τ2 i us[i] (er us[i]) (τ i) (ay us[i]) a' hx (by omega) (cj r _ hu) qX).y (by omega) Y (fun b f cG=>ih _ ⟨some (us[i],none),cG,f 0,b 1000,(fun h=>by cases h),(fun u L7 h=>?_),?_⟩) (fun _=>0) x) (hL.trans ?_)
    ·injection h with h
     injection h with _ h
     subst h;exact⟨by omega,hex _ (fun h=>absurd rfl h) (fun⟨u,AB,_⟩=>by rw[ho rfl] at AB;cases AB)⟩
    ·rw[uJ]
     show List.Perm (rt [(a 0,ak (uw us[i] none))] cG++((a 1,aq (a 3) (i+1))::(a 2,ab (af (bk T av (us.take i)++([]:LN).filter fun d=>decide (d∈av)) (f 0)) (b 1000))::(CT++[(r us[i],ab (af [] (ay us[i])) (er us[i]))]))++Y) (rt [(a 0,ak (uw us[i] none))] cG++_++_);have hq:=lF;rw[e1] at hq;exact i' [8,9,0,1,2,3,4,5,6,7] [8,0,1,2,3,4,5,6,7] hq.symm
    ·show List.Perm _ (rt [(a 0,ak [])] x++((a 1,aq (a 3) i)::(a 2,ab (af (bk T av (us.take i)) τ2) aQ)::(CT++[(r us[i],ab (af [] (ay us[i])) (er us[i]))]))++Y)
     have hq:=lF;rw[e1] at hq;exact i' [8,0,1,2,3,4,5,6,7] [8,9,0,1,2,3,4,5,6,7] hq
   |some y=>
    obtain⟨u0,ow⟩:=y;refine aJ.perm ((LY b1 b2 B w0 e aQ te ae (af us τ) (au r) av bH (bk T av (us.take i)) τ2 i us[i] (er us[i]) (τ i) (ay us[i]) u0 ow a' hx (by omega) (cj r _ hu) qX).y (by omega) Y (fun b f cG=>ih _ ⟨some (us[i],ow),cG,f 0,b 1000,(fun h=>by cases h),(fun u L7 h=>?_),?_⟩) (fun _=>0) x) (hL.trans ?_)
    ·injection h with h
     injection h with _ h
     subst h;exact⟨by omega,hex _ (fun h=>absurd rfl h) ((Bb u0 ow rfl).2)⟩
    ·rw[uJ]
     show List.Perm (rt [(a 0,ak (uw us[i] ow))] cG++((a 1,aq (a 3) (i+1))::(a 2,ab (af (bk T av (us.take i)++([]:LN).filter fun d=>decide (d∈av)) (f 0)) (b 1000))::(CT++[(r us[i],ab (af [] (ay us[i])) (er us[i]))]))++Y) (rt [(a 0,ak (uw us[i] ow))] cG++_++_);have hq:=lF;rw[e1] at hq;exact i' [8,9,0,1,2,3,4,5,6,7] [8,0,1,2,3,4,5,6,7] hq.symm
    ·show List.Perm _ (rt [(a 0,ak (uw u0 ow))] x++((a 1,aq (a 3) i)::(a 2,ab (af (bk T av (us.take i)) τ2) aQ)::(CT++[(r us[i],ab (af [] (ay us[i])) (er us[i]))]))++Y)
     have hq:=lF;rw[e1] at hq;exact i' [8,0,1,2,3,4,5,6,7] [8,9,0,1,2,3,4,5,6,7] hq
  |cons b0 row=>
   rw[sj] at uJ hex;have e1:bo r T ay er us[i]=(r us[i],ab (af (b0::row) (ay us[i])) (er us[i])):=by unfold bo;rw[sj]
   have iJ:∀ x∈b0::row,x<5:=by rw[←sj];exact vk _ hu
   have hlen:(b0::row).length≤100:=by rw[←sj];exact hT _ hu
   cases o with
   |none=>
    refine aJ.perm ((LX b1 b2 B w0 e aQ te ae (af us τ) (au r) av bH (bk T av (us.take i)) τ2 i us[i] (er us[i]) (τ i) (ay us[i]) b0 row a' hx (by omega) (cj r _ hu) qX iJ hlen).y (by omega) Y (fun b f cG=>ih _ ⟨some (us[i],(some (b 1000))),cG,f 0,b 1001,(fun h=>by cases h),(fun u L7 h=>?_),?_⟩) (fun _=>0) x) (hL.trans ?_)
    ·injection h with h
     injection h with _ h
     subst h;exact⟨by omega,hex _ (fun h=>rfl) (fun _=>rfl)⟩
    ·rw[uJ]
     show List.Perm (rt [(a 0,ak (uw us[i] (some (b 1000))))] cG++((a 1,aq (a 3) (i+1))::(a 2,ab (af (bk T av (us.take i)++(b0::row).filter fun d=>decide (d∈av)) (f 0)) (b 1001))::(CT++[(r us[i],ab (af (b0::row) (ay us[i])) (er us[i]))]))++Y) (rt [(a 0,ak (uw us[i] (some (b 1000))))] cG++_++_);have hq:=lF;rw[e1] at hq;exact i' [8,9,0,1,2,3,4,5,6,7] [8,0,1,2,3,4,5,6,7] hq.symm
    ·show List.Perm _ (rt [(a 0,ak [])] x++((a 1,aq (a 3) i)::(a 2,ab (af (bk T av (us.take i)) τ2) aQ)::(CT++[(r us[i],ab (af (b0::row) (ay us[i])) (er us[i]))]))++Y)
     have hq:=lF;rw[e1] at hq;exact i' [8,0,1,2,3,4,5,6,7] [8,9,0,1,2,3,4,5,6,7] hq
   |some y=>
    obtain⟨u0,ow⟩:=y;refine aJ.perm ((LZ b1 b2 B w0 e aQ te ae (af us τ) (au r) av bH (bk T av (us.take i)) τ2 i us[i] (er us[i]) (τ i) (ay us[i]) b0 row u0 ow a' hx (by omega) (cj r _ hu) qX iJ hlen).y (by omega) Y (fun b f cG=>ih _ ⟨some (us[i],(some (b 1000))),cG,f 0,b 1001,(fun h=>by cases h),(fun u L7 h=>?_),?_⟩) (fun _=>0) x) (hL.trans ?_)
    ·injection h with h
     injection h with _ h
     subst h;exact⟨by omega,hex _ (fun h=>rfl) (fun _=>rfl)⟩
    ·rw[uJ]
     show List.Perm (rt [(a 0,ak (uw us[i] (some (b 1000))))] cG++((a 1,aq (a 3) (i+1))::(a 2,ab (af (bk T av (us.take i)++(b0::row).filter fun d=>decide (d∈av)) (f 0)) (b 1001))::(CT++[(r us[i],ab (af (b0::row) (ay us[i])) (er us[i]))]))++Y) (rt [(a 0,ak (uw us[i] (some (b 1000))))] cG++_++_);have hq:=lF;rw[e1] at hq;exact i' [8,9,0,1,2,3,4,5,6,7] [8,0,1,2,3,4,5,6,7] hq.symm
    ·show List.Perm _ (rt [(a 0,ak (uw u0 ow))] x++((a 1,aq (a 3) i)::(a 2,ab (af (bk T av (us.take i)) τ2) aQ)::(CT++[(r us[i],ab (af (b0::row) (ay us[i])) (er us[i]))]))++Y)
     have hq:=lF;rw[e1] at hq;exact i' [8,0,1,2,3,4,5,6,7] [8,9,0,1,2,3,4,5,6,7] hq
 ·rintro L ⟨o,x,τ2,aQ,ho,Bb,hL⟩
  rw[List.take_length] at hL;cases o with
  |none=>
   have:=ho rfl;obtain⟨u,hu,_⟩:=hw;rw[List.length_eq_zero_iff.mp this] at hu;cases hu
  |some y=>
   obtain⟨u0,ow⟩:=y;have hs:=(Bb u0 ow rfl).2 (by rw[List.take_length];exact hw);cases ow with
   |none=>cases hs
   |some w1=>
    have z:=(Pn b1 b2 B w0 e aQ te ae (af us τ) (au r) av bH (af (bk T av us) τ2) us.length u0 (some w1) a (cF _ _ _ (eU lr)) (frx:=fr)).use (aA r T ay er) (fun _=>0) x;refine(aJ.perm z hL).mono (by omega) ?_;rintro rs L' ⟨b,f,cG,hr,rfl⟩;exact⟨_,[],by rw[ck];exact .refl _,τ2,aQ,u0,w1,cG,hr,rfl⟩
end
section
variable {b1 b2:Bool}{w:WW}{aa:Heap}
def L8 (B:BB w aa b1 b2)(w0:WW)(T:Nat→List Nat)(hT:∀ k<5,(T k).length≤100)(vk:∀ k<5,∀ x∈T k,x<5)(us:LN)(yO:∀ u∈us,u<5)(BC:us.length≤5)(hw:∃ u∈us,T u≠[])(av:LN)(τ bH:NT)(ay:Nat→Nat→Tok):gw w aa b1 b2:=
 dk 3 true true 1 none (fun cc rr=>(DL w0 (aH rr 3) (aH rr 2) (aH rr 5) (aH rr 7) (af us τ) (au fun i=>adr rr (i+8)) av bH (ef 8 [j6 cc] rr)).c) (fun _ rr=>[(adr rr 0,ak [])])
  (fun _ rr=>[(adr rr 1,aq (adr rr 3) 0),(adr rr 2,ab [] (aH rr 2)),(adr rr 3,ab (af us τ) (aH rr 3)),(adr rr 4,cR (adr rr 5)),(adr rr 5,ab (au fun i=>adr rr (i+8)) (aH rr 5)),(adr rr 6,cR (adr rr 7)),(adr rr 7,ab (ag (av.map ao) bH) (aH rr 7))]++aA (fun i=>adr rr (i+8)) T ay (fun i=>aH rr (i+8))) (fun _ _ _ _=> .ok .next) (fun _ rr b _=>[(adr rr 0,ak (uw (b 1) (some (b 2))))])
  (fun _ rr b f=>[(adr rr 2,ab (af (bk T av us) (f 0)) (b 0)),(adr rr 3,ab (af us τ) (aH rr 3)),(adr rr 4,cR (adr rr 5)),(adr rr 5,ab (au fun i=>adr rr (i+8)) (aH rr 5)),(adr rr 6,cR (adr rr 7)),(adr rr 7,ab (ag (av.map ao) bH) (aH rr 7))]++aA (fun i=>adr rr (i+8)) T ay (fun i=>aH rr (i+8)))
  fun cc rr t x=>by
   have z:=DM b1 b2 B w0 (ef 8 [j6 cc] rr) (fun i=>adr rr (i+8)) T hT vk us yO BC hw av τ bH ay (fun i=>aH rr (i+8)) (aH rr 3) (aH rr 2) (aH rr 5) (aH rr 7) (fr:=none) lr x;rw[a5 (rt _ _)] at z;refine z.mono lr fun rs L hP=>?_;obtain⟨τ2,aQ,u0,w1,x',rfl,rfl⟩:=hP;refine⟨fun j=>match j with|0=>aQ|1=>u0|_=>w1,fun _=>τ2,rt [(adr rr 0,ak (uw u0 (some w1)))] x',?_,rfl,rfl⟩;rw[a5 (rt _ _)];rfl
end
section
variable {prog:Program}{w:WW}{aa:Heap}
theorem DN (n:Nat)(Z:Str)(h2:2≤n)(hn:n≤1000)(hz:(⟨(List.replicate n (S [47]).cps).foldl (·++·) #[]⟩:Str)=Z)(hl:Z.length≤1000):fc prog w aa 0 (.call (.builtin "str.__mul__") ⟨[.str (S [47]) 0,.int n 0],[]⟩) [] (fun _=> .ok (.ret (.str Z 0))) (fun _=>[]):=fun t x=>by
 have h1:((n:Int)==1)=false:=by simp;omega
 have hlen:(S [47]).length=1:=rfl;have g:=gives_str_mul (S [47]) (n:Int) (t 0) (t 1) (by simp;omega) (fun _ _=>by
  rw[hlen];have:((2:Int)^63-1) / (n:Int)≥1:=by
   refine(Int.le_ediv_iff_mul_le (by omega)).mpr ?_;omega
  omega) (fun _ _=>by
  rw[hlen];unfold Builtin.Str.tooLong sizeLine;simp;omega)
 have e:(if(n:Int)<1 then Made.str Str.empty else if((n:Int)==1||(S [47]).length==0)=true then Made.val (.str (S [47]) (t 0)) else Made.str ⟨(List.replicate (n:Int).toNat (S [47]).cps).foldl (·++·) #[]⟩)=Made.str Z:=by
  rw[if_neg (by omega),h1,hlen,if_neg (by decide),Int.toNat_natCast,hz]
 rw[e] at g;exact bM (v0:=.str Z 0) (bB F.slot_str_mul (fun s=>typeIs_str s _ (t 0)) F.entry_str_mul (F.args_str_mul_2 _ _) g (by show Z.length≤sizeLine;unfold sizeLine;omega)) rfl
def th (n:Nat)(Z:Str)(h2:2≤n)(hn:n≤1000)(hz:(⟨(List.replicate n (S [47]).cps).foldl (·++·) #[]⟩:Str)=Z)(hl:Z.length≤1000):Ent prog w aa:=fP 0 _ _ _ _ (DN n Z h2 hn hz hl)
theorem xK (Y R:Str)(hs:stripSame (S [47]).cps.contains false true Y=false)(hr:_root_.PySem.stripped (S [47]).cps.contains false true Y=R)(hl:R.length≤1000):fc prog w aa 0 (.call (.builtin "str.rstrip") ⟨[.str Y 0,.str (S [47]) 0],[]⟩) [] (fun _=> .ok (.ret (.str R 0))) (fun _=>[]):=fun t x=>by
 have g:=gives_str_rstrip_chars Y (S [47]) (t 0) (t 1);rw[hs,hr] at g;exact bM (v0:=.str R 0) (bB F.slot_str_rstrip (fun s=>typeIs_str s _ (t 0)) F.entry_str_rstrip (F.args_str_rstrip_2 _ _) g (by show R.length≤sizeLine;unfold sizeLine;omega)) rfl
def lN (Y R:Str)(hs:stripSame (S [47]).cps.contains false true Y=false)(hr:_root_.PySem.stripped (S [47]).cps.contains false true Y=R)(hl:R.length≤1000):Ent prog w aa:=fP 0 _ _ _ _ (xK Y R hs hr hl)
end
theorem ti:∀ (n:Nat)(acc:Array Nat),((List.replicate n (S [47]).cps).foldl (·++·) acc).toList=acc.toList++List.replicate n 47
 |0,acc=>by simp
 |n+1,acc=>by
  rw[List.replicate_succ,List.foldl_cons,ti n];simp[S,List.replicate_succ]
def gX (n:Nat):Str:=S (List.replicate n 47)
theorem gY (n:Nat):(⟨(List.replicate n (S [47]).cps).foldl (·++·) #[]⟩:Str)=gX n:=by
 apply Str.ext';apply Array.ext';rw[ti];rfl
theorem AD (dp:LN)(bq:dp≠[])(hd:∀ x∈dp,x<5):stripSame (S [47]).cps.contains false true (S (aV 47 dp++[47]))=false∧_root_.PySem.stripped (S [47]).cps.contains false true (S (aV 47 dp++[47]))=P dp:=by
 have hc:∀ k,(S [47]).cps.contains k=decide (k=47):=fun k=>by
  show(#[47]:Array Nat).contains k=_;by_cases h:k=47<;>simp[h]
 obtain⟨qY,e,rfl⟩:∃ qY e,dp=qY++[e]:=by
  rcases List.eq_nil_or_concat dp with h|⟨qY,e,h⟩
  ·exact absurd h bq
  ·exact⟨qY,e,by rw[h,List.concat_eq_append]⟩
 obtain⟨L,hL⟩:∃ L,aV 47 (qY++[e])=L++[e+48]:=by
  cases qY with
  |nil=>exact⟨[],rfl⟩
  |cons a l=>exact⟨aV 47 (a::l)++[47],by rw[dM 47 e _ (by simp)];simp⟩
 have he:e+48≠47:=by omega
 have ht:stripHi (S [47]).cps.contains true (S (aV 47 (qY++[e])++[47])) 0=(aV 47 (qY++[e])).length:=by
  unfold stripHi;rw[if_pos rfl];have h1:((S (aV 47 (qY++[e])++[47])).cps.toList.drop 0).reverse=47::(e+48)::L.reverse:=by
   show(aV 47 (qY++[e])++[47]).reverse=_;rw[hL];simp
  rw[h1,List.takeWhile_cons,hc,if_pos (by simp),List.takeWhile_cons,hc,if_neg (by simp[he])];show(aV 47 (qY++[e])++[47]).length-1=_;simp
 constructor
 ·unfold stripSame stripLo
  simp only[Bool.false_eq_true,if_false,ht];have:((aV 47 (qY++[e])).length==(S (aV 47 (qY++[e])++[47])).length)=false:=by
   show((aV 47 (qY++[e])).length==(aV 47 (qY++[e])++[47]).length)=false;simp
  rw[this];rfl
 ·unfold _root_.PySem.stripped stripLo
  simp only[Bool.false_eq_true,if_false,ht];apply Str.ext';apply Array.ext';rw[StrLaws.strSub_toList];show((aV 47 (qY++[e])++[47]).drop 0).take _=aV 47 (qY++[e]);simp
def uK (X:Str)(i:Int)(a:N2):SX Code Result:=sC (.call (.ref 192) ⟨[.str X 0],[]⟩) [] [] (fun b f=> .ok (.ret (.str (S []) 0)))
section
variable (b1 b2:Bool){w:WW}{aa:Heap}(B:BB w aa b1 b2)
include B
theorem xM (X:Str)(i:Int)(hr:(match Builtin.Str.lastOccurrence X (S [47]) 0 X.length with|some i=>(i:Int)|none=> -1)=i)(hj:i+1=0)(hs:cu X none (some 0)=S [])(a:N2){frx:OE}:eP w aa b1 b2 1 frx false false (uK X i a):=
 tX B aO.none (ol 0x11ba1ac11baa1bb11aa1aaaabbb1111bb233a3ac11baa1aabbbbbbbb4444 (.u [] (ka X (S [47]) i hr)::(.u [] (m9 i 1 0 hj)::(ol 0x4444 (.u [0] (tJ X (S []) none (some 0) hs (by decide))::(ol 0x555bbb5 [])))))) z2 z3 [] 5 0
noncomputable def uL (X Z R:Str)(k0:Nat)(i j:Int)(a:N2):SX Code Result:=sC (.call (.ref 192) ⟨[.str X 0],[]⟩) [] [] (fun b f=> .ok (.ret (.str R 0)))
theorem xN (X Z R:Str)(k0:Nat)(i j:Int)(hr:(match Builtin.Str.lastOccurrence X (S [47]) 0 X.length with|some i=>(i:Int)|none=> -1)=i)(hj:i+1=j)(hs:cu X none (some j)=(S [k0,47]))(hz:(⟨(List.replicate 2 (S [47]).cps).foldl (·++·) #[]⟩:Str)=Z)(hl:Z.length≤1000)(bq:(!((S [k0,47]).cps.toList==Z.cps.toList))=true)(vm:stripSame (S [47]).cps.contains false true (S [k0,47])=false)(hR:_root_.PySem.stripped (S [47]).cps.contains false true (S [k0,47])=R)(DO:R.length≤1000)(a:N2){frx:OE}:eP w aa b1 b2 1 frx false false (uL X Z R k0 i j a):=
 tX B aO.none (ol 0x11ba1ac11baa1bb11aa1aaaabbb1111bb233a3ac11baa1aabbbbbbbb4444 (.u [] (ka X (S [47]) i hr)::(.u [] (m9 i 1 j hj)::(ol 0x4444 (.u [0] (tJ X (S [k0,47]) none (some j) hs (by show 2≤1000;decide))::(ol 0x555 (.u [] (jN (S [k0,47]) 2 rfl (by decide))::(ol 0x55aa5bbbbbb (.u [] (th 2 Z (by decide) (by decide) hz hl)::(.u [] (iM (S [k0,47]) Z true bq)::(ol 0x55 (.u [] (lN (S [k0,47]) R vm hR DO)::(ol 0x555 []))))))))))))) z2 z3 [] 5 0
noncomputable def uM (X Z R:Str)(k0 k1:Nat)(i j:Int)(a:N2):SX Code Result:=sC (.call (.ref 192) ⟨[.str X 0],[]⟩) [] [] (fun b f=> .ok (.ret (.str R 0)))
theorem xO (X Z R:Str)(k0 k1:Nat)(i j:Int)(hr:(match Builtin.Str.lastOccurrence X (S [47]) 0 X.length with|some i=>(i:Int)|none=> -1)=i)(hj:i+1=j)(hs:cu X none (some j)=(S [k0,47,k1,47]))(hz:(⟨(List.replicate 4 (S [47]).cps).foldl (·++·) #[]⟩:Str)=Z)(hl:Z.length≤1000)(bq:(!((S [k0,47,k1,47]).cps.toList==Z.cps.toList))=true)(vm:stripSame (S [47]).cps.contains false true (S [k0,47,k1,47])=false)(hR:_root_.PySem.stripped (S [47]).cps.contains false true (S [k0,47,k1,47])=R)(DO:R.length≤1000)(a:N2){frx:OE}:eP w aa b1 b2 1 frx false false (uM X Z R k0 k1 i j a):=
 tX B aO.none (ol 0x11ba1ac11baa1bb11aa1aaaabbb1111bb233a3ac11baa1aabbbbbbbb4444 (.u [] (ka X (S [47]) i hr)::(.u [] (m9 i 1 j hj)::(ol 0x4444 (.u [0] (tJ X (S [k0,47,k1,47]) none (some j) hs (by show 4≤1000;decide))::(ol 0x555 (.u [] (jN (S [k0,47,k1,47]) 4 rfl (by decide))::(ol 0x55aa5bbbbbb (.u [] (th 4 Z (by decide) (by decide) hz hl)::(.u [] (iM (S [k0,47,k1,47]) Z true bq)::(ol 0x55 (.u [] (lN (S [k0,47,k1,47]) R vm hR DO)::(ol 0x555 []))))))))))))) z2 z3 [] 5 0
noncomputable def uN (X Z R:Str)(k0 k1 k2:Nat)(i j:Int)(a:N2):SX Code Result:=sC (.call (.ref 192) ⟨[.str X 0],[]⟩) [] [] (fun b f=> .ok (.ret (.str R 0)))
theorem xP (X Z R:Str)(k0 k1 k2:Nat)(i j:Int)(hr:(match Builtin.Str.lastOccurrence X (S [47]) 0 X.length with|some i=>(i:Int)|none=> -1)=i)(hj:i+1=j)(hs:cu X none (some j)=(S [k0,47,k1,47,k2,47]))(hz:(⟨(List.replicate 6 (S [47]).cps).foldl (·++·) #[]⟩:Str)=Z)(hl:Z.length≤1000)(bq:(!((S [k0,47,k1,47,k2,47]).cps.toList==Z.cps.toList))=true)(vm:stripSame (S [47]).cps.contains false true (S [k0,47,k1,47,k2,47])=false)(hR:_root_.PySem.stripped (S [47]).cps.contains false true (S [k0,47,k1,47,k2,47])=R)(DO:R.length≤1000)(a:N2){frx:OE}:eP w aa b1 b2 1 frx false false (uN X Z R k0 k1 k2 i j a):=
 tX B aO.none (ol 0x11ba1ac11baa1bb11aa1aaaabbb1111bb233a3ac11baa1aabbbbbbbb4444 (.u [] (ka X (S [47]) i hr)::(.u [] (m9 i 1 j hj)::(ol 0x4444 (.u [0] (tJ X (S [k0,47,k1,47,k2,47]) none (some j) hs (by show 6≤1000;decide))::(ol 0x555 (.u [] (jN (S [k0,47,k1,47,k2,47]) 6 rfl (by decide))::(ol 0x55aa5bbbbbb (.u [] (th 6 Z (by decide) (by decide) hz hl)::(.u [] (iM (S [k0,47,k1,47,k2,47]) Z true bq)::(ol 0x55 (.u [] (lN (S [k0,47,k1,47,k2,47]) R vm hR DO)::(ol 0x555 []))))))))))))) z2 z3 [] 5 0
noncomputable def uO (X Z R:Str)(k0 k1 k2 k3:Nat)(i j:Int)(a:N2):SX Code Result:=sC (.call (.ref 192) ⟨[.str X 0],[]⟩) [] [] (fun b f=> .ok (.ret (.str R 0)))
theorem xQ (X Z R:Str)(k0 k1 k2 k3:Nat)(i j:Int)(hr:(match Builtin.Str.lastOccurrence X (S [47]) 0 X.length with|some i=>(i:Int)|none=> -1)=i)(hj:i+1=j)(hs:cu X none (some j)=(S [k0,47,k1,47,k2,47,k3,47]))(hz:(⟨(List.replicate 8 (S [47]).cps).foldl (·++·) #[]⟩:Str)=Z)(hl:Z.length≤1000)(bq:(!((S [k0,47,k1,47,k2,47,k3,47]).cps.toList==Z.cps.toList))=true)(vm:stripSame (S [47]).cps.contains false true (S [k0,47,k1,47,k2,47,k3,47])=false)(hR:_root_.PySem.stripped (S [47]).cps.contains false true (S [k0,47,k1,47,k2,47,k3,47])=R)(DO:R.length≤1000)(a:N2){frx:OE}:eP w aa b1 b2 1 frx false false (uO X Z R k0 k1 k2 k3 i j a):=
 tX B aO.none (ol 0x11ba1ac11baa1bb11aa1aaaabbb1111bb233a3ac11baa1aabbbbbbbb4444 (.u [] (ka X (S [47]) i hr)::(.u [] (m9 i 1 j hj)::(ol 0x4444 (.u [0] (tJ X (S [k0,47,k1,47,k2,47,k3,47]) none (some j) hs (by show 8≤1000;decide))::(ol 0x555 (.u [] (jN (S [k0,47,k1,47,k2,47,k3,47]) 8 rfl (by decide))::(ol 0x55aa5bbbbbb (.u [] (th 8 Z (by decide) (by decide) hz hl)::(.u [] (iM (S [k0,47,k1,47,k2,47,k3,47]) Z true bq)::(ol 0x55 (.u [] (lN (S [k0,47,k1,47,k2,47,k3,47]) R vm hR DO)::(ol 0x555 []))))))))))))) z2 z3 [] 5 0
end
theorem DP (dp:LN)(d:Nat)(bq:dp≠[])(jr:∀ x∈dp,x<5)(hd:d<5):
  pP (P (dp++[d]))+1=((2*dp.length:Nat):Int)∧cu (P (dp++[d])) none (some ((2*dp.length:Nat):Int))=S (aV 47 dp++[47])∧(aV 47 dp++[47]).length=2*dp.length:=by
 obtain⟨a,l,rfl⟩:∃ a l,dp=a::l:=by cases dp with|nil=>exact absurd rfl bq|cons a l=>exact⟨a,l,rfl⟩
 have hlen:(aV 47 (a::l)).length=2*l.length+1:=dW 47 a l;apply And.intro ?_ (And.intro ?_ ?_)
 ·rw[qy (a::l) bq jr d hd]
  simp only[dS];omega
 ·have hj:aV 47 ((a::l)++[d])=aV 47 (a::l)++[47,d+48]:=dM 47 d _ bq
  show cu (S (aV 47 ((a::l)++[d]))) none _=_;rw[hj,n8 _ _ (by simp[hlen];omega)];congr 1;have:2*(a::l).length=(aV 47 (a::l)).length+1:=by rw[hlen];simp only[dS];omega
  rw[this,List.take_append,fT (by omega)];simp
 ·simp only[List.length_append,hlen,dS,List.length_nil];omega
theorem pI (dp:LN)(a:Nat)(n:Nat)(hn:n≠0):(!((S (aV 47 (a::dp)++[47])).cps.toList==(gX n).cps.toList))=true:=by
 have hh:∃ r,aV 47 (a::dp)=(a+48)::r:=by cases dp with|nil=>exact⟨[],rfl⟩|cons b l=>exact⟨_,rfl⟩
 obtain⟨r,hr⟩:=hh;obtain⟨m,rfl⟩:=Nat.exists_eq_succ_of_ne_zero hn;show(!((aV 47 (a::dp)++[47])==List.replicate (m+1) 47))=true;rw[hr,List.replicate_succ];simp
theorem L9 (dp:LN)(hlen:dp.length≤4)(jr:∀ x∈dp,x<5):(P dp).length≤1000:=by
 cases dp with
 |nil=>exact bZ _
 |cons a l=>rw[qx];simp only[dS] at hlen;omega
section
variable {b1 b2:Bool}{w:WW}{aa:Heap}
theorem Ma (B:BB w aa b1 b2)(dp:LN)(d:Nat)(bq:dp≠[])(hlen:dp.length≤4)(jr:∀ x∈dp,x<5)(hd:d<5):EZ w aa b1 b2 1 false false (.call (.ref 192) ⟨[.str (P (dp++[d])) 0],[]⟩) [] [] (fun _=> .ok (.ret (.str (P dp) 0))) (fun _=>[]) (fun _=>[]):=by
 obtain⟨h1,h2,h3⟩:=DP dp d bq jr hd;obtain⟨h4,h5⟩:=AD dp bq jr;have Jh:=L9 dp hlen jr;have ie:∀ n,n≤1000→(gX n).length≤1000:=fun n h=>by show(List.replicate n 47).length≤1000;simpa using h
 rcases dp with _|⟨k0,_|⟨k1,_|⟨k2,_|⟨k3,_|⟨k4,l⟩⟩⟩⟩⟩
 ·exact absurd rfl bq
 ·have e0:aV 47 [k0]++[47]=[k0+48,47]:=by simp only[aV,List.cons_append,List.nil_append]
  have hn:=pI [] k0 2 (by decide);rw[e0] at h2 h4 h5 hn;exact(xN b1 b2 B (P ([k0]++[d])) (gX 2) (P [k0]) (k0+48) _ _ rfl h1 h2 (gY 2) (ie 2 (by decide)) hn h4 h5 Jh (fun _=>0)).g
 ·have e0:aV 47 [k0,k1]++[47]=[k0+48,47,k1+48,47]:=by simp only[aV,List.cons_append,List.nil_append]
  have hn:=pI [k1] k0 4 (by decide);rw[e0] at h2 h4 h5 hn;exact(xO b1 b2 B (P ([k0,k1]++[d])) (gX 4) (P [k0,k1]) (k0+48) (k1+48) _ _ rfl h1 h2 (gY 4) (ie 4 (by decide)) hn h4 h5 Jh (fun _=>0)).g
 ·have e0:aV 47 [k0,k1,k2]++[47]=[k0+48,47,k1+48,47,k2+48,47]:=by simp only[aV,List.cons_append,List.nil_append]
  have hn:=pI [k1,k2] k0 6 (by decide);rw[e0] at h2 h4 h5 hn;exact(xP b1 b2 B (P ([k0,k1,k2]++[d])) (gX 6) (P [k0,k1,k2]) (k0+48) (k1+48) (k2+48) _ _ rfl h1 h2 (gY 6) (ie 6 (by decide)) hn h4 h5 Jh (fun _=>0)).g
 ·have e0:aV 47 [k0,k1,k2,k3]++[47]=[k0+48,47,k1+48,47,k2+48,47,k3+48,47]:=by simp only[aV,List.cons_append,List.nil_append]
  have hn:=pI [k1,k2,k3] k0 8 (by decide);rw[e0] at h2 h4 h5 hn;exact(xQ b1 b2 B (P ([k0,k1,k2,k3]++[d])) (gX 8) (P [k0,k1,k2,k3]) (k0+48) (k1+48) (k2+48) (k3+48) _ _ rfl h1 h2 (gY 8) (ie 8 (by decide)) hn h4 h5 Jh (fun _=>0)).g
 ·exfalso;simp only[dS] at hlen;omega
theorem Mb (B:BB w aa b1 b2)(d:Nat)(hd:d<5):EZ w aa b1 b2 1 false false (.call (.ref 192) ⟨[.str (P [d]) 0],[]⟩) [] [] (fun _=> .ok (.ret (.str (P []) 0))) (fun _=>[]) (fun _=>[]):=
 (xM b1 b2 B (P [d]) (-1) (sS d hd) rfl (n8 _ 0 (by simp)) (fun _=>0)).g
theorem DQ (B:BB w aa b1 b2)(p:LN)(bq:p≠[])(hlen:p.length≤5)(hp:∀ x∈p,x<5):EZ w aa b1 b2 1 false false (.call (.ref 192) ⟨[.str (P p) 0],[]⟩) [] [] (fun _=> .ok (.ret (.str (P p.dropLast) 0))) (fun _=>[]) (fun _=>[]):=by
 rcases List.eq_nil_or_concat p with h|⟨dp,d,h⟩
 ·exact absurd h bq
 ·rw[List.concat_eq_append] at h
  subst h;rw[List.dropLast_concat];have hd:d<5:=hp d (by simp);by_cases h0:dp=[]
  ·subst h0;exact Mb B d hd
  ·exact Ma B dp d h0 (by simp at hlen;omega) (fun x h=>hp x (by simp[h])) hd
def DR (B:BB w aa b1 b2)(p:LN)(bq:p≠[])(hlen:p.length≤5)(hp:∀ x∈p,x<5):gw w aa b1 b2:=
 fB 1 false false 0 (fun _ _=> .call (.ref 192) ⟨[.str (P p) 0],[]⟩) (fun _ _=>[]) (fun _ _=>[]) (fun _ _ _=> .ok (.ret (.str (P p.dropLast) 0))) (fun _ _ _=>[]) (fun _ _ _=>[]) fun _ _=>DQ B p bq hlen hp
end
def Mc (ww:WW)(ln vs:LV)(i d ta:Nat)(t0:Tok)(e:Nat)(e2:Nat)(a:N2):SX Code Code:=⟨iv (eH ww) (a 2) (a 4) (a 0) (a 1),[(a 0,ak []),(a 1,ah [(S [116,105,101,115],.ref ta),(S [108,105,110,101],.ref (a 3))])],[(a 2,aq (a 3) i),(a 3,ab ln e),(a 4,ab vs e2)],fun b f=>iv (eH ww) (a 2) (a 4) (a 0) (a 1),fun b f=>[(a 0,ak [(S [97],.int d 0)]),(a 1,ah [(S [116,105,101,115],.ref ta),(S [108,105,110,101],.ref (a 3))])],fun b f=>[(a 2,aq (a 3) (i+1)),(a 3,ab ln e),(a 4,ab (vs++[.str (S [d+48]) (b 1000)]) (e2+1))]⟩
section
variable (b1 b2:Bool){w:WW}{aa:Heap}(B:BB w aa b1 b2)
include B
theorem Pp (ln vs:LV)(i d ta:Nat)(t0:Tok)(e:Nat)(e2:Nat)(hd:d<5)(hx:ln[i]?=some (.int d t0)) (hv:vs.length≤1000) (a:N2):eR w aa b1 b2 2 true (Mc (wd w b1 b2) ln vs i d ta t0 e e2 a):=
 eO B (ol 0x3b3 (.u [2,2] (bQ ln i (.int d t0) hx)::(ol 0x33aa3 (.u [] (jt B d hd)::(ol 0xb5 (.u [4] (bD vs hv)::(ol 0xd []))))))) (fe [(6,0)]) z3 [3,3,1,1,0] 0 2
def Md (ww:WW)(ln vs:LV)(i d ta:Nat)(t0:Tok)(d2:Nat)(e:Nat)(e2:Nat)(a:N2):SX Code Code:=⟨iv (eH ww) (a 2) (a 4) (a 0) (a 1),[(a 0,ak [(S [97],.int d2 0)]),(a 1,ah [(S [116,105,101,115],.ref ta),(S [108,105,110,101],.ref (a 3))])],[(a 2,aq (a 3) i),(a 3,ab ln e),(a 4,ab vs e2)],fun b f=>iv (eH ww) (a 2) (a 4) (a 0) (a 1),fun b f=>[(a 0,ak [(S [97],.int d 0)]),(a 1,ah [(S [116,105,101,115],.ref ta),(S [108,105,110,101],.ref (a 3))])],fun b f=>[(a 2,aq (a 3) (i+1)),(a 3,ab ln e),(a 4,ab (vs++[.str (S [d+48]) (b 1000)]) (e2+1))]⟩
theorem Pq (ln vs:LV)(i d ta:Nat)(t0:Tok)(d2:Nat)(e:Nat)(e2:Nat)(hd:d<5)(hx:ln[i]?=some (.int d t0)) (hv:vs.length≤1000) (a:N2):eR w aa b1 b2 2 true (Md (wd w b1 b2) ln vs i d ta t0 d2 e e2 a):=
 eO B (ol 0x3b3 (.u [2,2] (bQ ln i (.int d t0) hx)::(ol 0x33aa3 (.u [] (jt B d hd)::(ol 0xb5 (.u [4] (bD vs hv)::(ol 0xd []))))))) (fe [(6,0)]) z3 [3,3,1,1,0] 0 2
def Me (ww:WW)(ln vs:LV)(i ta d2:Nat)(e:Nat)(e2:Nat)(a:N2):SX Code Result:=sB (iv (eH ww) (a 2) (a 4) (a 0) (a 1)) [(a 0,ak [(S [97],.int d2 0)]),(a 1,ah [(S [116,105,101,115],.ref ta),(S [108,105,110,101],.ref (a 3))])] [(a 2,aq (a 3) i),(a 3,ab ln e),(a 4,ab vs e2)] (fun b f=> .ok .next) (fun b f=>[(a 3,ab ln e),(a 4,ab vs e2)])
theorem Pr (ln vs:LV)(i ta d2:Nat)(e:Nat)(e2:Nat)(hx:ln[i]?=none) (a:N2) {frx:OE}:eP w aa b1 b2 2 frx true false (Me (wd w b1 b2) ln vs i ta d2 e e2 a):=
 tX B aO.none (ol 0x3b3 (.u [2,2] (bA ln i hx)::(ol 0x1 []))) z2 z3 [3,3,2,2] 2 2
abbrev uP (a:N2)(ta:Nat)(kv:List (Str×Value)):Ow:=[(a 0,ak kv),(a 1,ah [(S [116,105,101,115],.ref ta),(S [108,105,110,101],.ref (a 3))])]
theorem nI (a:N2)(ta:Nat)(ds:LN)(cJ:∀ d∈ds,d<5)(τ:NT)(hlen:ds.length≤100)(e:Nat):
  ∀ n i (τ2:NT)(e2 d2:Nat) x,i+n=ds.length→
   d3 pw (wd w b1 b2) aa 2 (iv (eH (wd w b1 b2)) (a 2) (a 4) (a 0) (a 1)) (rt (uP a ta [(S [97],.int d2 0)]) x++[(a 2,aq (a 3) i),(a 3,ab (af ds τ) e),(a 4,ab (ag ((ds.take i).map ao) τ2) e2)])
    (fun r L=>∃ τ2 e2 L1 z,r=.ok .next∧nL L1=uP a ta [(S [97],.int (z:Nat) 0)]∧L=L1++[(a 3,ab (af ds τ) e),(a 4,ab (ag (ds.map ao) τ2) e2)]):=by
 intro n
 induction n with
 |zero=>
  intro i τ2 e2 d2 x hi;have hx:(af ds τ)[i]?=none:=cF _ _ _ (eU (by omega))
  have z:=(Pr b1 b2 B (af ds τ) (ag ((ds.take i).map ao) τ2) i ta d2 e e2 hx a).g (fun _=>0) x;refine z.mono lr fun r L hP=>?_;obtain⟨b,L1,hL,hr,hn⟩:=hP;refine⟨τ2,e2,L1,d2,?_,hn,?_⟩
  ·cases r with
   |error e=>cases hr
   |ok f=>cases f<;>first|rfl|cases hr
  ·rw[hL,fT (by omega)]
 |succ n ih=>
  intro i τ2 e2 d2 x hi;have gM:i<ds.length:=by omega
  have hd:=cy gM;have hv:(ag ((ds.take i).map ao) τ2).length≤1000:=by rw[aI,bU,dR];omega
  refine aJ.t ((Pq b1 b2 B (af ds τ) (ag ((ds.take i).map ao) τ2) i ds[i] ta (τ i) d2 e e2 (cJ _ (List.getElem_mem gM)) (cf _ _ _ _ hd) hv a).z lr (fun b f x'=>?_) (fun _=>0) x)
  ·have y:=ih (i+1) (bW ((ds.take i).map ao).length τ2 (b 1000)) (e2+1) ds[i] x' (by omega)
   rw[dv gM,List.map_append] at y;have e:ag ((ds.take i).map ao) τ2++[.str (S [ds[i]+48]) (b 1000)]=ag ((ds.take i).map ao++[ds[i]].map ao) (bW ((ds.take i).map ao).length τ2 (b 1000)):=dJ _ _ _ _;rw[←e] at y;exact y.f
theorem pJ (a:N2)(ta:Nat)(d:Nat)(ds:LN)(cJ:∀ x∈d::ds,x<5)(τ:NT)(hlen:(d::ds).length≤100)(e e2:Nat)(x:Nat→Tk):
  d3 pw (wd w b1 b2) aa 2 (iv (eH (wd w b1 b2)) (a 2) (a 4) (a 0) (a 1)) (rt (uP a ta []) x++[(a 2,aq (a 3) 0),(a 3,ab (af (d::ds) τ) e),(a 4,ab [] e2)])
   (fun r L=>∃ τ2 e2 L1 z,r=.ok .next∧nL L1=uP a ta [(S [97],.int (z:Nat) 0)]∧L=L1++[(a 3,ab (af (d::ds) τ) e),(a 4,ab (ag ((d::ds).map ao) τ2) e2)]):=by
 refine aJ.t ((Pp b1 b2 B (af (d::ds) τ) [] 0 d ta (τ 0) e e2 (cJ _ (.head _)) rfl (by simp) a).z lr (fun b f x'=>?_) (fun _=>0) x)
 ·have y:=nI b1 b2 B a ta (d::ds) cJ τ hlen e ds.length 1 (fun _=>b 1000) (e2+1) d x' (by simp;omega)
  exact y.f
omit B in
def sk (B:BB w aa b1 b2)(d:Nat)(ds:LN)(cJ:∀ x∈d::ds,x<5)(τ:NT)(hlen:(d::ds).length≤100):gw w aa b1 b2:=
 Ci 2 true false 2 (fun c rs=>iv (eH (wd w b1 b2)) (adr rs 2) (adr rs 4) (adr rs 0) (adr rs 1)) (fun c rs=>uP (adr rs) (gD (jq rs 1 0)) [])
  (fun c rs=>[(adr rs 2,aq (adr rs 3) 0),(adr rs 3,ab (af (d::ds) τ) (aH rs 3)),(adr rs 4,ab [] (aH rs 4))]) (fun _ _ _=> .ok .next)
  (fun c rs b=>uP (adr rs) (gD (jq rs 1 0)) [(S [97],.int (b 1:Nat) 0)]) (fun c rs b f=>[(adr rs 3,ab (af (d::ds) τ) (aH rs 3)),(adr rs 4,ab (ag ((d::ds).map ao) (f 0)) (b 0))])
  fun c rs t x=>(pJ b1 b2 B (adr rs) (gD (jq rs 1 0)) d ds cJ τ hlen (aH rs 3) (aH rs 4) x).mono lr fun r L hP=>by
   obtain⟨τ2,e2,L1,z,rfl,h3,h4⟩:=hP;exact⟨fun i=>match i with|0=>e2|_=>z,fun _=>τ2,L1,h4,rfl,h3⟩
end
section
variable {w:WW}{aa:Heap}
def Ig (b1 b2:Bool)(B:BB w aa b1 b2)(d:Nat)(ds:LN)(cJ:∀ x∈d::ds,x<5)(τ:NT)(hlen:(d::ds).length≤100):List (eV pw (wd w b1 b2) aa):=(ol (cond b2 0x1111ba122b2b1b 0x1111ba122b2b1b33b3b3) (.ud [0,2,1,1,0] (sk _ _ B d ds cJ τ hlen) (fun uU=>(ol 0x111 (.u [3] ((hM 32 (d::ds) hlen (uU.u.f 0)))::(ol 0xaabaababaaabaaaaaaabaaaaaaaaaaaaa1a1aaaaca1111111111baa1aabbba1aabaababaaaababaaaaaaaaaaababac111111b1aaa1aaabb1baaaaaaaaaaaaaaaaaabaaaaaaaaaaaaaaaaaaa1a1aaaaca111111b1aa1bbaa11bb1bb1aa1bbaa112aaaaaaab2ab2a2aaaaaaa2a33312aaaaaaab2ab2a2aaaaaaa2a33312aaaaaaab2ab2a2aaaaaaa2a333112aaaaaaa2aaaaaaa2aaaa231ac1111b13aaaaaaab3aaaaaaa33a41111bb1bb123aaaaaaab3ab3a3aaaaaaa3a444888889aaab9ab9a9aaa9a1f1f1f889aaab9ab9a9aaa9a1f1f1f889aaab9ab9a9aaa9a1f1f1f889aaab9ab9a9aaa9a1f1f1f89aaab9ab9a9aaa9a1f1f1f89aaab9ab9a9aaa9a1f1f1f89aaab9aaa99a1f89aaab9aaa99a1fbb9aaab9ab9a9aaa9a1f1f1f89aaab9ab9a9aaa9a1f1f1f89aaab9ab9a9aaa9a1f1f1f89aaab9ab9a9aaa9a1f1f1f89aaab9ab9a9aaa9a1f1f1f89aaab9ab9a9aaa9a1f1f1f89aaab9ab9a9aaa9a1f1f1fabbbb11b1b11191faaab1fab1fa1faaa1fa2f2f2f91faaab1fab1fa1faaa1fa2f2f2f91faaab1fab1fa1faaa1fa2f2f2f91faaab1fab1fa1faaa1fa2f2f2fabbbb11b1b1111f2faaab2fab2fa2faaa2fa3f3f3f1f2faaab2fab2fa2faaa2fa3f3f3f1f1f1f1f1f2faaab2fab2fa2faaa2fa3f3f3f1fbbb6f6f7f7fa7faa (.g::(ol 0xa1111a []))))))::[]))
def q1 (b1 b2:Bool)(B:BB w aa b1 b2)(d:Nat)(ds:LN)(cJ:∀ x∈d::ds,x<5)(τ:NT)(hlen:(d::ds).length≤100)(ta la el:Nat)(x:SV×Nat×Nat)(Fr:Ow):Out:=
 runK pw (wd w b1 b2) aa (dF (wd w b1 b2)) 6 none 9999 (Ig b1 b2 B d ds cJ τ hlen) (.bL (.call (.ref 889) ⟨[.ref ta,.ref la],[]⟩)) (startT (dF (wd w b1 b2)) (.call (.ref 889) ⟨[.ref ta,.ref la],[]⟩)) ([(la,ab (af (d::ds) τ) el)]++Fr) x
end
section
variable (b1 b2:Bool){w:WW}{aa:Heap}(B:BB w aa b1 b2)
def Mf (ta la:Nat)(TX:Str)(L:Ow):Ow:=[(adr L 0,aX 880 (adr L 1)),(adr L 1,ak (cM (adr L 2) (adr L 7) (adr L 4) (lT true) (sV []))),(adr L 2,aX 745 (adr L 3)),(adr L 3,ak (b5 TX 0)),(adr L 4,bK 0 []),(adr L 5,ah (fE (adr L 0))),(adr L 6,ah (ez ta la (adr L 0) (adr L 8) none))]
theorem Ih (d:Nat)(ds:LN)(cJ:∀ x∈d::ds,x<5)(τ:NT)(hlen:(d::ds).length≤100)(ta la el:Nat)(x:SV×Nat×Nat)(Fr:Ow):(fun o:Out=>(o.kind,ij o.tr,o.rest [12,12,6,6,2,0,10,1,0,8] 8,
   (o.gc,nL (aT 7 (o.get [12,12,6,6,2,0,10,1,0,8])),aR 7 (o.get [12,12,6,6,2,0,10,1,0,8])))=
  (8,ik o.tr,Fr,
   (bR (fV (wd w b1 b2)) (adr (o.get [12,12,6,6,2,0,10,1,0,8]) 5),Mf ta la (aj 32 (d::ds)) (o.get [12,12,6,6,2,0,10,1,0,8]),
    [(adr (o.get [12,12,6,6,2,0,10,1,0,8]) 7,cq 0 (cD (bx (o.get [12,12,6,6,2,0,10,1,0,8]) 7 1)) []),(adr (o.get [12,12,6,6,2,0,10,1,0,8]) 8,ab [] 0),(la,ab (af (d::ds) τ) el)]))) (q1 b1 b2 B d ds cJ τ hlen ta la el x Fr):=by
 revert b1 b2;exact dI (by kernel_rfl)
abbrev Ji (d:Nat)(ds:LN)(cJ:∀ x∈d::ds,x<5)(τ:NT)(hlen:(d::ds).length≤100)(ta la el:Nat)(x1:SV×Nat×Nat)(bI:Ow):Nat:=adr ((q1 b1 b2 B d ds cJ τ hlen ta la el x1 bI).get [12,12,6,6,2,0,10,1,0,8]) 6
def q2 (d:Nat)(ds:LN)(cJ:∀ x∈d::ds,x<5)(τ:NT)(hlen:(d::ds).length≤100)(ta la el:Nat)(x1:SV×Nat×Nat)(bI:Ow)(gi:Nat)(x:SV×Nat×Nat)(Fr:Ow):Out:=
 runK pw (wd w b1 b2) aa (dF (wd w b1 b2)) 6 none 9999 (ol 0x11b1b1d []) (q1 b1 b2 B d ds cJ τ hlen ta la el x1 bI).c8 ((q1 b1 b2 B d ds cJ τ hlen ta la el x1 bI).gk gi) ([]++Fr) x
theorem Ii (d:Nat)(ds:LN)(cJ:∀ x∈d::ds,x<5)(τ:NT)(hlen:(d::ds).length≤100)(ta la el:Nat)(x1:SV×Nat×Nat)(bI:Ow)(gi:Nat)(x:SV×Nat×Nat)(Fr:Ow):(fun o:Out=>(o.kind,ij o.tr,o.rest [0] 0,
   (o.code,o.c8,o.get [0]))=
  (2,ik o.tr,Fr,
   (bO (wd w b1 b2) (adr (o.get [0]) 0) (Ji b1 b2 B d ds cJ τ hlen ta la el x1 bI),.bL (bR (l7 (wd w b1 b2)) (Ji b1 b2 B d ds cJ τ hlen ta la el x1 bI)),
    [(adr (o.get [0]) 0,dy gi (bx (o.get [0]) 0 1) (bx (o.get [0]) 0 2))]))) (q2 b1 b2 B d ds cJ τ hlen ta la el x1 bI gi x Fr):=by
 revert b1 b2;exact dI (by kernel_rfl)
def q3 (d:Nat)(ds:LN)(cJ:∀ x∈d::ds,x<5)(τ:NT)(hlen:(d::ds).length≤100)(ta la el:Nat)(x1:SV×Nat×Nat)(bI:Ow)(gi:Nat)(x2:SV×Nat×Nat)(k9:Ow)(lx tl:Nat)(pb:Option (Str×ON))(z:Nat→Tk)(x:SV×Nat×Nat)(Fr:Ow):Out:=
 runK pw (wd w b1 b2) aa (dF (wd w b1 b2)) 6 none 9999 [.o 0] (q2 b1 b2 B d ds cJ τ hlen ta la el x1 bI gi x2 k9).c8 ((q2 b1 b2 B d ds cJ τ hlen ta la el x1 bI gi x2 k9).k (.ok .next)) (rt [(Ji b1 b2 B d ds cJ τ hlen ta la el x1 bI,ah (ez ta la lx tl pb))] z++Fr) x
theorem Ij (d:Nat)(ds:LN)(cJ:∀ x∈d::ds,x<5)(τ:NT)(hlen:(d::ds).length≤100)(ta la el:Nat)(x1:SV×Nat×Nat)(bI:Ow)(gi:Nat)(x2:SV×Nat×Nat)(k9:Ow)(lx tl:Nat)(pb:Option (Str×ON))(z:Nat→Tk)(x:SV×Nat×Nat)(Fr:Ow):(fun o:Out=>(o.kind,ij o.tr,o.rest [] 1,
   (nU true o.res,o.get []))=
  (1,ik o.tr,Fr,(.ok (.ret (.ref tl)),[]))) (q3 b1 b2 B d ds cJ τ hlen ta la el x1 bI gi x2 k9 lx tl pb z x Fr):=by
 revert pb;revert b1 b2;exact NC (by kernel_rfl)
end
theorem xR (l:Ow)(js:LN)(h:(List.range l.length).isPerm js=true)(tail:Ow):(l++tail).Perm (js.map (fun j=>l.getD j (0,default))++tail):=by
 have e:l=(List.range l.length).map fun j=>l.getD j (0,default):=by
  apply List.ext_getElem
  ·simp
  ·intro i h1 h2
   simp[List.getD_eq_getElem?_getD,cy h1]
 have z:=((List.isPerm_iff.mp h).map fun j=>l.getD j (0,default)).append_right tail;rw[←e] at z;exact z
section
variable (b1 b2:Bool){w:WW}{aa:Heap}(B:BB w aa b1 b2)
include B
theorem xS (fr:Nat){F:List Env}{as:LN}(h:kf F as):kf (kI (wd w b1 b2) fr::F) (fr::as):=by
 refine⟨?_,?_,h⟩
 ·have:(kI (wd w b1 b2) fr).scope.kind=.function:=by revert b1 b2;exact dI (by kernel_rfl)
  rw[this];decide
 ·revert b1 b2;exact dI (by kernel_rfl)
theorem AE (fr:Nat):bR (l7 (wd w b1 b2)) fr=.func (kH (bR (l7 (wd w b1 b2)) fr)) (kI (wd w b1 b2) fr):=by revert b1 b2;exact dI (by kernel_rfl)
theorem xT {T:Nat→List Nat}(d:Nat)(ds:LN)(cJ:∀ x∈d::ds,x<5)(hlen:(d::ds).length≤100){out:List LN}(hw:cU T [] (d::ds) [] out)(fM:out.length≤900)(τ:NT)(ta la el eta:Nat)(r:N2)(ay:Nat→Nat→Tok)(er:N2){F:List Env}{lf:Nat}{q2':pj}(hF:kf F [lf]):
  gh w aa b1 b2 7 (some F) (.call (.ref 889) ⟨[.ref ta,.ref la],[]⟩) ((la,ab (af (d::ds) τ) el)::(ta,ab (au r) eta)::(aA r T ay er++[(lf,q2'.o)]))
   (fun r' L=>∃ tl bG et,r'=.ok (.ret (.ref tl))∧L=(tl,ab (ag (out.map P) bG) et)::(la,ab (af (d::ds) τ) el)::(ta,ab (au r) eta)::(aA r T ay er++[(lf,q2'.o)])):=by
 intro A R Fr h g d' os tok size hA hf hD kk;have hf:=hf F rfl;have O:(VV pw (wd w b1 b2) aa (dF (wd w b1 b2)) A R none g d' os).Ok 6:=⟨B.kt,B.lim,hA,fun _ z=>nomatch z⟩;have Pt:Rp aa h ([(la,ab (af (d::ds) τ) el)]++((ta,ab (au r) eta)::(aA r T ay er++((lf,q2'.o)::Fr)))) size:=by
  have e:(la,ab (af (d::ds) τ) el)::(ta,ab (au r) eta)::(aA r T ay er++[(lf,q2'.o)])++Fr=[(la,ab (af (d::ds) τ) el)]++((ta,ab (au r) eta)::(aA r T ay er++((lf,q2'.o)::Fr))):=by simp
  rw[←e];exact hD
 refine fA (V:=VV pw (wd w b1 b2) aa (dF (wd w b1 b2)) A R none g d' os) O hD ?_;refine tM B (lv:=6) (fr:=none) 9999 (Ig b1 b2 B d ds cJ τ hlen) [12,12,6,6,2,0,10,1,0,8] 8 (fun o L=>(o.gc,nL (aT 7 L),aR 7 L))
  (fun _ L=>(bR (fV (wd w b1 b2)) (adr L 5),Mf ta la (aj 32 (d::ds)) L,[(adr L 7,cq 0 (cD (bx L 7 1)) []),(adr L 8,ab [] 0),(la,ab (af (d::ds) τ) el)])) ?_
  (fun x Fr=>Ih b1 b2 B d ds cJ τ hlen ta la el x Fr) trivial hA (fun _ z=>nomatch z) Pt fun x1 L1 h1 g1 qI fJ HI hv G1 uh D1=>?_
 ·intro x Fr
  clear kk O;revert b1 b2;exact dI (by kernel_rfl)
 ·obtain⟨M0,hN,hR⟩:=pS hv
  have Ik:Ji b1 b2 B d ds cJ τ hlen ta la el x1 ((ta,ab (au r) eta)::(aA r T ay er++((lf,q2'.o)::Fr)))=adr L1 6:=by rw[HI];rfl
  rw[←take_drop 7 L1,hR] at D1;obtain⟨z,rm⟩:=Rp.norm D1 hN;obtain⟨FR,M1⟩:∃ FR:Ow,FR=rt (Mf ta la (aj 32 (d::ds)) L1) z++[(adr L1 7,cq 0 (cD (bx L1 7 1)) []),(adr L1 8,ab [] 0),(la,ab (af (d::ds) τ) el)]++((ta,ab (au r) eta)::(aA r T ay er++((lf,q2'.o)::Fr))):=⟨_,rfl⟩;rw[←M1] at rm;have j7:=fun x nz=>Ii b1 b2 B d ds cJ τ hlen ta la el x1 ((ta,ab (au r) eta)::(aA r T ay er++((lf,q2'.o)::Fr))) g1.size x nz;rw[Ik] at j7;refine sJ B (lv:=6) (fr:=none) 9999 (ol 0x11b1b1d []) [0] 0 (rs:=[]) (fun o L=>(o.code,o.c8,L))
   (fun _ L=>(bO (wd w b1 b2) (adr L 0) (adr L1 6),.bL (bR (l7 (wd w b1 b2)) (adr L1 6)),[(adr L 0,dy g1.size (bx L 0 1) (bx L 0 2))])) j7 uh hA (fun _ z=>nomatch z) (show Rp aa h1 ([]++FR) fJ from rm) fun x2 L2 h2 g2 k7 d7 i4 G2 BD Mg D2=>?_
  obtain⟨M3,uy,wD⟩:=pS i4;rw[wD] at D2;generalize Qy:adr L2 0=ga at M3 D2;generalize Qz:bx L2 0 1=nm at D2;generalize QA:bx L2 0 2=qn at D2;let a0:N2:=fun i=>match i with|5=>adr L1 7|6=>adr L1 5|i=>adr L1 i
  have e1:around A (q2 b1 b2 B d ds cJ τ hlen ta la el x1 ((ta,ab (au r) eta)::(aA r T ay er++((lf,q2'.o)::Fr))) g1.size x2 FR).c8=A.under (bR (l7 (wd w b1 b2)) (adr L1 6)):=by
   show around A (runK pw (wd w b1 b2) aa (dF (wd w b1 b2)) 6 none 9999 (ol 0x11b1b1d []) _ _ _ x2).c8=_;rw[uy];rfl
  have Pu:Ar 6 (A.under (bR (l7 (wd w b1 b2)) (adr L1 6))):=by
   rw[←e1];exact hA.around BD Mg
  have Il:(A.under (bR (l7 (wd w b1 b2)) (adr L1 6))).frames=some (kI (wd w b1 b2) (adr L1 6)::F):=by
   show pushEnvs (bR (l7 (wd w b1 b2)) (adr L1 6)).envs A.frames=_;rw[AE b1 b2 B,hf,pushEnvs_eq];rfl
  have hX:(aj 32 (d::ds)).length<2^60:=by
   have q:=fi 32 (d::ds);have:(2:Nat)^60=1152921504606846976:=by decide
   omega
  have hS:zM (wd w b1 b2) aa (aj 32 (d::ds)) a0 ⟨0,true,0,cD (bx L1 7 1),[]⟩ (k6 []) ([]:LN).length (.fresh (bR (fV (wd w b1 b2)) (a0 6)))
    (rt (gS a0 (aj 32 (d::ds)) 0 true++[(a0 6,ah (fE (a0 0)))]) z++[(a0 5,cq 0 (cD (bx L1 7 1)) [])]):=
   .fresh (σ:=⟨0,true,0,cD (bx L1 7 1),[]⟩) (by rw[wO];rfl) rfl rfl
  have JZ:g2[g1.size]?=some (.fresh (bR (fV (wd w b1 b2)) (a0 6))):=by
   refine G2.1 _ _ ?_;rw[Array.getElem?_push_size];exact congrArg (fun c=>some (GenState.fresh c)) M0
  rw[M3];refine(?_:codeAny (model pw (wd w b1 b2)) (around A (q2 b1 b2 B d ds cJ τ hlen ta la el x1 ((ta,ab (au r) eta)::(aA r T ay er++((lf,q2'.o)::Fr))) g1.size x2 FR).c8) (bO (wd w b1 b2) ga (adr L1 6)) _ _);rw[e1];refine uc (q2:=q2') (d':=d') (os:=os) b1 b2 B hX a0 (adr L1 6) ga g1.size nm qn ta la (adr L1 8) eta r ay er (xS b1 b2 B (adr L1 6) hF) Pu Il ((la,ab (af (d::ds) τ) el)::Fr) out [] (d::ds) [] hw ⟨0,true,0,cD (bx L1 7 1),[]⟩ ⟨.more rfl,fun _=>0,rfl⟩ [] (by simpa using fM) (fun _=>0) 0 none (fun _=>z 6) _ _ hS h2 g2 k7 d7 JZ (D2.perm ?_) ?_
  ·rw[M1]
   exact xR [(ga,dy g1.size nm qn),(adr L1 0,bg (z 0) (aX 880 (adr L1 1))),(adr L1 1,bg (z 1) (ak (cM (adr L1 2) (adr L1 7) (adr L1 4) (lT true) (sV [])))),(adr L1 2,bg (z 2) (aX 745 (adr L1 3))),(adr L1 3,bg (z 3) (ak (b5 (aj 32 (d::ds)) 0))),(adr L1 4,bg (z 4) (bK 0 [])),(adr L1 5,bg (z 5) (ah (fE (adr L1 0)))),(adr L1 6,bg (z 6) (ah (ez ta la (adr L1 0) (adr L1 8) none))),
    (adr L1 7,cq 0 (cD (bx L1 7 1)) []),(adr L1 8,ab [] 0),(la,ab (af (d::ds) τ) el),(ta,ab (au r) eta),bo r T ay er 0,bo r T ay er 1,bo r T ay er 2,bo r T ay er 3,bo r T ay er 4,(lf,q2'.o)]
    [0,1,2,3,4,5,6,8,7,9,11,12,13,14,15,16,17,10] (show(List.range 18).isPerm [0,1,2,3,4,5,6,8,7,9,11,12,13,14,15,16,17,10]=true by decide) Fr
  ·intro bG E5 Hi x' h3 g3 i5 d8 GB zT D3
   have ic:=fun x nz=>Ij b1 b2 B d ds cJ τ hlen ta la el x1 ((ta,ab (au r) eta)::(aA r T ay er++((lf,q2'.o)::Fr))) g1.size x2 FR (a0 0) (adr L1 8) Hi x' x nz;unfold q3 at ic;rw[Ik] at ic;rw[a5] at D3;refine l5 B (lv:=6) (fr:=none) 9999 [.o 0] [] 1 (fun r L=>(nU true r,L)) (fun _ _=>(.ok (.ret (.ref (adr L1 8))),[])) ic BD hA (fun _ z=>nomatch z) D3 fun x4 r' L4 h4 g4 Mh Im Pw G4 D4=>?_;obtain⟨Px,Py⟩:=yA Pw;subst Py;have Mi:r'=.ok (.ret (.ref (adr L1 8))):=Px;subst Mi;refine kk _ _ h4 g4 Mh Im ⟨adr L1 8,bG,E5,rfl,rfl⟩ ?_ (D4.perm ?_)
   ·refine⟨fun i x hi=>?_,fun hb=>?_⟩
    ·have i1:=G1.1 i x hi
     have bq:i≠g1.size:=Nat.ne_of_lt (Array.getElem?_eq_some_iff.mp i1).1;have i2:(g1.push (.fresh (bR (fV (wd w b1 b2)) (a0 6))))[i]?=some x:=by
      rw[Array.getElem?_push,if_neg bq];exact i1
     have Mj:=congrArg (fun c=>g1.push (GenState.fresh c)) M0;exact G4.1 i x (GB.1 i x bq (G2.1 i x (by rw[Mj];exact i2)))
    ·exact G4.2 (GB.2 (G2.2 ((G1.2 hb).push rfl)))
   ·exact xR [(adr L1 8,ab (ag ([]++out.map P) bG) E5),(ta,ab (au r) eta),bo r T ay er 0,bo r T ay er 1,bo r T ay er 2,bo r T ay er 3,bo r T ay er 4,(lf,q2'.o),(la,ab (af (d::ds) τ) el)]
     [0,8,1,2,3,4,5,6,7] (show(List.range 9).isPerm [0,8,1,2,3,4,5,6,7]=true by decide) Fr
end
def xU (w0:WW)(ta d le e i:Nat)(t0:Tok)(lv vs:LV)(mv:ON)(r0 wa nw:Nat)(ms:LV)(a:N2)(xt:Nat→Tk):Ow:=rt [(a 0,ah (aB ta (a 4) (a 2) (some (r0,some (wa,some nw)))))] xt++[(a 1,ai (cb mv)),(a 2,ab vs e),(a 3,aq (a 4) i),(a 4,ab lv le)]
def mR (b1 b2:Bool){w:WW}{aa:Heap}(B:BB w aa b1 b2)(w0:WW)(ta d le e i:Nat)(t0:Tok)(lv vs:LV)(mv:ON)(r0 wa nw:Nat)(ms:LV)(a:N2)(hx:lv[i]?=some (.int d t0)) (ha:∀ t,∀ y∈ms,alike y (aZ t (.int d 0))=true) (hv:∀ t,ms.any (fun y=>eqv y (aZ t (.int d 0)))=true) (xt:Nat→Tk) (x:SV×Nat×Nat) (Fr:Ow):Out:=runK pw (wd w b1 b2) aa (dF (wd w b1 b2)) 3 none 9999 (ol 0x4b4 (.u [3,3] (bQ lv i (.int d t0) hx)::(ol 0x333355b5b1d []))) (.bL (cx (wt w0) (a 3) (a 0) (a 1))) (startT (dF (wd w b1 b2)) (cx (wt w0) (a 3) (a 0) (a 1))) (xU w0 ta d le e i t0 lv vs mv r0 wa nw ms a xt++Fr) x
def DS (w0:WW)(ta d le e i:Nat)(t0:Tok)(lv vs:LV)(mv:ON)(r0 wa nw:Nat)(ms:LV)(a bc:N2):Ow:=[((bc 0),ak []),((a 0),ah (aB ta (a 4) (a 2) (some (d,some (wa,some nw)))))]
def AF (w0:WW)(ta d le e i:Nat)(t0:Tok)(lv vs:LV)(mv:ON)(r0 wa nw:Nat)(ms:LV)(a bc:N2):Ow:=[((bc 2),aq (a 2) 0),((bc 3),ab [] 0),((a 1),ai (cb mv)),((a 2),ab vs e),((a 3),aq (a 4) (i+1)),((a 4),ab lv le)]
def DT (w0:WW)(ta d le e i:Nat)(t0:Tok)(lv vs:LV)(mv:ON)(r0 wa nw:Nat)(ms:LV)(a bc:N2):Code:=atC (kJ (wt w0)) (bc 2) (bc 3) (bc 0) (a 0) []
section
variable (b1 b2:Bool){w:WW}{aa:Heap}(B:BB w aa b1 b2)
include B
def pK (w0:WW)(ta d le e i:Nat)(t0:Tok)(lv vs:LV)(mv:ON)(r0 wa nw:Nat)(ms:LV)(a:N2)(hx:lv[i]?=some (.int d t0)) (ha:∀ t,∀ y∈ms,alike y (aZ t (.int d 0))=true) (hv:∀ t,ms.any (fun y=>eqv y (aZ t (.int d 0)))=true) (xt:Nat→Tk) (x:SV×Nat×Nat) (Fr:Ow):N2:=adr ((mR b1 b2 B w0 ta d le e i t0 lv vs mv r0 wa nw ms a hx ha hv xt x Fr).get [0,4,1,0,2,2,0,0])
theorem DU (w0:WW)(ta d le e i:Nat)(t0:Tok)(lv vs:LV)(mv:ON)(r0 wa nw:Nat)(ms:LV)(a:N2)(hx:lv[i]?=some (.int d t0)) (ha:∀ t,∀ y∈ms,alike y (aZ t (.int d 0))=true) (hv:∀ t,ms.any (fun y=>eqv y (aZ t (.int d 0)))=true) (xt:Nat→Tk) (x:SV×Nat×Nat) (Fr:Ow):(fun o:Out=>(o.kind,ij o.tr,o.rest [0,4,1,0,2,2,0,0] 0)=(2,ik o.tr,Fr)) (mR b1 b2 B w0 ta d le e i t0 lv vs mv r0 wa nw ms a hx ha hv xt x Fr):=by
 revert b1 b2;exact dI (by kernel_rfl)
theorem DV (w0:WW)(ta d le e i:Nat)(t0:Tok)(lv vs:LV)(mv:ON)(r0 wa nw:Nat)(ms:LV)(a:N2)(hx:lv[i]?=some (.int d t0)) (ha:∀ t,∀ y∈ms,alike y (aZ t (.int d 0))=true) (hv:∀ t,ms.any (fun y=>eqv y (aZ t (.int d 0)))=true) (xt:Nat→Tk) (x:SV×Nat×Nat) (Fr:Ow):(fun(o:Out) (bz:N2)=>(o.code,nL (aT 2 (o.get [0,4,1,0,2,2,0,0])),aR 2 (o.get [0,4,1,0,2,2,0,0]))=(DT w0 ta d le e i t0 lv vs mv r0 wa nw ms a bz,DS w0 ta d le e i t0 lv vs mv r0 wa nw ms a bz,AF w0 ta d le e i t0 lv vs mv r0 wa nw ms a bz)) (mR b1 b2 B w0 ta d le e i t0 lv vs mv r0 wa nw ms a hx ha hv xt x Fr) (pK b1 b2 B w0 ta d le e i t0 lv vs mv r0 wa nw ms a hx ha hv xt x Fr):=by
 revert b1 b2;exact dI (by kernel_rfl)
def xV (w0:WW)(ta d le e i:Nat)(t0:Tok)(lv vs:LV)(mv:ON)(r0 wa nw:Nat)(ms:LV)(z e2:Nat)(a b1:N2)(y:Nat→Tk):Ow:=rt [((b1 0),ak [(S [119,97,121],.ref z)]),((a 0),ah (aB ta (a 4) (a 2) (some (d,some (wa,some nw)))))] y++[((b1 3),ab ms e2),((a 1),ai (cb mv)),((a 2),ab vs e),((a 3),aq (a 4) (i+1)),((a 4),ab lv le)]
def DW (w0:WW)(ta d le e i:Nat)(t0:Tok)(lv vs:LV)(mv:ON)(r0 wa nw:Nat)(ms:LV)(a:N2)(hx:lv[i]?=some (.int d t0)) (ha:∀ t,∀ y∈ms,alike y (aZ t (.int d 0))=true) (hv:∀ t,ms.any (fun y=>eqv y (aZ t (.int d 0)))=true) (xt:Nat→Tk) (x1:SV×Nat×Nat) (bI:Ow) (z e2:Nat) (y1:Nat→Tk) (x:SV×Nat×Nat) (Fr:Ow):Out:=runK pw (wd w b1 b2) aa (dF (wd w b1 b2)) 3 none 9999 (ol 0x11133 (.u [2] (jO ms (.int d 0) true ha hv)::(ol 0xd []))) (mR b1 b2 B w0 ta d le e i t0 lv vs mv r0 wa nw ms a hx ha hv xt x1 bI).c8 ((mR b1 b2 B w0 ta d le e i t0 lv vs mv r0 wa nw ms a hx ha hv xt x1 bI).k (.ok .next)) (xV w0 ta d le e i t0 lv vs mv r0 wa nw ms z e2 a (pK b1 b2 B w0 ta d le e i t0 lv vs mv r0 wa nw ms a hx ha hv xt x1 bI) y1++Fr) x
def xW (w0:WW)(ta d le e i:Nat)(t0:Tok)(lv vs:LV)(mv:ON)(r0 wa nw:Nat)(ms:LV)(z e2:Nat)(a b1 bc:N2):Ow:=[((a 0),ah (aB ta (a 4) (a 2) (some (d,some (wa,some nw)))))]
def tj (w0:WW)(ta d le e i:Nat)(t0:Tok)(lv vs:LV)(mv:ON)(r0 wa nw:Nat)(ms:LV)(z e2:Nat)(a b1 bc:N2):Ow:=[((a 1),ai (cb mv)),((a 2),ab vs e),((a 3),aq (a 4) (i+1)),((a 4),ab lv le)]
def xX (w0:WW)(ta d le e i:Nat)(t0:Tok)(lv vs:LV)(mv:ON)(r0 wa nw:Nat)(ms:LV)(z e2:Nat)(a b1 bc:N2):Code:=cx (wt w0) (a 3) (a 0) (a 1)
theorem DX (w0:WW)(ta d le e i:Nat)(t0:Tok)(lv vs:LV)(mv:ON)(r0 wa nw:Nat)(ms:LV)(a:N2)(hx:lv[i]?=some (.int d t0)) (ha:∀ t,∀ y∈ms,alike y (aZ t (.int d 0))=true) (hv:∀ t,ms.any (fun y=>eqv y (aZ t (.int d 0)))=true) (xt:Nat→Tk) (x1:SV×Nat×Nat) (bI:Ow) (z e2:Nat) (y1:Nat→Tk) (x:SV×Nat×Nat) (Fr:Ow):(fun(o:Out) (bz:N2)=>(o.kind,ij o.tr,o.rest [2,2,2,2,2] 2,o.code,nL (aT 1 (o.get [2,2,2,2,2])),aR 1 (o.get [2,2,2,2,2]))=
  (5,ik o.tr,Fr,xX w0 ta d le e i t0 lv vs mv r0 wa nw ms z e2 a bz (bJ (fun _ _=>0) x (o.get [2,2,2,2,2])),xW w0 ta d le e i t0 lv vs mv r0 wa nw ms z e2 a bz (bJ (fun _ _=>0) x (o.get [2,2,2,2,2])),tj w0 ta d le e i t0 lv vs mv r0 wa nw ms z e2 a bz (bJ (fun _ _=>0) x (o.get [2,2,2,2,2])))) (DW b1 b2 B w0 ta d le e i t0 lv vs mv r0 wa nw ms a hx ha hv xt x1 bI z e2 y1 x Fr) (pK b1 b2 B w0 ta d le e i t0 lv vs mv r0 wa nw ms a hx ha hv xt x1 bI):=by
 revert b1 b2;exact dI (by kernel_rfl)
def xY (w0:WW)(ta d le e i:Nat)(t0:Tok)(lv vs:LV)(mv:ON)(r0 wa nw:Nat)(ms:LV)(a:N2)(xt:Nat→Tk):Ow:=rt [(a 0,ah (aB ta (a 4) (a 2) (some (r0,some (wa,some nw)))))] xt++[(a 1,ai (cb mv)),(a 2,ab vs e),(a 3,aq (a 4) i),(a 4,ab lv le)]
def mS (b1 b2:Bool){w:WW}{aa:Heap}(B:BB w aa b1 b2)(w0:WW)(ta d le e i:Nat)(t0:Tok)(lv vs:LV)(mv:ON)(r0 wa nw:Nat)(ms:LV)(a:N2)(hx:lv[i]?=some (.int d t0)) (ha:∀ t,∀ y∈ms,alike y (aZ t (.int d 0))=true) (hv:∀ t,ms.any (fun y=>eqv y (aZ t (.int d 0)))=false) (hb:vs.length≤1000) (xt:Nat→Tk) (x:SV×Nat×Nat) (Fr:Ow):Out:=runK pw (wd w b1 b2) aa (dF (wd w b1 b2)) 3 none 9999 (ol 0x4b4 (.u [3,3] (bQ lv i (.int d t0) hx)::(ol 0x333355b5b1d []))) (.bL (cx (wt w0) (a 3) (a 0) (a 1))) (startT (dF (wd w b1 b2)) (cx (wt w0) (a 3) (a 0) (a 1))) (xY w0 ta d le e i t0 lv vs mv r0 wa nw ms a xt++Fr) x
def DY (w0:WW)(ta d le e i:Nat)(t0:Tok)(lv vs:LV)(mv:ON)(r0 wa nw:Nat)(ms:LV)(a bc:N2):Ow:=[((bc 0),ak []),((a 0),ah (aB ta (a 4) (a 2) (some (d,some (wa,some nw)))))]
def AG (w0:WW)(ta d le e i:Nat)(t0:Tok)(lv vs:LV)(mv:ON)(r0 wa nw:Nat)(ms:LV)(a bc:N2):Ow:=[((bc 2),aq (a 2) 0),((bc 3),ab [] 0),((a 1),ai (cb mv)),((a 2),ab vs e),((a 3),aq (a 4) (i+1)),((a 4),ab lv le)]
def DZ (w0:WW)(ta d le e i:Nat)(t0:Tok)(lv vs:LV)(mv:ON)(r0 wa nw:Nat)(ms:LV)(a bc:N2):Code:=atC (kJ (wt w0)) (bc 2) (bc 3) (bc 0) (a 0) []
def gu (w0:WW)(ta d le e i:Nat)(t0:Tok)(lv vs:LV)(mv:ON)(r0 wa nw:Nat)(ms:LV)(a:N2)(hx:lv[i]?=some (.int d t0)) (ha:∀ t,∀ y∈ms,alike y (aZ t (.int d 0))=true) (hv:∀ t,ms.any (fun y=>eqv y (aZ t (.int d 0)))=false) (hb:vs.length≤1000) (xt:Nat→Tk) (x:SV×Nat×Nat) (Fr:Ow):N2:=adr ((mS b1 b2 B w0 ta d le e i t0 lv vs mv r0 wa nw ms a hx ha hv hb xt x Fr).get [0,4,1,0,2,2,0,0])
theorem Ea (w0:WW)(ta d le e i:Nat)(t0:Tok)(lv vs:LV)(mv:ON)(r0 wa nw:Nat)(ms:LV)(a:N2)(hx:lv[i]?=some (.int d t0)) (ha:∀ t,∀ y∈ms,alike y (aZ t (.int d 0))=true) (hv:∀ t,ms.any (fun y=>eqv y (aZ t (.int d 0)))=false) (hb:vs.length≤1000) (xt:Nat→Tk) (x:SV×Nat×Nat) (Fr:Ow):(fun o:Out=>(o.kind,ij o.tr,o.rest [0,4,1,0,2,2,0,0] 0)=(2,ik o.tr,Fr)) (mS b1 b2 B w0 ta d le e i t0 lv vs mv r0 wa nw ms a hx ha hv hb xt x Fr):=by
 revert b1 b2;exact dI (by kernel_rfl)
theorem Eb (w0:WW)(ta d le e i:Nat)(t0:Tok)(lv vs:LV)(mv:ON)(r0 wa nw:Nat)(ms:LV)(a:N2)(hx:lv[i]?=some (.int d t0)) (ha:∀ t,∀ y∈ms,alike y (aZ t (.int d 0))=true) (hv:∀ t,ms.any (fun y=>eqv y (aZ t (.int d 0)))=false) (hb:vs.length≤1000) (xt:Nat→Tk) (x:SV×Nat×Nat) (Fr:Ow):(fun(o:Out) (bz:N2)=>(o.code,nL (aT 2 (o.get [0,4,1,0,2,2,0,0])),aR 2 (o.get [0,4,1,0,2,2,0,0]))=(DZ w0 ta d le e i t0 lv vs mv r0 wa nw ms a bz,DY w0 ta d le e i t0 lv vs mv r0 wa nw ms a bz,AG w0 ta d le e i t0 lv vs mv r0 wa nw ms a bz)) (mS b1 b2 B w0 ta d le e i t0 lv vs mv r0 wa nw ms a hx ha hv hb xt x Fr) (gu b1 b2 B w0 ta d le e i t0 lv vs mv r0 wa nw ms a hx ha hv hb xt x Fr):=by
 revert b1 b2;exact dI (by kernel_rfl)
def xZ (w0:WW)(ta d le e i:Nat)(t0:Tok)(lv vs:LV)(mv:ON)(r0 wa nw:Nat)(ms:LV)(z e2:Nat)(a b1:N2)(y:Nat→Tk):Ow:=rt [((b1 0),ak [(S [119,97,121],.ref z)]),((a 0),ah (aB ta (a 4) (a 2) (some (d,some (wa,some nw)))))] y++[((b1 3),ab ms e2),((a 1),ai (cb mv)),((a 2),ab vs e),((a 3),aq (a 4) (i+1)),((a 4),ab lv le)]
def mT (w0:WW)(ta d le e i:Nat)(t0:Tok)(lv vs:LV)(mv:ON)(r0 wa nw:Nat)(ms:LV)(a:N2)(hx:lv[i]?=some (.int d t0)) (ha:∀ t,∀ y∈ms,alike y (aZ t (.int d 0))=true) (hv:∀ t,ms.any (fun y=>eqv y (aZ t (.int d 0)))=false) (hb:vs.length≤1000) (xt:Nat→Tk) (x1:SV×Nat×Nat) (bI:Ow) (z e2:Nat) (y1:Nat→Tk) (x:SV×Nat×Nat) (Fr:Ow):Out:=runK pw (wd w b1 b2) aa (dF (wd w b1 b2)) 3 none 9999 (ol 0x11133 (.u [2] (jO ms (.int d 0) false ha hv)::(ol 0x344466664b6 (.u [5] (bD vs hb)::(ol 0xd []))))) (mS b1 b2 B w0 ta d le e i t0 lv vs mv r0 wa nw ms a hx ha hv hb xt x1 bI).c8 ((mS b1 b2 B w0 ta d le e i t0 lv vs mv r0 wa nw ms a hx ha hv hb xt x1 bI).k (.ok .next)) (xZ w0 ta d le e i t0 lv vs mv r0 wa nw ms z e2 a (gu b1 b2 B w0 ta d le e i t0 lv vs mv r0 wa nw ms a hx ha hv hb xt x1 bI) y1++Fr) x
def Ec (w0:WW)(ta d le e i:Nat)(t0:Tok)(lv vs:LV)(mv:ON)(r0 wa nw:Nat)(ms:LV)(z e2:Nat)(a b1 bc:N2):Ow:=[((a 0),ah (aB ta (a 4) (a 2) (some (d,some ((bc 1),some nw))))),((bc 1),ab [.int d 0] 0)]
def AH (w0:WW)(ta d le e i:Nat)(t0:Tok)(lv vs:LV)(mv:ON)(r0 wa nw:Nat)(ms:LV)(z e2:Nat)(a b1 bc:N2):Ow:=[((a 1),ai (cb mv)),((a 2),ab (vs++[.ref (bc 1)]) (e+1)),((a 3),aq (a 4) (i+1)),((a 4),ab lv le)]
def Ed (w0:WW)(ta d le e i:Nat)(t0:Tok)(lv vs:LV)(mv:ON)(r0 wa nw:Nat)(ms:LV)(z e2:Nat)(a b1 bc:N2):Code:=qi (wt w0) (a 0) (a 1)
def pL (w0:WW)(ta d le e i:Nat)(t0:Tok)(lv vs:LV)(mv:ON)(r0 wa nw:Nat)(ms:LV)(a:N2)(hx:lv[i]?=some (.int d t0)) (ha:∀ t,∀ y∈ms,alike y (aZ t (.int d 0))=true) (hv:∀ t,ms.any (fun y=>eqv y (aZ t (.int d 0)))=false) (hb:vs.length≤1000) (xt:Nat→Tk) (x1:SV×Nat×Nat) (bI:Ow) (z e2:Nat) (y1:Nat→Tk) (x:SV×Nat×Nat) (Fr:Ow):N2:=adr ((mT b1 b2 B w0 ta d le e i t0 lv vs mv r0 wa nw ms a hx ha hv hb xt x1 bI z e2 y1 x Fr).get [4,1,3,0,2,2])
theorem Ee (w0:WW)(ta d le e i:Nat)(t0:Tok)(lv vs:LV)(mv:ON)(r0 wa nw:Nat)(ms:LV)(a:N2)(hx:lv[i]?=some (.int d t0)) (ha:∀ t,∀ y∈ms,alike y (aZ t (.int d 0))=true) (hv:∀ t,ms.any (fun y=>eqv y (aZ t (.int d 0)))=false) (hb:vs.length≤1000) (xt:Nat→Tk) (x1:SV×Nat×Nat) (bI:Ow) (z e2:Nat) (y1:Nat→Tk) (x:SV×Nat×Nat) (Fr:Ow):(fun o:Out=>(o.kind,ij o.tr,o.rest [4,1,3,0,2,2] 2)=(2,ik o.tr,Fr)) (mT b1 b2 B w0 ta d le e i t0 lv vs mv r0 wa nw ms a hx ha hv hb xt x1 bI z e2 y1 x Fr):=by
 revert b1 b2;exact dI (by kernel_rfl)
theorem Ef (w0:WW)(ta d le e i:Nat)(t0:Tok)(lv vs:LV)(mv:ON)(r0 wa nw:Nat)(ms:LV)(a:N2)(hx:lv[i]?=some (.int d t0)) (ha:∀ t,∀ y∈ms,alike y (aZ t (.int d 0))=true) (hv:∀ t,ms.any (fun y=>eqv y (aZ t (.int d 0)))=false) (hb:vs.length≤1000) (xt:Nat→Tk) (x1:SV×Nat×Nat) (bI:Ow) (z e2:Nat) (y1:Nat→Tk) (x:SV×Nat×Nat) (Fr:Ow):(fun(o:Out) (bz:N2)=>(o.code,nL (aT 2 (o.get [4,1,3,0,2,2])),aR 2 (o.get [4,1,3,0,2,2]))=(Ed w0 ta d le e i t0 lv vs mv r0 wa nw ms z e2 a (gu b1 b2 B w0 ta d le e i t0 lv vs mv r0 wa nw ms a hx ha hv hb xt x1 bI) bz,Ec w0 ta d le e i t0 lv vs mv r0 wa nw ms z e2 a (gu b1 b2 B w0 ta d le e i t0 lv vs mv r0 wa nw ms a hx ha hv hb xt x1 bI) bz,AH w0 ta d le e i t0 lv vs mv r0 wa nw ms z e2 a (gu b1 b2 B w0 ta d le e i t0 lv vs mv r0 wa nw ms a hx ha hv hb xt x1 bI) bz)) (mT b1 b2 B w0 ta d le e i t0 lv vs mv r0 wa nw ms a hx ha hv hb xt x1 bI z e2 y1 x Fr) (pL b1 b2 B w0 ta d le e i t0 lv vs mv r0 wa nw ms a hx ha hv hb xt x1 bI z e2 y1 x Fr):=by
 revert b1 b2;exact dI (by kernel_rfl)
def ya (w0:WW)(ta d le e i:Nat)(t0:Tok)(lv vs:LV)(mv:ON)(r0 wa nw:Nat)(ms:LV)(z e2:Nat)(cN cX:Nat)(cY:ON)(dK:LV)(e3:Nat)(a b1 b2:N2)(y:Nat→Tk):Ow:=rt [((a 0),ah (aB ta (a 4) (a 2) (some (d,some (cN,some cX)))))] y++[((a 1),ai (cb cY)),((a 2),ab dK e3),((a 3),aq (a 4) (i+1)),((a 4),ab lv le)]
def Eg (w0:WW)(ta d le e i:Nat)(t0:Tok)(lv vs:LV)(mv:ON)(r0 wa nw:Nat)(ms:LV)(a:N2)(hx:lv[i]?=some (.int d t0)) (ha:∀ t,∀ y∈ms,alike y (aZ t (.int d 0))=true) (hv:∀ t,ms.any (fun y=>eqv y (aZ t (.int d 0)))=false) (hb:vs.length≤1000) (xt:Nat→Tk) (x1:SV×Nat×Nat) (bI:Ow) (z e2:Nat) (y1:Nat→Tk) (x2:SV×Nat×Nat) (k9:Ow) (cN cX:Nat) (cY:ON) (dK:LV) (e3:Nat) (y2:Nat→Tk) (x:SV×Nat×Nat) (Fr:Ow):Out:=runK pw (wd w b1 b2) aa (dF (wd w b1 b2)) 3 none 9999 [.x] (mT b1 b2 B w0 ta d le e i t0 lv vs mv r0 wa nw ms a hx ha hv hb xt x1 bI z e2 y1 x2 k9).c8 ((mT b1 b2 B w0 ta d le e i t0 lv vs mv r0 wa nw ms a hx ha hv hb xt x1 bI z e2 y1 x2 k9).k (.ok .next)) (ya w0 ta d le e i t0 lv vs mv r0 wa nw ms z e2 cN cX cY dK e3 a (gu b1 b2 B w0 ta d le e i t0 lv vs mv r0 wa nw ms a hx ha hv hb xt x1 bI) (pL b1 b2 B w0 ta d le e i t0 lv vs mv r0 wa nw ms a hx ha hv hb xt x1 bI z e2 y1 x2 k9) y2++Fr) x
def yb (w0:WW)(ta d le e i:Nat)(t0:Tok)(lv vs:LV)(mv:ON)(r0 wa nw:Nat)(ms:LV)(z e2:Nat)(cN cX:Nat)(cY:ON)(dK:LV)(e3:Nat)(a b1 b2 bc:N2):Ow:=[((a 0),ah (aB ta (a 4) (a 2) (some (d,some (cN,some cX)))))]
def tm (w0:WW)(ta d le e i:Nat)(t0:Tok)(lv vs:LV)(mv:ON)(r0 wa nw:Nat)(ms:LV)(z e2:Nat)(cN cX:Nat)(cY:ON)(dK:LV)(e3:Nat)(a b1 b2 bc:N2):Ow:=[((a 1),ai (cb cY)),((a 2),ab dK e3),((a 3),aq (a 4) (i+1)),((a 4),ab lv le)]
def yc (w0:WW)(ta d le e i:Nat)(t0:Tok)(lv vs:LV)(mv:ON)(r0 wa nw:Nat)(ms:LV)(z e2:Nat)(cN cX:Nat)(cY:ON)(dK:LV)(e3:Nat)(a b1 b2 bc:N2):Code:=cx (wt w0) (a 3) (a 0) (a 1)
theorem Eh (w0:WW)(ta d le e i:Nat)(t0:Tok)(lv vs:LV)(mv:ON)(r0 wa nw:Nat)(ms:LV)(a:N2)(hx:lv[i]?=some (.int d t0)) (ha:∀ t,∀ y∈ms,alike y (aZ t (.int d 0))=true) (hv:∀ t,ms.any (fun y=>eqv y (aZ t (.int d 0)))=false) (hb:vs.length≤1000) (xt:Nat→Tk) (x1:SV×Nat×Nat) (bI:Ow) (z e2:Nat) (y1:Nat→Tk) (x2:SV×Nat×Nat) (k9:Ow) (cN cX:Nat) (cY:ON) (dK:LV) (e3:Nat) (y2:Nat→Tk) (x:SV×Nat×Nat) (Fr:Ow):(fun(o:Out) (bz:N2)=>(o.kind,ij o.tr,o.rest [0,0,0,0,0] 0,o.code,nL (aT 1 (o.get [0,0,0,0,0])),aR 1 (o.get [0,0,0,0,0]))=
  (5,ik o.tr,Fr,yc w0 ta d le e i t0 lv vs mv r0 wa nw ms z e2 cN cX cY dK e3 a (gu b1 b2 B w0 ta d le e i t0 lv vs mv r0 wa nw ms a hx ha hv hb xt x1 bI) bz (bJ (fun _ _=>0) x (o.get [0,0,0,0,0])),yb w0 ta d le e i t0 lv vs mv r0 wa nw ms z e2 cN cX cY dK e3 a (gu b1 b2 B w0 ta d le e i t0 lv vs mv r0 wa nw ms a hx ha hv hb xt x1 bI) bz (bJ (fun _ _=>0) x (o.get [0,0,0,0,0])),tm w0 ta d le e i t0 lv vs mv r0 wa nw ms z e2 cN cX cY dK e3 a (gu b1 b2 B w0 ta d le e i t0 lv vs mv r0 wa nw ms a hx ha hv hb xt x1 bI) bz (bJ (fun _ _=>0) x (o.get [0,0,0,0,0])))) (Eg b1 b2 B w0 ta d le e i t0 lv vs mv r0 wa nw ms a hx ha hv hb xt x1 bI z e2 y1 x2 k9 cN cX cY dK e3 y2 x Fr) (pL b1 b2 B w0 ta d le e i t0 lv vs mv r0 wa nw ms a hx ha hv hb xt x1 bI z e2 y1 x2 k9):=by
 revert b1 b2;exact dI (by kernel_rfl)
def yd (w0:WW)(ta d le e i:Nat)(t0:Tok)(lv vs:LV)(mv:ON)(a:N2)(xt:Nat→Tk):Ow:=rt [(a 0,ah (aB ta (a 4) (a 2) (none)))] xt++[(a 1,ai (cb mv)),(a 2,ab vs e),(a 3,aq (a 4) i),(a 4,ab lv le)]
def mU (b1 b2:Bool){w:WW}{aa:Heap}(B:BB w aa b1 b2)(w0:WW)(ta d le e i:Nat)(t0:Tok)(lv vs:LV)(mv:ON)(a:N2)(hx:lv[i]?=some (.int d t0)) (hb:vs.length≤1000) (xt:Nat→Tk) (x:SV×Nat×Nat) (Fr:Ow):Out:=runK pw (wd w b1 b2) aa (dF (wd w b1 b2)) 3 none 9999 (ol 0x4b4 (.u [3,3] (bQ lv i (.int d t0) hx)::(ol 0x333355b5b1d []))) (.bL (cx (wt w0) (a 3) (a 0) (a 1))) (startT (dF (wd w b1 b2)) (cx (wt w0) (a 3) (a 0) (a 1))) (yd w0 ta d le e i t0 lv vs mv a xt++Fr) x
def Ei (w0:WW)(ta d le e i:Nat)(t0:Tok)(lv vs:LV)(mv:ON)(a bc:N2):Ow:=[((bc 0),ak []),((a 0),ah (aB ta (a 4) (a 2) (some (d,none))))]
def AI (w0:WW)(ta d le e i:Nat)(t0:Tok)(lv vs:LV)(mv:ON)(a bc:N2):Ow:=[((bc 2),aq (a 2) 0),((bc 3),ab [] 0),((a 1),ai (cb mv)),((a 2),ab vs e),((a 3),aq (a 4) (i+1)),((a 4),ab lv le)]
def Ej (w0:WW)(ta d le e i:Nat)(t0:Tok)(lv vs:LV)(mv:ON)(a bc:N2):Code:=atC (kJ (wt w0)) (bc 2) (bc 3) (bc 0) (a 0) []
def gv (w0:WW)(ta d le e i:Nat)(t0:Tok)(lv vs:LV)(mv:ON)(a:N2)(hx:lv[i]?=some (.int d t0)) (hb:vs.length≤1000) (xt:Nat→Tk) (x:SV×Nat×Nat) (Fr:Ow):N2:=adr ((mU b1 b2 B w0 ta d le e i t0 lv vs mv a hx hb xt x Fr).get [0,4,1,0,2,2,0,0])
theorem Ek (w0:WW)(ta d le e i:Nat)(t0:Tok)(lv vs:LV)(mv:ON)(a:N2)(hx:lv[i]?=some (.int d t0)) (hb:vs.length≤1000) (xt:Nat→Tk) (x:SV×Nat×Nat) (Fr:Ow):(fun o:Out=>(o.kind,ij o.tr,o.rest [0,4,1,0,2,2,0,0] 0)=(2,ik o.tr,Fr)) (mU b1 b2 B w0 ta d le e i t0 lv vs mv a hx hb xt x Fr):=by
 revert b1 b2;exact dI (by kernel_rfl)
theorem El (w0:WW)(ta d le e i:Nat)(t0:Tok)(lv vs:LV)(mv:ON)(a:N2)(hx:lv[i]?=some (.int d t0)) (hb:vs.length≤1000) (xt:Nat→Tk) (x:SV×Nat×Nat) (Fr:Ow):(fun(o:Out) (bz:N2)=>(o.code,nL (aT 2 (o.get [0,4,1,0,2,2,0,0])),aR 2 (o.get [0,4,1,0,2,2,0,0]))=(Ej w0 ta d le e i t0 lv vs mv a bz,Ei w0 ta d le e i t0 lv vs mv a bz,AI w0 ta d le e i t0 lv vs mv a bz)) (mU b1 b2 B w0 ta d le e i t0 lv vs mv a hx hb xt x Fr) (gv b1 b2 B w0 ta d le e i t0 lv vs mv a hx hb xt x Fr):=by
 revert b1 b2;exact dI (by kernel_rfl)
def ye (w0:WW)(ta d le e i:Nat)(t0:Tok)(lv vs:LV)(mv:ON)(e2:Nat)(a b1:N2)(y:Nat→Tk):Ow:=rt [((b1 0),ak []),((a 0),ah (aB ta (a 4) (a 2) (some (d,none))))] y++[((b1 3),ab [] e2),((a 1),ai (cb mv)),((a 2),ab vs e),((a 3),aq (a 4) (i+1)),((a 4),ab lv le)]
def mV (w0:WW)(ta d le e i:Nat)(t0:Tok)(lv vs:LV)(mv:ON)(a:N2)(hx:lv[i]?=some (.int d t0)) (hb:vs.length≤1000) (xt:Nat→Tk) (x1:SV×Nat×Nat) (bI:Ow) (e2:Nat) (y1:Nat→Tk) (x:SV×Nat×Nat) (Fr:Ow):Out:=runK pw (wd w b1 b2) aa (dF (wd w b1 b2)) 3 none 9999 (ol 0x133 (.u [2] (jO [] (.int d 0) false (fun _ _ h=>nomatch h) (fun _=>rfl))::(ol 0x344466664b6 (.u [5] (bD vs hb)::(ol 0xd []))))) (mU b1 b2 B w0 ta d le e i t0 lv vs mv a hx hb xt x1 bI).c8 ((mU b1 b2 B w0 ta d le e i t0 lv vs mv a hx hb xt x1 bI).k (.ok .next)) (ye w0 ta d le e i t0 lv vs mv e2 a (gv b1 b2 B w0 ta d le e i t0 lv vs mv a hx hb xt x1 bI) y1++Fr) x
def Em (w0:WW)(ta d le e i:Nat)(t0:Tok)(lv vs:LV)(mv:ON)(e2:Nat)(a b1 bc:N2):Ow:=[((a 0),ah (aB ta (a 4) (a 2) (some (d,some ((bc 1),none))))),((bc 1),ab [.int d 0] 0)]
def AJ (w0:WW)(ta d le e i:Nat)(t0:Tok)(lv vs:LV)(mv:ON)(e2:Nat)(a b1 bc:N2):Ow:=[((a 1),ai (cb mv)),((a 2),ab (vs++[.ref (bc 1)]) (e+1)),((a 3),aq (a 4) (i+1)),((a 4),ab lv le)]
def En (w0:WW)(ta d le e i:Nat)(t0:Tok)(lv vs:LV)(mv:ON)(e2:Nat)(a b1 bc:N2):Code:=qi (wt w0) (a 0) (a 1)
def pM (w0:WW)(ta d le e i:Nat)(t0:Tok)(lv vs:LV)(mv:ON)(a:N2)(hx:lv[i]?=some (.int d t0)) (hb:vs.length≤1000) (xt:Nat→Tk) (x1:SV×Nat×Nat) (bI:Ow) (e2:Nat) (y1:Nat→Tk) (x:SV×Nat×Nat) (Fr:Ow):N2:=adr ((mV b1 b2 B w0 ta d le e i t0 lv vs mv a hx hb xt x1 bI e2 y1 x Fr).get [4,1,3,0,2,2])
theorem Eo (w0:WW)(ta d le e i:Nat)(t0:Tok)(lv vs:LV)(mv:ON)(a:N2)(hx:lv[i]?=some (.int d t0)) (hb:vs.length≤1000) (xt:Nat→Tk) (x1:SV×Nat×Nat) (bI:Ow) (e2:Nat) (y1:Nat→Tk) (x:SV×Nat×Nat) (Fr:Ow):(fun o:Out=>(o.kind,ij o.tr,o.rest [4,1,3,0,2,2] 2)=(2,ik o.tr,Fr)) (mV b1 b2 B w0 ta d le e i t0 lv vs mv a hx hb xt x1 bI e2 y1 x Fr):=by
 revert b1 b2;exact dI (by kernel_rfl)
theorem Ep (w0:WW)(ta d le e i:Nat)(t0:Tok)(lv vs:LV)(mv:ON)(a:N2)(hx:lv[i]?=some (.int d t0)) (hb:vs.length≤1000) (xt:Nat→Tk) (x1:SV×Nat×Nat) (bI:Ow) (e2:Nat) (y1:Nat→Tk) (x:SV×Nat×Nat) (Fr:Ow):(fun(o:Out) (bz:N2)=>(o.code,nL (aT 2 (o.get [4,1,3,0,2,2])),aR 2 (o.get [4,1,3,0,2,2]))=(En w0 ta d le e i t0 lv vs mv e2 a (gv b1 b2 B w0 ta d le e i t0 lv vs mv a hx hb xt x1 bI) bz,Em w0 ta d le e i t0 lv vs mv e2 a (gv b1 b2 B w0 ta d le e i t0 lv vs mv a hx hb xt x1 bI) bz,AJ w0 ta d le e i t0 lv vs mv e2 a (gv b1 b2 B w0 ta d le e i t0 lv vs mv a hx hb xt x1 bI) bz)) (mV b1 b2 B w0 ta d le e i t0 lv vs mv a hx hb xt x1 bI e2 y1 x Fr) (pM b1 b2 B w0 ta d le e i t0 lv vs mv a hx hb xt x1 bI e2 y1 x Fr):=by
 revert b1 b2;exact dI (by kernel_rfl)
def yf (w0:WW)(ta d le e i:Nat)(t0:Tok)(lv vs:LV)(mv:ON)(e2:Nat)(cN cX:Nat)(cY:ON)(dK:LV)(e3:Nat)(a b1 b2:N2)(y:Nat→Tk):Ow:=rt [((a 0),ah (aB ta (a 4) (a 2) (some (d,some (cN,some cX)))))] y++[((a 1),ai (cb cY)),((a 2),ab dK e3),((a 3),aq (a 4) (i+1)),((a 4),ab lv le)]
def Er (w0:WW)(ta d le e i:Nat)(t0:Tok)(lv vs:LV)(mv:ON)(a:N2)(hx:lv[i]?=some (.int d t0)) (hb:vs.length≤1000) (xt:Nat→Tk) (x1:SV×Nat×Nat) (bI:Ow) (e2:Nat) (y1:Nat→Tk) (x2:SV×Nat×Nat) (k9:Ow) (cN cX:Nat) (cY:ON) (dK:LV) (e3:Nat) (y2:Nat→Tk) (x:SV×Nat×Nat) (Fr:Ow):Out:=runK pw (wd w b1 b2) aa (dF (wd w b1 b2)) 3 none 9999 [.x] (mV b1 b2 B w0 ta d le e i t0 lv vs mv a hx hb xt x1 bI e2 y1 x2 k9).c8 ((mV b1 b2 B w0 ta d le e i t0 lv vs mv a hx hb xt x1 bI e2 y1 x2 k9).k (.ok .next)) (yf w0 ta d le e i t0 lv vs mv e2 cN cX cY dK e3 a (gv b1 b2 B w0 ta d le e i t0 lv vs mv a hx hb xt x1 bI) (pM b1 b2 B w0 ta d le e i t0 lv vs mv a hx hb xt x1 bI e2 y1 x2 k9) y2++Fr) x
def yg (w0:WW)(ta d le e i:Nat)(t0:Tok)(lv vs:LV)(mv:ON)(e2:Nat)(cN cX:Nat)(cY:ON)(dK:LV)(e3:Nat)(a b1 b2 bc:N2):Ow:=[((a 0),ah (aB ta (a 4) (a 2) (some (d,some (cN,some cX)))))]
def tn (w0:WW)(ta d le e i:Nat)(t0:Tok)(lv vs:LV)(mv:ON)(e2:Nat)(cN cX:Nat)(cY:ON)(dK:LV)(e3:Nat)(a b1 b2 bc:N2):Ow:=[((a 1),ai (cb cY)),((a 2),ab dK e3),((a 3),aq (a 4) (i+1)),((a 4),ab lv le)]
def yh (w0:WW)(ta d le e i:Nat)(t0:Tok)(lv vs:LV)(mv:ON)(e2:Nat)(cN cX:Nat)(cY:ON)(dK:LV)(e3:Nat)(a b1 b2 bc:N2):Code:=cx (wt w0) (a 3) (a 0) (a 1)
theorem Es (w0:WW)(ta d le e i:Nat)(t0:Tok)(lv vs:LV)(mv:ON)(a:N2)(hx:lv[i]?=some (.int d t0)) (hb:vs.length≤1000) (xt:Nat→Tk) (x1:SV×Nat×Nat) (bI:Ow) (e2:Nat) (y1:Nat→Tk) (x2:SV×Nat×Nat) (k9:Ow) (cN cX:Nat) (cY:ON) (dK:LV) (e3:Nat) (y2:Nat→Tk) (x:SV×Nat×Nat) (Fr:Ow):(fun(o:Out) (bz:N2)=>(o.kind,ij o.tr,o.rest [0,0,0,0,0] 0,o.code,nL (aT 1 (o.get [0,0,0,0,0])),aR 1 (o.get [0,0,0,0,0]))=
  (5,ik o.tr,Fr,yh w0 ta d le e i t0 lv vs mv e2 cN cX cY dK e3 a (gv b1 b2 B w0 ta d le e i t0 lv vs mv a hx hb xt x1 bI) bz (bJ (fun _ _=>0) x (o.get [0,0,0,0,0])),yg w0 ta d le e i t0 lv vs mv e2 cN cX cY dK e3 a (gv b1 b2 B w0 ta d le e i t0 lv vs mv a hx hb xt x1 bI) bz (bJ (fun _ _=>0) x (o.get [0,0,0,0,0])),tn w0 ta d le e i t0 lv vs mv e2 cN cX cY dK e3 a (gv b1 b2 B w0 ta d le e i t0 lv vs mv a hx hb xt x1 bI) bz (bJ (fun _ _=>0) x (o.get [0,0,0,0,0])))) (Er b1 b2 B w0 ta d le e i t0 lv vs mv a hx hb xt x1 bI e2 y1 x2 k9 cN cX cY dK e3 y2 x Fr) (pM b1 b2 B w0 ta d le e i t0 lv vs mv a hx hb xt x1 bI e2 y1 x2 k9):=by
 revert b1 b2;exact dI (by kernel_rfl)
def Ml (w0:WW)(ta le e i:Nat)(lv vs:LV)(mv:ON)(r0 wa nw:Nat)(a:N2):SX Code Result:=sB (cx (wt w0) (a 3) (a 0) (a 1)) [(a 0,ah (aB ta (a 4) (a 2) (some (r0,some (wa,some nw)))))] [(a 1,ai (cb mv)),(a 2,ab vs e),(a 3,aq (a 4) i),(a 4,ab lv le)] (fun b f=> .ok .next) (fun b f=>[(a 1,ai (cb mv)),(a 2,ab vs e),(a 4,ab lv le)])
theorem Pz (w0:WW)(ta le e i:Nat)(lv vs:LV)(mv:ON)(r0 wa nw:Nat)(a:N2)(hx:lv[i]?=none) {frx:OE}:eP w aa b1 b2 2 frx true true (Ml w0 ta le e i lv vs mv r0 wa nw a):=
 tX B aO.none (ol 0x4b4 (.u [3,3] (bA lv i hx)::(ol 0x1b []))) z2 z3 [3,3,3,2] 2 1
theorem AK (w0:WW)(fr ce wl ta la it:Nat)(d:Nat)(t0:Tok)(line:LV)(le i e:Nat)(hx:line[i]?=some (.int d t0)) (r0 wa nw:Nat) (mv:ON) (W:List Way) (bq:∀ p∈W,p.ds≠[]) (hW:W≠[]) (hlen:W.length≤100) (hm:d∈W.map fun p=>az p.ds) (Y:Ow) (xt:Nat→Tk) {P:Result→Ow→Prop}
  (hP:∀ x',gh w aa b1 b2 4 none (cx (wt w0) it fr ce) (rt [(fr,ah (aB ta la wl (some (d,some (wa,some nw)))))] x'++[(ce,ai (cb mv)),(wl,ab (ax W) e),(it,aq la (i+1)),(la,ab line le)]++aD W++Y) P):
  gh w aa b1 b2 4 none (cx (wt w0) it fr ce) (rt [(fr,ah (aB ta la wl (some (r0,some (wa,some nw)))))] xt++[(ce,ai (cb mv)),(wl,ab (ax W) e),(it,aq la i),(la,ab line le)]++aD W++Y) P:=by
 refine lC B fun A R Fr h g d' os tok size hA hf hD kk=>?_;let a:N2:=ix [fr,ce,wl,it,la];let ms:(NT)→List Value:=fun τ=>af (W.map fun p=>az p.ds) τ;have ha:∀ τ,∀ t,∀ y∈ms τ,alike y (aZ t (.int d 0))=true:=fun τ=>dX _ τ d;have hv:∀ τ,∀ t,(ms τ).any (fun y=>eqv y (aZ t (.int d 0)))=true:=fun τ=>fu _ τ d (cT hm);let m7:NT:=fun _=>0;let FF:Ow:=aD W++Y++Fr;let b:=fun x=>pK b1 b2 B w0 ta d le e i t0 line (ax W) mv r0 wa nw (ms m7) a hx (ha m7) (hv m7) xt x ((aD W++Y)++Fr);have gZ:Rp aa h (xU w0 ta d le e i t0 line (ax W) mv r0 wa nw (ms m7) a xt++((aD W++Y)++Fr)) size:=hD.perm (by
  show List.Perm ((rt [(fr,ah (aB ta la wl (some (r0,some (wa,some nw)))))] xt++[(ce,ai (cb mv)),(wl,ab (ax W) e),(it,aq la i),(la,ab line le)]++aD W++Y++Fr)) ((rt [(fr,ah (aB ta la wl (some (r0,some (wa,some nw)))))] xt++[(ce,ai (cb mv)),(wl,ab (ax W) e),(it,aq la i),(la,ab line le)]++((aD W++Y)++Fr)));exact pm [0,1,2,3,4,5,6,7])
 refine fh B (lv:=3) (fr:=none) 9999 _ _ _ (fun x Fr=>DU b1 b2 B w0 ta d le e i t0 line (ax W) mv r0 wa nw (ms m7) a hx (ha m7) (hv m7) xt x Fr) trivial hA (fun _ z=>nomatch z) gZ
  (fun x r' L=>∃ z e2 τ2 L1 y,r'=.ok .next∧nL L1=[(b x 0,ak [(S [119,97,121],.ref z)])]∧L=L1++[(b x 3,ab (ms τ2) e2),(wl,ab (ax W) e)]++aD W++(rt [(fr,ah (aB ta la wl (some (d,some (wa,some nw)))))] y++[(ce,ai (cb mv)),(it,aq la (i+1)),(la,ab line le)]++Y)) (fun x=>?_) fun x1 r1 L1 h1 g1 qI fJ Et G1 uh D1=>?_
 ·refine(aJ.jY (DV b1 b2 B w0 ta d le e i t0 line (ax W) mv r0 wa nw (ms m7) a hx (ha m7) (hv m7) xt x ((aD W++Y)++Fr)) fun y=>?_:)
  let a':N2:=ix [b x 0,b x 2,b x 3,wl,fr];have z:=(r6 b1 b2 B w0 a' W bq hlen e 0 (fr:=none) (lv:=3) (by omega) y).frame (rt [(fr,ah (aB ta la wl (some (d,some (wa,some nw)))))] (fun i=>y (i+1))++[(ce,ai (cb mv)),(it,aq la (i+1)),(la,ab line le)]++Y);refine(aJ.perm z ?_).mono lr ?_
  ·show List.Perm (((rt [(b x 0,ak [])] y++rt [(fr,ah (aB ta la wl (some (d,some (wa,some nw)))))] (fun i=>y (i+1)))++[(b x 2,aq wl 0),(b x 3,ab [] 0),(ce,ai (cb mv)),(wl,ab (ax W) e),(it,aq la (i+1)),(la,ab line le)]++(aD W++Y))) ((rt [(b x 0,ak [])] y++[(b x 2,aq wl 0),(b x 3,ab [] 0),(wl,ab (ax W) e)]++aD W++(rt [(fr,ah (aB ta la wl (some (d,some (wa,some nw)))))] (fun i=>y (i+1))++[(ce,ai (cb mv)),(it,aq la (i+1)),(la,ab line le)]++Y)));exact pm [0,2,3,5,8,1,4,6,7,9]
  ·rintro r' L ⟨L',Eu,τ2,aQ,zz,L1,hz,hr,hn,vR⟩
   subst vR Eu;cases zz with
   |none=>exact mw hW hz
   |some zz=>exact⟨zz,aQ,τ2,L1,_,hr,hn,rfl⟩
 ·obtain⟨z,e2,τ2,w4,y,rfl,hn,rfl⟩:=Et
  have rm:=D1.perm (L':=w4++(rt [(fr,ah (aB ta la wl (some (d,some (wa,some nw)))))] y++([(b x1 3,ab (ms τ2) e2),(ce,ai (cb mv)),(wl,ab (ax W) e),(it,aq la (i+1)),(la,ab line le)]++((aD W++Y)++Fr)))) ((pm [0,4,1,5,2,6,7,3,8,9]));obtain⟨y',D2⟩:=Rp.iF rm hn;let yy:Nat→Tk:=fun i=>match i with|0=>y' 0|i+1=>y i
  have D3:Rp aa h1 (xV w0 ta d le e i t0 line (ax W) mv r0 wa nw (ms τ2) z e2 a (b x1) yy++((aD W++Y)++Fr)) fJ:=D2;refine jS B (lv:=3) (fr:=none) 9999 _ _ _ (fun r L=>(r,nL (aT 1 L),aR 1 L)) (fun x L=>(xX w0 ta d le e i t0 line (ax W) mv r0 wa nw (ms τ2) z e2 a (b x1) (bJ (fun _ _=>0) x L),xW w0 ta d le e i t0 line (ax W) mv r0 wa nw (ms τ2) z e2 a (b x1) (bJ (fun _ _=>0) x L),tj w0 ta d le e i t0 line (ax W) mv r0 wa nw (ms τ2) z e2 a (b x1) (bJ (fun _ _=>0) x L)))
   (fun x nz=>DX b1 b2 B w0 ta d le e i t0 line (ax W) mv r0 wa nw (ms τ2) a hx (ha τ2) (hv τ2) xt x1 ((aD W++Y)++Fr) z e2 yy x nz) uh hA (fun _ z=>nomatch z) D3 fun x2 c2 L2 h2 g2 k7 d7 i4 G2 D4=>?_
  obtain⟨iG,i4,vi⟩:=pS i4;obtain⟨y2,D5⟩:=Rp.iF (by rw[←take_drop 1 L2,a5] at D4;exact D4) i4;rw[vi] at D5;rw[show c2=cx (wt w0) it fr ce from iG];refine hP y2 A R Fr h2 g2 d' os k7 d7 hA hf ?_ fun r L h3 g3 t3 s3 p3 G3 D6=>kk r L h3 g3 t3 s3 p3 ((G1.trans G2).trans G3) D6;have D6:Rp aa h2 (rt [(fr,ah (aB ta la wl (some (d,some (wa,some nw)))))] y2++([(ce,ai (cb mv)),(wl,ab (ax W) e),(it,aq la (i+1)),(la,ab line le)]++((aD W++Y)++Fr))) d7:=D5;simpa only[a5] using D6
theorem Ew (w0:WW)(fr ce wl ta la it:Nat)(d:Nat)(t0:Tok)(line:LV)(le i e:Nat)(hx:line[i]?=some (.int d t0)) (r0 wa nw:Nat) (mv:ON) (W:List Way) (bq:∀ p∈W,p.ds≠[]) (hW:W≠[]) (hm:d∉W.map fun p=>az p.ds) (hlen:W.length≤90)
  (rr:N2) (Tt:Nat→List Nat) (ay:Nat→Nat→Tok) (er:N2) (te:Nat) {out:List LN} (hw:kl Tt (W.map Way.ds++[[d]]) [d] out) (Y:Ow) (xt:Nat→Tk) {P:Result→Ow→Prop}
  (hP:∀ W' dh kx fQ e' x' fR,W'.map Way.ds=out→(∀ p∈W',p.ds≠[])→gh w aa b1 b2 4 none (cx (wt w0) it fr ce) (rt [(fr,ah (aB ta la wl (some (d,some (dh,some kx)))))] x'++[(ce,ai (cb fQ)),(wl,ab (ax W') e'),(it,aq la (i+1)),(la,ab line le)]++aD W'++([(ta,ab (au rr) te)]++aA rr Tt ay er++Y++fR)) P):
  gh w aa b1 b2 4 none (cx (wt w0) it fr ce) (rt [(fr,ah (aB ta la wl (some (r0,some (wa,some nw)))))] xt++[(ce,ai (cb mv)),(wl,ab (ax W) e),(it,aq la i),(la,ab line le)]++aD W++([(ta,ab (au rr) te)]++aA rr Tt ay er++Y)) P:=by
 refine lC B fun A R Fr h g d' os tok size hA hf hD kk=>?_;let a:N2:=ix [fr,ce,wl,it,la];let ms:(NT)→List Value:=fun τ=>af (W.map fun p=>az p.ds) τ;have ha:∀ τ,∀ t,∀ y∈ms τ,alike y (aZ t (.int d 0))=true:=fun τ=>dX _ τ d;have hv:∀ τ,∀ t,(ms τ).any (fun y=>eqv y (aZ t (.int d 0)))=false:=fun τ=>fu _ τ d (decide_eq_false hm);have hb:(ax W).length≤1000:=by simp[ax];omega
 let m7:NT:=fun _=>0;let YY:Ow:=aD W++([(ta,ab (au rr) te)]++aA rr Tt ay er++Y);let b:=fun x=>gu b1 b2 B w0 ta d le e i t0 line (ax W) mv r0 wa nw (ms m7) a hx (ha m7) (hv m7) hb xt x (YY++Fr);have gZ:Rp aa h (xY w0 ta d le e i t0 line (ax W) mv r0 wa nw (ms m7) a xt++(YY++Fr)) size:=hD.perm (by
  show List.Perm ((rt [(fr,ah (aB ta la wl (some (r0,some (wa,some nw)))))] xt++[(ce,ai (cb mv)),(wl,ab (ax W) e),(it,aq la i),(la,ab line le)]++aD W++([(ta,ab (au rr) te)]++aA rr Tt ay er++Y)++Fr)) ((rt [(fr,ah (aB ta la wl (some (r0,some (wa,some nw)))))] xt++[(ce,ai (cb mv)),(wl,ab (ax W) e),(it,aq la i),(la,ab line le)]++(aD W++([(ta,ab (au rr) te)]++aA rr Tt ay er++Y)++Fr)));exact pm [0,1,2,3,4,5,6,7,8,9])
 have E1:∀ x Fr,_:=fun x Fr=>Ea b1 b2 B w0 ta d le e i t0 line (ax W) mv r0 wa nw (ms m7) a hx (ha m7) (hv m7) hb xt x Fr;let yi:Ow:=[(ce,ai (cb mv)),(it,aq la (i+1)),(la,ab line le)]++([(ta,ab (au rr) te)]++aA rr Tt ay er++Y);refine fh B (lv:=3) (fr:=none) 9999 _ _ _ E1 trivial hA (fun _ z=>nomatch z) gZ
  (fun x r' L=>∃ z e2 τ2 L1 y,r'=.ok .next∧nL L1=[(b x 0,ak [(S [119,97,121],.ref z)])]∧L=L1++[(b x 3,ab (ms τ2) e2),(wl,ab (ax W) e)]++aD W++(rt [(fr,ah (aB ta la wl (some (d,some (wa,some nw)))))] y++yi)) (fun x=>?_) fun x1 r1 L1 h1 g1 qI fJ Et G1 uh D1=>?_
 ·refine(aJ.jY (Eb b1 b2 B w0 ta d le e i t0 line (ax W) mv r0 wa nw (ms m7) a hx (ha m7) (hv m7) hb xt x (YY++Fr)) fun y=>?_:)
  let a':N2:=ix [b x 0,b x 2,b x 3,wl,fr];have z:=(r6 b1 b2 B w0 a' W bq (by omega) e 0 (fr:=none) (lv:=3) (by omega) y).frame (rt [(fr,ah (aB ta la wl (some (d,some (wa,some nw)))))] (fun i=>y (i+1))++yi);refine(aJ.perm z ?_).mono lr ?_
  ·show List.Perm (((rt [(b x 0,ak [])] y++rt [(fr,ah (aB ta la wl (some (d,some (wa,some nw)))))] (fun i=>y (i+1)))++[(b x 2,aq wl 0),(b x 3,ab [] 0),(ce,ai (cb mv)),(wl,ab (ax W) e),(it,aq la (i+1)),(la,ab line le)]++(aD W++([(ta,ab (au rr) te)]++aA rr Tt ay er++Y)))) ((rt [(b x 0,ak [])] y++[(b x 2,aq wl 0),(b x 3,ab [] 0),(wl,ab (ax W) e)]++aD W++(rt [(fr,ah (aB ta la wl (some (d,some (wa,some nw)))))] (fun i=>y (i+1))++([(ce,ai (cb mv)),(it,aq la (i+1)),(la,ab line le)]++([(ta,ab (au rr) te)]++aA rr Tt ay er++Y)))));exact pm [0,2,3,5,8,1,4,6,7,9,10,11]
  ·rintro r' L ⟨L',Eu,τ2,aQ,zz,L1,hz,hr,hn,vR⟩
   subst vR Eu;cases zz with
   |none=>exact mw hW hz
   |some zz=>exact⟨zz,aQ,τ2,L1,_,hr,hn,rfl⟩
 obtain⟨z,e2,τ2,w4,y,rfl,hn,rfl⟩:=Et;have rm:=D1.perm (L':=w4++(rt [(fr,ah (aB ta la wl (some (d,some (wa,some nw)))))] y++([(b x1 3,ab (ms τ2) e2),(ce,ai (cb mv)),(wl,ab (ax W) e),(it,aq la (i+1)),(la,ab line le)]++(YY++Fr)))) ((pm [0,4,1,5,2,6,7,3,8,9,10,11]));obtain⟨y',D2⟩:=Rp.iF rm hn;let yy:Nat→Tk:=fun i=>match i with|0=>y' 0|i+1=>y i
 have D3:Rp aa h1 (xZ w0 ta d le e i t0 line (ax W) mv r0 wa nw (ms τ2) z e2 a (b x1) yy++(YY++Fr)) fJ:=D2;let bb:=fun x=>pL b1 b2 B w0 ta d le e i t0 line (ax W) mv r0 wa nw (ms τ2) a hx (ha τ2) (hv τ2) hb xt x1 (YY++Fr) z e2 yy x (YY++Fr);refine fh B (lv:=3) (fr:=none) 9999 _ _ _ (fun x nz=>Ee b1 b2 B w0 ta d le e i t0 line (ax W) mv r0 wa nw (ms τ2) a hx (ha τ2) (hv τ2) hb xt x1 (YY++Fr) z e2 yy x nz) uh hA (fun _ z=>nomatch z) D3
  (fun x r' L=>∃ W' dh eJ fQ e' x' fR,r'=.ok .next∧W'.map Way.ds=out∧(∀ p∈W',p.ds≠[])∧eJ.isSome∧
   L.Perm (rt [(fr,ah (aB ta la wl (some (d,some (dh,eJ)))))] x'++[(ce,ai (cb fQ)),(wl,ab (ax W') e'),(ta,ab (au rr) te)]++aA rr Tt ay er++aD W'++fR++([(it,aq la (i+1)),(la,ab line le)]++Y))) (fun x=>?_) fun x2 r2 L2 h2 g2 k7 d7 Aa G2 BD D4=>?_
 ·refine(aJ.jY (Ef b1 b2 B w0 ta d le e i t0 line (ax W) mv r0 wa nw (ms τ2) a hx (ha τ2) (hv τ2) hb xt x1 (YY++Fr) z e2 yy x (YY++Fr)) fun y2=>?_:)
  let q:Way:=⟨bb x 1,[d],fun _=>(y2 1).v 0,(y2 1).e⟩;have zz:=(w8 b1 b2 B w0 fr ce wl ta la d rr Tt ay er te hw (W++[q]) (by rw[List.map_append];rfl) (fun p hp=>by
   rcases cS.mp hp with hp|hp
   ·exact bq p hp
   ·rw[List.mem_singleton.mp hp];simp[q]) (by simp) q.a [] (.inl ⟨rfl,q,by simp,rfl,rfl⟩) (some nw) mv (e+1) (fun _=>y2 0) []).frame ([(it,aq la (i+1)),(la,ab line le)]++Y)
  refine(aJ.perm zz ?_).mono lr ?_
  ·have e1:ax (W++[q])=ax W++[.ref (bb x 1)]:=by simp[ax,q]
   have aQ:aD (W++[q])=aD W++[q.o]:=by simp[aD]
   rw[e1,aQ];show List.Perm (((rt [(fr,ah (aB ta la wl (some (d,some (q.a,some nw)))))] (fun _=>y2 0)++[q.o])++[(ce,ai (cb mv)),(wl,ab (ax W++[.ref (bb x 1)]) (e+1)),(it,aq la (i+1)),(la,ab line le)]++(aD W++([(ta,ab (au rr) te)]++aA rr Tt ay er++Y)))) (_);exact pm [0,2,3,7,8,6,1,4,5,9]
  ·rintro r' L ⟨L',rfl,W',dh,eJ,fQ,e',x',fR,h1,h2,h3,h4,h5⟩
   refine⟨W',dh,eJ,fQ,e',x',fR,h1,h2,h3,h4 (.inr (by simp)),?_⟩;exact h5.append_right _
 obtain⟨W',dh,eJ,fQ,e',x',fR,rfl,rI,EV,GN,Mm⟩:=Aa;cases eJ with
 |none=>cases GN
 |some kx=>
  have D5:Rp aa h2 (ya w0 ta d le e i t0 line (ax W) mv r0 wa nw (ms τ2) z e2 dh kx fQ (ax W') e' a (b x1) (bb x2) x'++((aD W'++([(ta,ab (au rr) te)]++aA rr Tt ay er++Y++fR))++Fr)) d7:=D4.perm ((Mm.append_right Fr).trans (by
   refine cC fun p=>?_;show _=cnt p (rt [(fr,ah (aB ta la wl (some (d,some (dh,some kx)))))] x'++[(ce,ai (cb fQ)),(wl,ab (ax W') e'),(it,aq la (i+1)),(la,ab line le)]++((aD W'++([(ta,ab (au rr) te)]++aA rr Tt ay er++Y++fR))++Fr));simp only[f5,cnt_cons,cnt_nil,Nat.add_zero];ac_rfl))
  let AV:(SV×Nat×Nat)→Ow→(N2):=fun x L=>bJ (fun _ _=>0) x L;refine jS B (lv:=3) (fr:=none) 9999 _ _ _ (fun r L=>(r,nL (aT 1 L),aR 1 L)) (fun x L=>(yc w0 ta d le e i t0 line (ax W) mv r0 wa nw (ms τ2) z e2 dh kx fQ (ax W') e' a (b x1) (bb x2) (AV x L),yb w0 ta d le e i t0 line (ax W) mv r0 wa nw (ms τ2) z e2 dh kx fQ (ax W') e' a (b x1) (bb x2) (AV x L),tm w0 ta d le e i t0 line (ax W) mv r0 wa nw (ms τ2) z e2 dh kx fQ (ax W') e' a (b x1) (bb x2) (AV x L)))
   (fun x nz=>Eh b1 b2 B w0 ta d le e i t0 line (ax W) mv r0 wa nw (ms τ2) a hx (ha τ2) (hv τ2) hb xt x1 (YY++Fr) z e2 yy x2 (YY++Fr) dh kx fQ (ax W') e' x' x nz) BD hA (fun _ z=>nomatch z) D5 fun x3 c3 L3 h3 g3 i5 d8 Ex G3 D6=>?_
  obtain⟨iG,i4,vi⟩:=pS Ex;obtain⟨y3,D7⟩:=Rp.iF (by rw[←take_drop 1 L3,a5] at D6;exact D6) i4;rw[vi] at D7;rw[show c3=cx (wt w0) it fr ce from iG];refine hP W' dh kx fQ e' y3 fR rI EV A R Fr h3 g3 d' os i5 d8 hA hf ?_ fun r L h4 g4 t4 s4 p4 G4 D8=>kk r L h4 g4 t4 s4 p4 (((G1.trans G2).trans G3).trans G4) D8;have D8:Rp aa h3 (rt [(fr,ah (aB ta la wl (some (d,some (dh,some kx)))))] y3++([(ce,ai (cb fQ)),(wl,ab (ax W') e'),(it,aq la (i+1)),(la,ab line le)]++((aD W'++([(ta,ab (au rr) te)]++aA rr Tt ay er++Y++fR))++Fr))) d8:=D7;simpa only[a5] using D8
theorem yj (w0:WW)(fr ce wl ta la it:Nat)(d:Nat)(t0:Tok)(line:LV)(le i e:Nat)(hx:line[i]?=some (.int d t0)) (mv:ON)
  (rr:N2) (Tt:Nat→List Nat) (ay:Nat→Nat→Tok) (er:N2) (te:Nat) {out:List LN} (hw:kl Tt [[d]] [d] out) (Y:Ow) (xt:Nat→Tk) {P:Result→Ow→Prop}
  (hP:∀ W' dh kx fQ e' x' fR,W'.map Way.ds=out→(∀ p∈W',p.ds≠[])→gh w aa b1 b2 4 none (cx (wt w0) it fr ce) (rt [(fr,ah (aB ta la wl (some (d,some (dh,some kx)))))] x'++[(ce,ai (cb fQ)),(wl,ab (ax W') e'),(it,aq la (i+1)),(la,ab line le)]++aD W'++([(ta,ab (au rr) te)]++aA rr Tt ay er++Y++fR)) P):
  gh w aa b1 b2 4 none (cx (wt w0) it fr ce) (rt [(fr,ah (aB ta la wl (none)))] xt++[(ce,ai (cb mv)),(wl,ab (ax []) e),(it,aq la i),(la,ab line le)]++aD []++([(ta,ab (au rr) te)]++aA rr Tt ay er++Y)) P:=by
 refine lC B fun A R Fr h g d' os tok size hA hf hD kk=>?_;let a:N2:=ix [fr,ce,wl,it,la];let W:List Way:=[];have hb:(ax W).length≤1000:=bZ _;let m7:NT:=fun _=>0;let YY:Ow:=aD W++([(ta,ab (au rr) te)]++aA rr Tt ay er++Y);let b:=fun x=>gv b1 b2 B w0 ta d le e i t0 line (ax W) mv a hx hb xt x (YY++Fr);have gZ:Rp aa h (yd w0 ta d le e i t0 line (ax W) mv a xt++(YY++Fr)) size:=hD.perm (by
  show List.Perm ((rt [(fr,ah (aB ta la wl (none)))] xt++[(ce,ai (cb mv)),(wl,ab (ax W) e),(it,aq la i),(la,ab line le)]++aD W++([(ta,ab (au rr) te)]++aA rr Tt ay er++Y)++Fr)) ((rt [(fr,ah (aB ta la wl (none)))] xt++[(ce,ai (cb mv)),(wl,ab (ax W) e),(it,aq la i),(la,ab line le)]++(aD W++([(ta,ab (au rr) te)]++aA rr Tt ay er++Y)++Fr)));exact pm [0,1,2,3,4,5,6,7,8])
 have E1:∀ x Fr,_:=fun x Fr=>Ek b1 b2 B w0 ta d le e i t0 line (ax W) mv a hx hb xt x Fr;let yi:Ow:=[(ce,ai (cb mv)),(it,aq la (i+1)),(la,ab line le)]++([(ta,ab (au rr) te)]++aA rr Tt ay er++Y);refine fh B (lv:=3) (fr:=none) 9999 _ _ _ E1 trivial hA (fun _ z=>nomatch z) gZ
  (fun x r' L=>∃ e2 L1 y,r'=.ok .next∧nL L1=[(b x 0,ak [])]∧L=L1++[(b x 3,ab [] e2),(wl,ab (ax W) e)]++aD W++(rt [(fr,ah (aB ta la wl (some (d,none))))] y++yi)) (fun x=>?_) fun x1 r1 L1 h1 g1 qI fJ Et G1 uh D1=>?_
 ·refine(aJ.jY (El b1 b2 B w0 ta d le e i t0 line (ax W) mv a hx hb xt x (YY++Fr)) fun y=>?_:)
  let a':N2:=ix [b x 0,b x 2,b x 3,wl,fr];have z:=(r6 b1 b2 B w0 a' W (fun p (h:p∈([]:List Way))=>nomatch h) (bZ _) e 0 (fr:=none) (lv:=3) (by omega) y).frame (rt [(fr,ah (aB ta la wl (some (d,none))))] (fun i=>y (i+1))++yi);refine(aJ.perm z ?_).mono lr ?_
  ·show List.Perm (((rt [(b x 0,ak [])] y++rt [(fr,ah (aB ta la wl (some (d,none))))] (fun i=>y (i+1)))++[(b x 2,aq wl 0),(b x 3,ab [] 0),(ce,ai (cb mv)),(wl,ab (ax W) e),(it,aq la (i+1)),(la,ab line le)]++(aD W++([(ta,ab (au rr) te)]++aA rr Tt ay er++Y)))) ((rt [(b x 0,ak [])] y++[(b x 2,aq wl 0),(b x 3,ab [] 0),(wl,ab (ax W) e)]++aD W++(rt [(fr,ah (aB ta la wl (some (d,none))))] (fun i=>y (i+1))++([(ce,ai (cb mv)),(it,aq la (i+1)),(la,ab line le)]++([(ta,ab (au rr) te)]++aA rr Tt ay er++Y)))));exact pm [0,2,3,5,1,4,6,7,8,9,10]
  ·rintro r' L ⟨L',Eu,τ2,aQ,zz,L1,hz,hr,hn,vR⟩
   subst vR Eu;cases zz with
   |some zz=>cases hz
   |none=>exact⟨aQ,L1,_,hr,hn,rfl⟩
 obtain⟨e2,w4,y,rfl,hn,rfl⟩:=Et;have rm:=D1.perm (L':=w4++(rt [(fr,ah (aB ta la wl (some (d,none))))] y++([(b x1 3,ab [] e2),(ce,ai (cb mv)),(wl,ab (ax W) e),(it,aq la (i+1)),(la,ab line le)]++(YY++Fr)))) ((pm [0,3,1,4,2,5,6,7,8,9,10]));obtain⟨y',D2⟩:=Rp.iF rm hn;let yy:Nat→Tk:=fun i=>match i with|0=>y' 0|i+1=>y i
 have D3:Rp aa h1 (ye w0 ta d le e i t0 line (ax W) mv e2 a (b x1) yy++(YY++Fr)) fJ:=D2;let bb:=fun x=>pM b1 b2 B w0 ta d le e i t0 line (ax W) mv a hx hb xt x1 (YY++Fr) e2 yy x (YY++Fr);refine fh B (lv:=3) (fr:=none) 9999 _ _ _ (fun x nz=>Eo b1 b2 B w0 ta d le e i t0 line (ax W) mv a hx hb xt x1 (YY++Fr) e2 yy x nz) uh hA (fun _ z=>nomatch z) D3
  (fun x r' L=>∃ W' dh eJ fQ e' x' fR,r'=.ok .next∧W'.map Way.ds=out∧(∀ p∈W',p.ds≠[])∧eJ.isSome∧
   L.Perm (rt [(fr,ah (aB ta la wl (some (d,some (dh,eJ)))))] x'++[(ce,ai (cb fQ)),(wl,ab (ax W') e'),(ta,ab (au rr) te)]++aA rr Tt ay er++aD W'++fR++([(it,aq la (i+1)),(la,ab line le)]++Y))) (fun x=>?_) fun x2 r2 L2 h2 g2 k7 d7 Aa G2 BD D4=>?_
 ·refine(aJ.jY (Ep b1 b2 B w0 ta d le e i t0 line (ax W) mv a hx hb xt x1 (YY++Fr) e2 yy x (YY++Fr)) fun y2=>?_:)
  let q:Way:=⟨bb x 1,[d],fun _=>(y2 1).v 0,(y2 1).e⟩;have zz:=(w8 b1 b2 B w0 fr ce wl ta la d rr Tt ay er te hw (W++[q]) (by rw[List.map_append];rfl) (fun p hp=>by
   rcases cS.mp hp with hp|hp
   ·exact nomatch (show p∈([]:List Way) from hp)
   ·rw[List.mem_singleton.mp hp];simp[q]) (by simp) q.a [] (.inl ⟨rfl,q,by simp,rfl,rfl⟩) (none) mv (e+1) (fun _=>y2 0) []).frame ([(it,aq la (i+1)),(la,ab line le)]++Y)
  refine(aJ.perm zz ?_).mono lr ?_
  ·have e1:ax (W++[q])=ax W++[.ref (bb x 1)]:=by simp[ax,q]
   have aQ:aD (W++[q])=aD W++[q.o]:=by simp[aD]
   rw[e1,aQ];show List.Perm (((rt [(fr,ah (aB ta la wl (some (d,some (q.a,none)))))] (fun _=>y2 0)++[q.o])++[(ce,ai (cb mv)),(wl,ab (ax W++[.ref (bb x 1)]) (e+1)),(it,aq la (i+1)),(la,ab line le)]++(aD W++([(ta,ab (au rr) te)]++aA rr Tt ay er++Y)))) (_);exact pm [0,2,3,6,7,1,4,5,8]
  ·rintro r' L ⟨L',rfl,W',dh,eJ,fQ,e',x',fR,h1,h2,h3,h4,h5⟩
   refine⟨W',dh,eJ,fQ,e',x',fR,h1,h2,h3,h4 (.inr (by simp)),?_⟩;exact h5.append_right _
 obtain⟨W',dh,eJ,fQ,e',x',fR,rfl,rI,EV,GN,Mm⟩:=Aa;cases eJ with
 |none=>cases GN
 |some kx=>
  have D5:Rp aa h2 (yf w0 ta d le e i t0 line (ax W) mv e2 dh kx fQ (ax W') e' a (b x1) (bb x2) x'++((aD W'++([(ta,ab (au rr) te)]++aA rr Tt ay er++Y++fR))++Fr)) d7:=D4.perm ((Mm.append_right Fr).trans (by
   refine cC fun p=>?_;show _=cnt p (rt [(fr,ah (aB ta la wl (some (d,some (dh,some kx)))))] x'++[(ce,ai (cb fQ)),(wl,ab (ax W') e'),(it,aq la (i+1)),(la,ab line le)]++((aD W'++([(ta,ab (au rr) te)]++aA rr Tt ay er++Y++fR))++Fr));simp only[f5,cnt_cons,cnt_nil,Nat.add_zero];ac_rfl))
  let AV:(SV×Nat×Nat)→Ow→(N2):=fun x L=>bJ (fun _ _=>0) x L;refine jS B (lv:=3) (fr:=none) 9999 _ _ _ (fun r L=>(r,nL (aT 1 L),aR 1 L)) (fun x L=>(yh w0 ta d le e i t0 line (ax W) mv e2 dh kx fQ (ax W') e' a (b x1) (bb x2) (AV x L),yg w0 ta d le e i t0 line (ax W) mv e2 dh kx fQ (ax W') e' a (b x1) (bb x2) (AV x L),tn w0 ta d le e i t0 line (ax W) mv e2 dh kx fQ (ax W') e' a (b x1) (bb x2) (AV x L)))
   (fun x nz=>Es b1 b2 B w0 ta d le e i t0 line (ax W) mv a hx hb xt x1 (YY++Fr) e2 yy x2 (YY++Fr) dh kx fQ (ax W') e' x' x nz) BD hA (fun _ z=>nomatch z) D5 fun x3 c3 L3 h3 g3 i5 d8 Ex G3 D6=>?_
  obtain⟨iG,i4,vi⟩:=pS Ex;obtain⟨y3,D7⟩:=Rp.iF (by rw[←take_drop 1 L3,a5] at D6;exact D6) i4;rw[vi] at D7;rw[show c3=cx (wt w0) it fr ce from iG];refine hP W' dh kx fQ e' y3 fR rI EV A R Fr h3 g3 d' os i5 d8 hA hf ?_ fun r L h4 g4 t4 s4 p4 G4 D8=>kk r L h4 g4 t4 s4 p4 (((G1.trans G2).trans G3).trans G4) D8;have D8:Rp aa h3 (rt [(fr,ah (aB ta la wl (some (d,some (dh,some kx)))))] y3++([(ce,ai (cb fQ)),(wl,ab (ax W') e'),(it,aq la (i+1)),(la,ab line le)]++((aD W'++([(ta,ab (au rr) te)]++aA rr Tt ay er++Y++fR))++Fr))) d8:=D7;simpa only[a5] using D8
end
inductive j3 (T:Nat→List Nat):List LN→List Nat→List LN→Prop
 |done {ws}:j3 T ws [] ws
 |skip {ws d rest out} (hm:d∈ws.map az) (hl:ws.length≤90) (z:j3 T ws rest out):j3 T ws (d::rest) out
 |new {ws d rest uQ out} (hm:d∉ws.map az) (hl:ws.length≤90) (hw:kl T (ws++[[d]]) [d] uQ) (z:j3 T uQ rest out):j3 T ws (d::rest) out
theorem kl.ne {T:Nat→List Nat}{ws:List LN}{way:LN}{out:List LN}(h:kl T ws way out):ws≠[]→out≠[]:=by
 induction h with
 |done=>exact id
 |pop _ _ _ _ _ _ _ ih=>exact ih
 |push _ _ _ _ _ _ _ ih=>exact fun _=>ih (by simp)
theorem ts {l:LN}{p c:Nat}{m:LN}(h:l.drop p=c::m):l[p]?=some c∧l.drop (p+1)=m:=by
 constructor
 ·have:(l.drop p)[0]?=some c:=by rw[h];rfl
  rw[List.getElem?_drop] at this;simpa using this
 ·rw[←List.drop_drop,h];rfl
section
variable (b1 b2:Bool){w:WW}{aa:Heap}(B:BB w aa b1 b2)
include B
abbrev lO (fr ce wl ta la:Nat)(dl:LN)(fl:NT)(le:Nat)(rr:N2)(Tt:Nat→List Nat)(ay:Nat→Nat→Tok)(er:N2)(te:Nat)(out:List LN)(Y:Ow)(r:Result)(L:Ow):Prop:=
 ∃ W' e' fQ r' dh kx x' G',r=.ok .next∧W'.map Way.ds=out∧(∀ p∈W',p.ds≠[])∧
  L.Perm (rt [(fr,ah (aB ta la wl (some (r',some (dh,some kx)))))] x'++[(ce,ai (cb fQ)),(wl,ab (ax W') e'),(la,ab (af dl fl) le)]++aD W'++([(ta,ab (au rr) te)]++aA rr Tt ay er++Y++G'))
theorem AL (w0:WW)(fr ce wl ta la it:Nat)(dl:LN)(fl:NT)(le:Nat)(rr:N2)(Tt:Nat→List Nat)(ay:Nat→Nat→Tok)(er:N2)(te:Nat){ws:List LN}{rest:LN}{out:List LN}(h:j3 Tt ws rest out):
  ∀ (i:Nat)(W:List Way)(e:Nat)(mv:ON)(xt:Nat→Tk)(Y:Ow)(r0 wa nw:Nat),dl.drop i=rest→W.map Way.ds=ws→(∀ p∈W,p.ds≠[])→W≠[]→
  gh w aa b1 b2 4 none (cx (wt w0) it fr ce) (rt [(fr,ah (aB ta la wl (some (r0,some (wa,some nw)))))] xt++[(ce,ai (cb mv)),(wl,ab (ax W) e),(it,aq la i),(la,ab (af dl fl) le)]++aD W++([(ta,ab (au rr) te)]++aA rr Tt ay er++Y)) (lO fr ce wl ta la dl fl le rr Tt ay er te out Y):=by
 induction h with
 |@done ws=>
  intro i W e mv xt Y r0 wa nw hd hW bq Ey;let a:N2:=ix [fr,ce,wl,it,la];have hx:(af dl fl)[i]?=none:=cF _ _ _ (by have:=congrArg List.length hd;simp at this;exact eU (by omega))
  have z:=(Pz b1 b2 B w0 ta le e i (af dl fl) (ax W) mv r0 wa nw a hx (frx:=none)).use (aD W++([(ta,ab (au rr) te)]++aA rr Tt ay er++Y)) (fun _=>0) xt;refine(aJ.perm z ?_).mono (by omega) ?_
  ·show(rt [(fr,ah (aB ta la wl (some (r0,some (wa,some nw)))))] xt++[(ce,ai (cb mv)),(wl,ab (ax W) e),(it,aq la i),(la,ab (af dl fl) le)]++aD W++([(ta,ab (au rr) te)]++aA rr Tt ay er++Y)).Perm
    (rt [(fr,ah (aB ta la wl (some (r0,some (wa,some nw)))))] xt++[(ce,ai (cb mv)),(wl,ab (ax W) e),(it,aq la i),(la,ab (af dl fl) le)]++(aD W++([(ta,ab (au rr) te)]++aA rr Tt ay er++Y)))
   simp only[a5];exact .refl _
  ·rintro r L ⟨b,f,x',hr,rfl⟩
   refine⟨W,e,mv,r0,wa,nw,x',[],hr,hW,bq,?_⟩;show(rt [(fr,ah (aB ta la wl (some (r0,some (wa,some nw)))))] x'++[(ce,ai (cb mv)),(wl,ab (ax W) e),(la,ab (af dl fl) le)]++(aD W++([(ta,ab (au rr) te)]++aA rr Tt ay er++Y))).Perm _;simp only[a5,ck];exact .refl _
 |@skip ws d rest out hm hl z ih=>
  intro i W e mv xt Y r0 wa nw hd hW bq Ey;obtain⟨h1,h2⟩:=ts hd;have hlen:W.length≤100:=by rw[←hW,bU] at hl;omega
  refine AK b1 b2 B w0 fr ce wl ta la it d (fl i) (af dl fl) le i e (cf _ _ _ _ h1) r0 wa nw mv W bq Ey hlen (by rw[←hW,List.map_map] at hm;exact hm) ([(ta,ab (au rr) te)]++aA rr Tt ay er++Y) xt fun x'=>?_;exact ih (i+1) W e mv x' Y d wa nw h2 hW bq Ey
 |@new ws d rest uQ out hm hl hw z ih=>
  intro i W e mv xt Y r0 wa nw hd hW bq Ey;obtain⟨h1,h2⟩:=ts hd;have hlen:W.length≤90:=by rw[←hW,bU] at hl;exact hl
  subst hW;refine Ew b1 b2 B w0 fr ce wl ta la it d (fl i) (af dl fl) le i e (cf _ _ _ _ h1) r0 wa nw mv W bq Ey (by rw[List.map_map] at hm;exact hm) hlen rr Tt ay er te hw Y xt fun W' dh kx fQ e' x' fR h3 h4=>?_;have Mn:W'≠[]:=fun hh=>hw.ne (by simp) (by rw[←h3,hh];rfl);have z:=ih (i+1) W' e' fQ x' (Y++fR) d dh kx h2 h3 h4 Mn;have e1:([(ta,ab (au rr) te)]++aA rr Tt ay er++(Y++fR))=([(ta,ab (au rr) te)]++aA rr Tt ay er++Y++fR):=by simp only[a5]
  rw[e1] at z;refine z.mono lr ?_;rintro r L ⟨W2,e2,cY,r2,cN,cX,x2,G2,hr,p1,p2,p3⟩;exact⟨W2,e2,cY,r2,cN,cX,x2,fR++G2,hr,p1,p2,by simpa only[a5] using p3⟩
theorem uR (w0:WW)(fr ce wl ta la it:Nat)(d:Nat)(dl:LN)(fl:NT)(le:Nat)(rr:N2)(Tt:Nat→List Nat)(ay:Nat→Nat→Tok)(er:N2)(te:Nat){out:List LN}(h:j3 Tt [] (d::dl) out)(e:Nat)(mv:ON)(xt:Nat→Tk)(Y:Ow):
  gh w aa b1 b2 4 none (cx (wt w0) it fr ce) (rt [(fr,ah (aB ta la wl none))] xt++[(ce,ai (cb mv)),(wl,ab [] e),(it,aq la 0),(la,ab (af (d::dl) fl) le)]++([(ta,ab (au rr) te)]++aA rr Tt ay er++Y)) (lO fr ce wl ta la (d::dl) fl le rr Tt ay er te out Y):=by
 cases h with
 |skip hm=>cases hm
 |@new _ _ _ uQ _ hm hl hw z=>
  have z2:=yj b1 b2 B w0 fr ce wl ta la it d (fl 0) (af (d::dl) fl) le 0 e rfl mv rr Tt ay er te hw Y xt (P:=lO fr ce wl ta la (d::dl) fl le rr Tt ay er te out Y) fun W' dh kx fQ e' x' fR h3 h4=>by
   have Mn:W'≠[]:=fun hh=>hw.ne (by simp) (by rw[←h3,hh];rfl);have z:=AL b1 b2 B w0 fr ce wl ta la it (d::dl) fl le rr Tt ay er te z 1 W' e' fQ x' (Y++fR) d dh kx rfl h3 h4 Mn;have e1:([(ta,ab (au rr) te)]++aA rr Tt ay er++(Y++fR))=([(ta,ab (au rr) te)]++aA rr Tt ay er++Y++fR):=by simp only[a5]
   rw[e1] at z;refine z.mono lr ?_;rintro r L ⟨W2,e2,cY,r2,cN,cX,x2,G2,hr,p1,p2,p3⟩;exact⟨W2,e2,cY,r2,cN,cX,x2,fR++G2,hr,p1,p2,by simpa only[a5] using p3⟩
  refine aJ.perm z2 ?_;show List.Perm (_++_) (rt [(fr,ah (aB ta la wl none))] xt++[(ce,ai (cb mv)),(wl,ab [] e),(it,aq la 0),(la,ab (af (d::dl) fl) le)]++[]++([(ta,ab (au rr) te)]++aA rr Tt ay er++Y));rw[ck]
end
def BE (w0:WW)(le:Nat)(lv:LV)(a:N2)(xt:Nat→Tk):Ow:=rt [] xt++[(a 0,ab lv le)]
def qZ (b1 b2:Bool){w:WW}{aa:Heap}(B:BB w aa b1 b2)(w0:WW)(le:Nat)(lv:LV)(a:N2)(xt:Nat→Tk)(x:SV×Nat×Nat)(Fr:Ow):Out:=runK pw (wd w b1 b2) aa (dF (wd w b1 b2)) 4 none 9999 (ol 0x2222b33344b4b1d []) (.bL (.call (.ref 894) ⟨[.ref (a 1),.ref (a 0)],[]⟩)) (startT (dF (wd w b1 b2)) (.call (.ref 894) ⟨[.ref (a 1),.ref (a 0)],[]⟩)) (BE w0 le lv a xt++Fr) x
def Io (w0:WW)(le:Nat)(lv:LV)(a bc:N2):Ow:=[((bc 0),ah (aB (a 1) (a 0) (bc 2) (none)))]
def Ez (w0:WW)(le:Nat)(lv:LV)(a bc:N2):Ow:=[((bc 1),ai (cb none)),((bc 2),ab [] 0),((bc 3),aq (a 0) 0),((a 0),ab lv le)]
def Ip (w0:WW)(le:Nat)(lv:LV)(a bc:N2):Code:=cx (wt w0) (bc 3) (bc 0) (bc 1)
section
variable (b1 b2:Bool){w:WW}{aa:Heap}(B:BB w aa b1 b2)
include B
def jk (w0:WW)(le:Nat)(lv:LV)(a:N2)(xt:Nat→Tk)(x:SV×Nat×Nat)(Fr:Ow):N2:=adr ((qZ b1 b2 B w0 le lv a xt x Fr).get [3,2,1,0,0])
theorem Iq (w0:WW)(le:Nat)(lv:LV)(a:N2)(xt:Nat→Tk)(x:SV×Nat×Nat)(Fr:Ow):(fun o:Out=>(o.kind,ij o.tr,o.rest [3,2,1,0,0] 0)=(2,ik o.tr,Fr)) (qZ b1 b2 B w0 le lv a xt x Fr):=by
 revert b1 b2;exact dI (by kernel_rfl)
theorem Ir (w0:WW)(le:Nat)(lv:LV)(a:N2)(xt:Nat→Tk)(x:SV×Nat×Nat)(Fr:Ow):(fun(o:Out) (bz:N2)=>(o.code,nL (aT 1 (o.get [3,2,1,0,0])),aR 1 (o.get [3,2,1,0,0]))=(Ip w0 le lv a bz,Io w0 le lv a bz,Ez w0 le lv a bz)) (qZ b1 b2 B w0 le lv a xt x Fr) (jk b1 b2 B w0 le lv a xt x Fr):=by
 revert b1 b2;exact dI (by kernel_rfl)
def BF (w0:WW)(le:Nat)(lv:LV)(r2 cN cX:Nat)(cY:ON)(dK:LV)(e3:Nat)(a b1:N2)(y:Nat→Tk):Ow:=rt [((b1 0),ah (aB (a 1) (a 0) (b1 2) (some (r2,some (cN,some cX)))))] y++[((b1 1),ai (cb cY)),((b1 2),ab dK e3),((a 0),ab lv le)]
def rd (w0:WW)(le:Nat)(lv:LV)(a:N2)(xt:Nat→Tk)(x1:SV×Nat×Nat)(bI:Ow)(r2 cN cX:Nat)(cY:ON)(dK:LV)(e3:Nat)(y1:Nat→Tk)(x:SV×Nat×Nat)(Fr:Ow):Out:=runK pw (wd w b1 b2) aa (dF (wd w b1 b2)) 4 none 9999 (ol 0x133b3b1d []) (qZ b1 b2 B w0 le lv a xt x1 bI).c8 ((qZ b1 b2 B w0 le lv a xt x1 bI).k (.ok .next)) (BF w0 le lv r2 cN cX cY dK e3 a (jk b1 b2 B w0 le lv a xt x1 bI) y1++Fr) x
def It (w0:WW)(le:Nat)(lv:LV)(r2 cN cX:Nat)(cY:ON)(dK:LV)(e3:Nat)(a b1 bc:N2):Ow:=[((bc 0),ak []),((b1 0),ah (aB (a 1) (a 0) (b1 2) (some (r2,some (cN,some cX)))))]
def EA (w0:WW)(le:Nat)(lv:LV)(r2 cN cX:Nat)(cY:ON)(dK:LV)(e3:Nat)(a b1 bc:N2):Ow:=[((b1 1),ai (cb cY)),((bc 3),aq (b1 2) 0),((bc 4),ab [] 0),((b1 2),ab dK e3),((a 0),ab lv le)]
def Iu (w0:WW)(le:Nat)(lv:LV)(r2 cN cX:Nat)(cY:ON)(dK:LV)(e3:Nat)(a b1 bc:N2):Code:=atC (md (wt w0)) (bc 3) (bc 4) (bc 0) (b1 0) []
def tu (w0:WW)(le:Nat)(lv:LV)(a:N2)(xt:Nat→Tk)(x1:SV×Nat×Nat)(bI:Ow)(r2 cN cX:Nat)(cY:ON)(dK:LV)(e3:Nat)(y1:Nat→Tk)(x:SV×Nat×Nat)(Fr:Ow):N2:=adr ((rd b1 b2 B w0 le lv a xt x1 bI r2 cN cX cY dK e3 y1 x Fr).get [0,2,2,1,0,0,0])
theorem Iv (w0:WW)(le:Nat)(lv:LV)(a:N2)(xt:Nat→Tk)(x1:SV×Nat×Nat)(bI:Ow)(r2 cN cX:Nat)(cY:ON)(dK:LV)(e3:Nat)(y1:Nat→Tk)(x:SV×Nat×Nat)(Fr:Ow):(fun o:Out=>(o.kind,ij o.tr,o.rest [0,2,2,1,0,0,0] 0)=(2,ik o.tr,Fr)) (rd b1 b2 B w0 le lv a xt x1 bI r2 cN cX cY dK e3 y1 x Fr):=by
 revert b1 b2;exact dI (by kernel_rfl)
theorem Iw (w0:WW)(le:Nat)(lv:LV)(a:N2)(xt:Nat→Tk)(x1:SV×Nat×Nat)(bI:Ow)(r2 cN cX:Nat)(cY:ON)(dK:LV)(e3:Nat)(y1:Nat→Tk)(x:SV×Nat×Nat)(Fr:Ow):(fun(o:Out) (bz:N2)=>(o.code,nL (aT 2 (o.get [0,2,2,1,0,0,0])),aR 2 (o.get [0,2,2,1,0,0,0]))=(Iu w0 le lv r2 cN cX cY dK e3 a (jk b1 b2 B w0 le lv a xt x1 bI) bz,It w0 le lv r2 cN cX cY dK e3 a (jk b1 b2 B w0 le lv a xt x1 bI) bz,EA w0 le lv r2 cN cX cY dK e3 a (jk b1 b2 B w0 le lv a xt x1 bI) bz)) (rd b1 b2 B w0 le lv a xt x1 bI r2 cN cX cY dK e3 y1 x Fr) (tu b1 b2 B w0 le lv a xt x1 bI r2 cN cX cY dK e3 y1 x Fr):=by
 revert b1 b2;exact dI (by kernel_rfl)
def BG (w0:WW)(le:Nat)(lv:LV)(r2 cN cX:Nat)(cY:ON)(dK:LV)(e3:Nat)(z:Nat)(ss:LV)(e4:Nat)(a b1 b2:N2)(y:Nat→Tk):Ow:=rt [((b2 0),ak [(S [119,97,121],.ref z)]),((b1 0),ah (aB (a 1) (a 0) (b1 2) (some (r2,some (cN,some cX)))))] y++[((b1 1),ai (cb cY)),((b2 4),ab ss e4),((b1 2),ab dK e3),((a 0),ab lv le)]
def Iy (w0:WW)(le:Nat)(lv:LV)(a:N2)(xt:Nat→Tk)(x1:SV×Nat×Nat)(bI:Ow)(r2 cN cX:Nat)(cY:ON)(dK:LV)(e3:Nat)(y1:Nat→Tk)(x2:SV×Nat×Nat)(k9:Ow)(z:Nat)(ss:LV)(e4:Nat)(y2:Nat→Tk)(x:SV×Nat×Nat)(Fr:Ow):Out:=runK pw (wd w b1 b2) aa (dF (wd w b1 b2)) 4 none 9999 (ol 0x111 []) (rd b1 b2 B w0 le lv a xt x1 bI r2 cN cX cY dK e3 y1 x2 k9).c8 ((rd b1 b2 B w0 le lv a xt x1 bI r2 cN cX cY dK e3 y1 x2 k9).k (.ok .next)) (BG w0 le lv r2 cN cX cY dK e3 z ss e4 a (jk b1 b2 B w0 le lv a xt x1 bI) (tu b1 b2 B w0 le lv a xt x1 bI r2 cN cX cY dK e3 y1 x2 k9) y2++Fr) x
noncomputable def BH (w0:WW)(le:Nat)(lv:LV)(r2 cN cX:Nat)(cY:ON)(dK:LV)(e3:Nat)(z:Nat)(ss:LV)(e4:Nat)(a b1 b2 bc:N2):Ow:=[]
def yk (w0:WW)(le:Nat)(lv:LV)(r2 cN cX:Nat)(cY:ON)(dK:LV)(e3:Nat)(z:Nat)(ss:LV)(e4:Nat)(a b1 b2 bc:N2):Ow:=[((b2 4),ab ss e4),((a 0),ab lv le)]
noncomputable def BI (w0:WW)(le:Nat)(lv:LV)(r2 cN cX:Nat)(cY:ON)(dK:LV)(e3:Nat)(z:Nat)(ss:LV)(e4:Nat)(a b1 b2 bc:N2):Result:=.ok (.ret (.ref (b2 4)))
theorem Iz (w0:WW)(le:Nat)(lv:LV)(a:N2)(xt:Nat→Tk)(x1:SV×Nat×Nat)(bI:Ow)(r2 cN cX:Nat)(cY:ON)(dK:LV)(e3:Nat)(y1:Nat→Tk)(x2:SV×Nat×Nat)(k9:Ow)(z:Nat)(ss:LV)(e4:Nat)(y2:Nat→Tk)(x:SV×Nat×Nat)(Fr:Ow):(fun(o:Out) (bz:N2)=>(o.kind,ij o.tr,o.rest [3,4] 4,o.res,nL (aT 0 (o.get [3,4])),aR 0 (o.get [3,4]))=
  (1,ik o.tr,Fr,BI w0 le lv r2 cN cX cY dK e3 z ss e4 a (jk b1 b2 B w0 le lv a xt x1 bI) bz (bJ (fun _ _=>0) x (o.get [3,4])),BH w0 le lv r2 cN cX cY dK e3 z ss e4 a (jk b1 b2 B w0 le lv a xt x1 bI) bz (bJ (fun _ _=>0) x (o.get [3,4])),yk w0 le lv r2 cN cX cY dK e3 z ss e4 a (jk b1 b2 B w0 le lv a xt x1 bI) bz (bJ (fun _ _=>0) x (o.get [3,4])))) (Iy b1 b2 B w0 le lv a xt x1 bI r2 cN cX cY dK e3 y1 x2 k9 z ss e4 y2 x Fr) (tu b1 b2 B w0 le lv a xt x1 bI r2 cN cX cY dK e3 y1 x2 k9):=by
 revert b1 b2;exact dI (by kernel_rfl)
theorem AM (w0:WW){T:Nat→List Nat}(d:Nat)(ds:LN){out:List LN}(hd:j3 T [] (d::ds) out)(fM:∀ q∈out,q≠[]∧(∀ x∈q,x<5)∧q.length≤100)(hl:out.length≤100)(bq:out≠[])(τ:NT)(ta la el eta:Nat)(r:N2)(ay:Nat→Nat→Tok)(er:N2):
  gh w aa b1 b2 5 none (.call (.ref 894) ⟨[.ref ta,.ref la],[]⟩) ((la,ab (af (d::ds) τ) el)::(ta,ab (au r) eta)::aA r T ay er)
   (fun r' L=>∃ tl bG et,r'=.ok (.ret (.ref tl))∧L=(tl,ab (ag (out.map (aj 47)) bG) et)::(la,ab (af (d::ds) τ) el)::(ta,ab (au r) eta)::aA r T ay er):=by
 refine aJ.drop (lC B fun A R Fr h g d' os tok size hA hf hD kk=>?_);let a:N2:=ix [la,ta];let lv:=af (d::ds) τ;let YY:Ow:=[(ta,ab (au r) eta)]++aA r T ay er;let xt:Nat→Tk:=fun _=>⟨fun _=>0,fun _=>0,fun _=>0,0⟩;let b:=fun x=>jk b1 b2 B w0 el lv a xt x (YY++Fr);have gZ:Rp aa h (BE w0 el lv a xt++(YY++Fr)) size:=hD;refine fh B (lv:=4) (fr:=none) 9999 _ _ _ (fun x Fr=>Iq b1 b2 B w0 el lv a xt x Fr) trivial hA (fun _ z=>nomatch z) gZ
  (fun x=>lO (b x 0) (b x 1) (b x 2) ta la (d::ds) τ el r T ay er eta out []) (fun x=>?_) fun x1 r1 L1 h1 g1 qI fJ Et G1 uh D1=>?_
 ·refine(aJ.jY (Ir b1 b2 B w0 el lv a xt x (YY++Fr)) fun y=>?_:)
  have z:=uR b1 b2 B w0 (b x 0) (b x 1) (b x 2) ta la (b x 3) d ds τ el r T ay er eta hd 0 none y [];rw[ck] at z;exact z
 obtain⟨W,e3,cY,r2,cN,cX,y1,G',rfl,hW,PB,IA⟩:=Et;let ZZ:Ow:=aD W++([(ta,ab (au r) eta)]++aA r T ay er++G');have D3:Rp aa h1 (BF w0 el lv r2 cN cX cY (ax W) e3 a (b x1) y1++(ZZ++Fr)) fJ:=D1.perm ((IA.append_right Fr).trans (by
  show List.Perm _ (rt [(b x1 0,ah (aB ta la (b x1 2) (some (r2,some (cN,some cX)))))] y1++[(b x1 1,ai (cb cY)),(b x1 2,ab (ax W) e3),(la,ab lv el)]++(ZZ++Fr));exact pm [0,1,2,3,4,5,6,7,8]))
 let bb:=fun x=>tu b1 b2 B w0 el lv a xt x1 (YY++Fr) r2 cN cX cY (ax W) e3 y1 x (ZZ++Fr);have PC:∀ p∈W,p.Ok:=fun p hp=>by
  have:=fM p.ds (by rw[←hW];exact List.mem_map_of_mem hp);exact⟨this.1,this.2.1,this.2.2⟩
 have Mo:W.length≤100:=by rw[←hW,bU] at hl;exact hl
 have Ey:W≠[]:=fun hh=>bq (by rw[←hW,hh];rfl);have PD:(W.map fun p=>aj 47 p.ds)=out.map (aj 47):=by rw[←hW,List.map_map];rfl
 refine fh B (lv:=4) (fr:=none) 9999 _ _ _ (fun x nz=>Iv b1 b2 B w0 el lv a xt x1 (YY++Fr) r2 cN cX cY (ax W) e3 y1 x nz) uh hA (fun _ z=>nomatch z) D3
  (fun x r' L=>∃ τ2 e4 z L1 y,r'=.ok .next∧nL L1=[(bb x 0,ak [(S [119,97,121],.ref z)])]∧L=L1++[(bb x 4,ab (ag (W.map fun p:Way=>aj 47 p.ds) τ2) e4),(b x1 2,ab (ax W) e3)]++aD W++(rt [(b x1 0,ah (aB ta la (b x1 2) (some (r2,some (cN,some cX)))))] y++[(b x1 1,ai (cb cY)),(la,ab lv el)]++([(ta,ab (au r) eta)]++aA r T ay er++G'))) (fun x=>?_) fun x2 QB L2 h2 g2 k7 d7 Aa G2 BD D4=>?_
 ·refine(aJ.jY (Iw b1 b2 B w0 el lv a xt x1 (YY++Fr) r2 cN cX cY (ax W) e3 y1 x (ZZ++Fr)) fun y=>?_:)
  let a':N2:=ix [bb x 0,bb x 3,bb x 4,b x1 2,b x1 0];have z:=(CN b1 b2 B w0 a' W PC Mo e3 0 (fr:=none) (lv:=4) (by omega) y).frame (rt [(b x1 0,ah (aB ta la (b x1 2) (some (r2,some (cN,some cX)))))] (fun i=>y (i+1))++[(b x1 1,ai (cb cY)),(la,ab lv el)]++([(ta,ab (au r) eta)]++aA r T ay er++G'));refine(aJ.perm z ?_).mono lr ?_
  ·show List.Perm (((rt [(bb x 0,ak [])] y++rt [(b x1 0,ah (aB ta la (b x1 2) (some (r2,some (cN,some cX)))))] (fun i=>y (i+1)))++[(b x1 1,ai (cb cY)),(bb x 3,aq (b x1 2) 0),(bb x 4,ab [] 0),(b x1 2,ab (ax W) e3),(la,ab lv el)]++(aD W++([(ta,ab (au r) eta)]++aA r T ay er++G')))) ((rt [(bb x 0,ak [])] y++[(bb x 3,aq (b x1 2) 0),(bb x 4,ab [] 0),(b x1 2,ab (ax W) e3)]++aD W++(rt [(b x1 0,ah (aB ta la (b x1 2) (some (r2,some (cN,some cX)))))] (fun i=>y (i+1))++[(b x1 1,ai (cb cY)),(la,ab lv el)]++([(ta,ab (au r) eta)]++aA r T ay er++G'))));exact pm [0,3,4,5,7,1,2,6,8,9,10]
  ·rintro r' L ⟨L',Eu,τ2,e4,zz,L1,hz,hr,hn,vR⟩
   subst vR Eu;cases zz with
   |none=>exact mw Ey hz
   |some zz=>exact⟨τ2,e4,zz,L1,_,hr,hn,rfl⟩
 obtain⟨τ2,e4,z,w4,y,rfl,hn,rfl⟩:=Aa;have PE:=D4.perm (L':=w4++(rt [(b x1 0,ah (aB ta la (b x1 2) (some (r2,some (cN,some cX)))))] y++([(b x1 1,ai (cb cY)),(bb x2 4,ab (ag (W.map fun p:Way=>aj 47 p.ds) τ2) e4),(b x1 2,ab (ax W) e3),(la,ab lv el)]++(ZZ++Fr)))) ((pm [0,4,5,1,2,6,3,7,8,9,10]));obtain⟨y',D5⟩:=Rp.iF PE hn;let yy:Nat→Tk:=fun i=>match i with|0=>y' 0|i+1=>y i
 have D6:Rp aa h2 (BG w0 el lv r2 cN cX cY (ax W) e3 z (ag (W.map fun p:Way=>aj 47 p.ds) τ2) e4 a (b x1) (bb x2) yy++(ZZ++Fr)) d7:=D5;refine l5 B (lv:=4) (fr:=none) 9999 _ _ _ (fun r L=>(r,nL (aT 0 L),aR 0 L)) (fun x L=>(BI w0 el lv r2 cN cX cY (ax W) e3 z (ag (W.map fun p:Way=>aj 47 p.ds) τ2) e4 a (b x1) (bb x2) (bJ (fun _ _=>0) x L),BH w0 el lv r2 cN cX cY (ax W) e3 z (ag (W.map fun p:Way=>aj 47 p.ds) τ2) e4 a (b x1) (bb x2) (bJ (fun _ _=>0) x L),yk w0 el lv r2 cN cX cY (ax W) e3 z (ag (W.map fun p:Way=>aj 47 p.ds) τ2) e4 a (b x1) (bb x2) (bJ (fun _ _=>0) x L)))
  (fun x nz=>Iz b1 b2 B w0 el lv a xt x1 (YY++Fr) r2 cN cX cY (ax W) e3 y1 x2 (ZZ++Fr) z (ag (W.map fun p:Way=>aj 47 p.ds) τ2) e4 yy x nz) BD hA (fun _ z=>nomatch z) D6 fun x3 r3 L3 h3 g3 i5 d8 hv G3 D7=>?_
 obtain⟨iG,i4,vi⟩:=pS hv;refine kk r3 _ h3 g3 i5 d8 ⟨_,aD W++G',rfl,bb x2 4,τ2,e4,iG,rfl⟩ ((G1.trans G2).trans G3) ?_;rw[PD] at vi;have D8:Rp aa h3 (aR 0 L3++(ZZ++Fr)) d8:=D7;rw[vi] at D8;refine D8.perm ?_;show List.Perm ([(bb x2 4,ab (ag (out.map (aj 47)) τ2) e4),(la,ab lv el)]++(ZZ++Fr)) _;exact pm [0,1,3,4,2,5,6]
end
def AN (rs:Ow)(i:Nat):Obj:=match sy i rs with
 |some p=>p.2
 |none=>default
noncomputable def sm (o:Obj):pj:=match o.data with
 |.dict es n=>⟨o.cls,o.dict,es,n,o.slots⟩
 |_=>⟨.none,none,#[],0,#[]⟩
section
variable {b1 b2:Bool}{w:WW}{aa:Heap}
theorem uS (b1 b2:Bool)(w:WW)(fr cc ca cv cw ct:Nat):kf [aK (wd w b1 b2) fr cc ca cv cw ct] [fr]:=by
 refine⟨?_,?_,trivial⟩
 ·have:(aK (wd w b1 b2) fr cc ca cv cw ct).scope.kind=.function:=by revert b1 b2;exact fb (by kernel_rfl)
  rw[this];decide
 ·revert b1 b2;exact fb (by kernel_rfl)
def mW (B:BB w aa b1 b2){T:Nat→List Nat}(d:Nat)(ds:LN)(cJ:∀ x∈d::ds,x<5)(hlen:(d::ds).length≤100){out:List LN}(hw:cU T [] (d::ds) [] out)(fM:out.length≤900)(τ:NT)(ay:Nat→Nat→Tok):gw w aa b1 b2:=
 dk 7 true true 0 (some fun _ rr=>[aK (wd w b1 b2) (adr rr 7) (adr rr 8) (adr rr 9) (adr rr 10) (adr rr 11) (adr rr 12)]) (fun _ rr=> .call (.ref 889) ⟨[.ref (adr rr 1),.ref (adr rr 0)],[]⟩) (fun _ _=>[])
  (fun _ rr=>(adr rr 0,ab (af (d::ds) τ) (aH rr 0))::(adr rr 1,ab (au fun i=>adr rr (i+2)) (aH rr 1))::(aA (fun i=>adr rr (i+2)) T ay (fun i=>aH rr (i+2))++[(adr rr 7,(sm (AN rr 7)).o)])++aR 8 rr)
  (fun _ _ b _=> .ok (.ret (.ref (b 0)))) (fun _ _ _ _=>[])
  (fun _ rr b f=>(b 0,ab (ag (out.map P) (f 0)) (b 1))::(adr rr 0,ab (af (d::ds) τ) (aH rr 0))::(adr rr 1,ab (au fun i=>adr rr (i+2)) (aH rr 1))::(aA (fun i=>adr rr (i+2)) T ay (fun i=>aH rr (i+2))++[(adr rr 7,(sm (AN rr 7)).o)])++aR 8 rr)
  fun cc rr t x=>((xT b1 b2 B d ds cJ hlen hw fM τ (adr rr 1) (adr rr 0) (aH rr 0) (aH rr 1) (fun i=>adr rr (i+2)) ay (fun i=>aH rr (i+2)) (lf:=adr rr 7) (q2':=sm (AN rr 7)) (uS b1 b2 w (adr rr 7) (adr rr 8) (adr rr 9) (adr rr 10) (adr rr 11) (adr rr 12))).frame (aR 8 rr)).mono lr fun r L hP=>by
   obtain⟨L',rfl,tl,bG,et,rfl,rfl⟩:=hP;exact⟨fun i=>match i with|0=>tl|_=>et,fun _=>bG,[],rfl,rfl,rfl⟩
def IB (B:BB w aa b1 b2)(w0:WW){T:Nat→List Nat}(d:Nat)(ds:LN){out:List LN}(hd:j3 T [] (d::ds) out)(fM:∀ q∈out,q≠[]∧(∀ x∈q,x<5)∧q.length≤100)(hl:out.length≤100)(bq:out≠[])(τ:NT)(ay:Nat→Nat→Tok):gw w aa b1 b2:=
 dk 5 true true 0 none (fun _ rr=> .call (.ref 894) ⟨[.ref (adr rr 1),.ref (adr rr 0)],[]⟩) (fun _ _=>[])
  (fun _ rr=>(adr rr 0,ab (af (d::ds) τ) (aH rr 0))::(adr rr 1,ab (au fun i=>adr rr (i+2)) (aH rr 1))::aA (fun i=>adr rr (i+2)) T ay (fun i=>aH rr (i+2)))
  (fun _ _ b _=> .ok (.ret (.ref (b 0)))) (fun _ _ _ _=>[])
  (fun _ rr b f=>(b 0,ab (ag (out.map (aj 47)) (f 0)) (b 1))::(adr rr 0,ab (af (d::ds) τ) (aH rr 0))::(adr rr 1,ab (au fun i=>adr rr (i+2)) (aH rr 1))::aA (fun i=>adr rr (i+2)) T ay (fun i=>aH rr (i+2)))
  fun cc rr t x=>(AM b1 b2 B w0 d ds hd fM hl bq τ (adr rr 1) (adr rr 0) (aH rr 0) (aH rr 1) (fun i=>adr rr (i+2)) ay (fun i=>aH rr (i+2))).mono lr fun r L hP=>by
   obtain⟨tl,bG,et,rfl,rfl⟩:=hP;exact⟨fun i=>match i with|0=>tl|_=>et,fun _=>bG,[],rfl,rfl,rfl⟩
end
section
variable {prog:Program}{w:WW}{aa:Heap}
theorem EB (a b c:Int)(hc:a-b=c):fc prog w aa 0 (.call (.builtin "int.__sub__") ⟨[.int a 0,.int b 0],[]⟩) [] (fun _=> .ok (.ret (.int c 0))) (fun _=>[]):=fun t x=>by
 subst hc;exact bM (v0:=.int (a-b) 0) (bB F.slot_int_sub (fun s=>typeIs_int s a (t 0)) F.entry_int_sub (F.args_int_sub_2 _ _) (AutoIntG9.int___sub___int_int_0 a (t 0) b (t 1)) trivial) rfl
def tw (a b c:Int)(hc:a-b=c):Ent prog w aa:=fP 0 _ _ _ _ (EB a b c hc)
end
section
variable {b1 b2:Bool}{w:WW}{aa:Heap}
def tx (B:BB w aa b1 b2)(w0:WW)(vv:Nat)(tv:Tok)(l:LN)(hl:((List.range 5).filter fun d=>decide (d≠vv))=l):gw w aa b1 b2:=
 dk 2 true true 1 none (fun cc rr=>(DC w0 (aH rr 2) vv tv (ef 4 [j6 cc] rr)).c) (fun _ rr=>[(adr rr 0,ak [])])
  (fun _ rr=>[(adr rr 1,eZ 0),(adr rr 2,ab [] (aH rr 2)),(adr rr 3,ai (some (.int vv tv)))]) (fun _ _ _ _=> .ok .next) (fun _ rr b _=>[(adr rr 0,ak [(kA,.int 4 0)])])
  (fun _ rr b f=>[(adr rr 2,ab (af l (f 0)) (b 0)),(adr rr 3,ai (some (.int vv tv)))])
  fun cc rr t x=>(DH b1 b2 B w0 (ef 4 [j6 cc] rr) (aH rr 2) vv tv lr x).mono lr fun r L hP=>by
   obtain⟨τ2,aQ,L1,rfl,hn,rfl⟩:=hP;subst hl;exact⟨fun i=>aQ,fun _=>τ2,L1,rfl,rfl,hn⟩
end
def PF (w0:WW)(c:Nat)(tc:Tok)(oc:OV)(a:N2):SX (Sem Fin) Result:=sB (uH (dQ (f4 (wt w0))) (aK (wt w0) (a 1) (a 0) (a 2) (a 3) (a 4) (a 5)) (.int c tc)) [] [(a 0,ai oc)] (fun b f=> .ok .next) (fun b f=>[(a 0,ai (some (.int c tc)))])
section
variable (b1 b2:Bool){w:WW}{aa:Heap}(B:BB w aa b1 b2)
include B
theorem iA (w0:WW)(c:Nat)(tc:Tok)(oc:OV)(a:N2){frx:OE}:hH pw (wd w b1 b2) aa 2 frx true (PF w0 c tc oc a):=
 gJ B aO.none [.o 0,.o 0] z2 z3 [0] 0 0 (fun _ _ _ h=>nomatch h) fun x X Fr=>by revert b1 b2;exact dI (by kernel_rfl)
def PG (w0:WW)(v:Nat)(tv:Tok)(oc:OV)(a:N2):SX (Sem Fin) Result:=sB (uH (dQ (Lq (wt w0))) (aK (wt w0) (a 1) (a 2) (a 3) (a 0) (a 4) (a 5)) (.int v tv)) [] [(a 0,ai oc)] (fun b f=> .ok .next) (fun b f=>[(a 0,ai (some (.int v tv)))])
theorem vA (w0:WW)(v:Nat)(tv:Tok)(oc:OV)(a:N2){frx:OE}:hH pw (wd w b1 b2) aa 2 frx true (PG w0 v tv oc a):=
 gJ B aO.none [.o 0,.o 0] z2 z3 [0] 0 0 (fun _ _ _ h=>nomatch h) fun x X Fr=>by revert b1 b2;exact dI (by kernel_rfl)
def PH (w0:WW)(c we:Nat)(tc tp:Tok)(wv:LV)(p:LN)(a:N2):SX (Sem Fin) Result:=sC (ir (eW (jv (bj (i0 (wt w0)))) (aK (wt w0) (a 3) (a 0) (a 4) (a 5) (a 1) (a 6)))) [] [(a 0,ai (some (.int c tc))),(a 1,cR (a 2)),(a 2,ab wv we)] (fun b f=> .ok (.ret (.str (P p.dropLast) 0)))
theorem iL (w0:WW)(c we:Nat)(tc tp:Tok)(wv:LV)(p:LN)(a:N2)(hc:c<1000)(PI:wv[c]?=some (.str (aj 47 p) tp)) (bq:p≠[]) (hlen:p.length≤5) (hp:∀ x∈p,x<5) {frx:OE}:hH pw (wd w b1 b2) aa 3 frx false (PH w0 c we tc tp wv p a):=
 gJ B aO.none (ol 0xa21333 (.u [2] (aY wv c (.str (aj 47 p) tp) hc PI)::(ol 0xa (.u [] (DR B p bq hlen hp)::[])))) z2 z3 [1,1,0] 0 0 (fun _ _ _ h=>nomatch h) fun x X Fr=>by revert b1 b2;exact dI (by kernel_rfl)
def PJ (w0:WW)(v we:Nat)(tv tq:Tok)(wv:LV)(q:LN)(a:N2):SX (Sem Fin) Result:=sC (ir (eW (gO (bj (i0 (wt w0)))) (aK (wt w0) (a 3) (a 4) (a 5) (a 0) (a 1) (a 6)))) [] [(a 0,ai (some (.int v tv))),(a 1,cR (a 2)),(a 2,ab wv we)] (fun b f=> .ok (.ret (.str (aj 47 q) 0)))
theorem iR (w0:WW)(v we:Nat)(tv tq:Tok)(wv:LV)(q:LN)(a:N2)(hv:v<1000)(pQ:wv[v]?=some (.str (aj 47 q) tq)) {frx:OE}:hH pw (wd w b1 b2) aa 2 frx false (PJ w0 v we tv tq wv q a):=
 gJ B aO.none (ol 0x21333 (.u [2] (aY wv v (.str (aj 47 q) tq) hv pQ)::[])) z2 z3 [1,1,0] 0 0 (fun _ _ _ h=>nomatch h) fun x X Fr=>by revert b1 b2;exact dI (by kernel_rfl)
def PK (w0:WW)(s:SO)(pt:Str)(ql qr:Nat)(qd:Int)(bn:ON)(W:Nat→List Nat)(τ:NT)(we c:Nat)(tc:Tok)(a:N2):SX (Sem Fin) Result:=⟨toF (bu [eQ (wt w0) [10,4,0,0] 0] (aK (wt w0) (a 0) (a 1) (a 8) (a 9) (a 2) (a 10))),[(a 0,ah (fL (a 4) (a 5) (a 6) (a 7) pt s (some (ql,qr,qd)) bn))],[(a 1,ai (some (.int c tc))),(a 2,cR (a 3)),(a 3,ab (aE W τ) we)],fun b f=> .ok .next,fun b f=>[(a 0,ah (fL (a 4) (a 5) (a 6) (a 7) pt s (some (ql,qr,qd)) (some (b 4))))],fun b f=>[(a 1,ai (some (.int c tc))),(a 2,cR (a 3)),(a 3,ab (aE W τ) we),(b 4,ab (af ((List.range 5).filter fun u=>decide (eY (W u) (W c)=W c)) (f 0)) (b 1000))]⟩
theorem iB (w0:WW)(s:SO)(pt:Str)(ql qr:Nat)(qd:Int)(bn:ON)(W:Nat→List Nat)(τ:NT)(we c:Nat)(tc:Tok)(a:N2)(hW:∀ k<5,bY (W k))(hc:c<5){frx:OE}:hH pw (wd w b1 b2) aa 6 frx true (PK w0 s pt ql qr qd bn W τ we c tc a):=
 gJ B aO.none (ol 0xaabbbb11b1b111b1b1111 (.u [0,1,0,3,2,2] (LQ B w0 W hW τ c hc tc)::(ol 0x77111 []))) (fe [(11,1)]) (oP [(11,0)]) [6,3,2,2,1] 2 1 (fun _ _ _ h=>nomatch h) fun x X Fr=>by revert b1 b2 s bn;exact Gx (by kernel_rfl)
def PL (w0:WW)(s:SO)(pt:Str)(ql qr:Nat)(qd:Int)(Tt:Nat→List Nat)(ay:Nat→Nat→Tok)(er:N2)(te:Nat)(us av:LN)(uT bH:NT)(be ae:Nat)(a:N2):SX (Sem Fin) Result:=sB (ir (eW (jv (bj (i1 (wt w0)))) (aK (wt w0) (a 0) (a 15) (a 4) (a 16) (a 17) (a 2)))) [(a 0,ah (fL (a 11) (a 12) (a 13) (a 14) pt s (some (ql,qr,qd)) (some (a 1))))] [(a 1,ab (af us uT) be),(a 2,cR (a 3)),(a 3,ab [.ref (a 6),.ref (a 7),.ref (a 8),.ref (a 9),.ref (a 10)] te),(a 4,cR (a 5)),(a 5,ab (ag (av.map ao) bH) ae),(a 6,ab (af (Tt 0) (ay 0)) (er 0)),(a 7,ab (af (Tt 1) (ay 1)) (er 1)),(a 8,ab (af (Tt 2) (ay 2)) (er 2)),(a 9,ab (af (Tt 3) (ay 3)) (er 3)),(a 10,ab (af (Tt 4) (ay 4)) (er 4))] (fun b f=> .ok (.ret (.ref (b 1)))) (fun b f=>[(b 1,ab (af (bk Tt av us) (f 0)) (b 1000)),(a 1,ab (af us uT) be),(a 2,cR (a 3)),(a 3,ab [.ref (a 6),.ref (a 7),.ref (a 8),.ref (a 9),.ref (a 10)] te),(a 4,cR (a 5)),(a 5,ab (ag (av.map ao) bH) ae),(a 6,ab (af (Tt 0) (ay 0)) (er 0)),(a 7,ab (af (Tt 1) (ay 1)) (er 1)),(a 8,ab (af (Tt 2) (ay 2)) (er 2)),(a 9,ab (af (Tt 3) (ay 3)) (er 3)),(a 10,ab (af (Tt 4) (ay 4)) (er 4))])
theorem jL (w0:WW)(s:SO)(pt:Str)(ql qr:Nat)(qd:Int)(Tt:Nat→List Nat)(ay:Nat→Nat→Tok)(er:N2)(te:Nat)(us av:LN)(uT bH:NT)(be ae:Nat)(a:N2)(hT:∀ k<5,(Tt k).length≤100)(vk:∀ k<5,∀ x∈Tt k,x<5)(yO:∀ u∈us,u<5)(BC:us.length≤5)(hw:∃ u∈us,Tt u≠[]){frx:OE}:hH pw (wd w b1 b2) aa 5 frx true (PL w0 s pt ql qr qd Tt ay er te us av uT bH be ae a):=
 gJ B aO.none (ol 0x122b2b1 (.u [0,1,0,1,1,1,1,1,1,1,1,1,1] (L8 B w0 Tt hT vk us yO BC hw av uT bH ay)::(ol 0x111111 []))) (fe [(5,1)]) (oP [(5,0)]) [12,1,1,1,1,1,1,1,1,1,1,1] 1 1 (fun _ _ _ h=>nomatch h) fun x X Fr=>by revert b1 b2 s;exact d4 (by kernel_rfl)
def PM (w0:WW)(a:N2):SX (Sem Fin) Result:=sB (ir (eW (gO (bj (i1 (wt w0)))) (aK (wt w0) (a 0) (a 1) (a 2) (a 3) (a 4) (a 5)))) [] [] (fun b f=> .ok (.ret (.ref (b 0)))) (fun b f=>[(b 0,ab [] 0)])
theorem jR (w0:WW)(a:N2){frx:OE}:hH pw (wd w b1 b2) aa 2 frx true (PM w0 a):=
 gJ B aO.none [] z2 z3 [0] 0 0 (fun _ _ _ h=>nomatch h) fun x X Fr=>by revert b1 b2;exact dI (by kernel_rfl)
def PO (w0:WW)(s:SO)(pt:Str)(ql qr:Nat)(qd:Int)(qe:Int)(a:N2):SX (Sem Fin) Result:=sA (toF (bu (MZ (wt w0)) (aK (wt w0) (a 0) (a 6) (a 7) (a 8) (a 9) (a 10)))) [(a 0,ah (fL (a 1) (a 2) (a 3) (a 4) pt s (some (ql,qr,qd)) (some (a 5))))] [] (fun b f=> .ok .next) (fun b f=>[(a 0,ah (fL (a 1) (a 2) (a 3) (a 4) pt s (some (ql,qr,qe)) (some (a 5))))])
theorem iD (w0:WW)(s:SO)(pt:Str)(ql qr:Nat)(qd:Int)(qe:Int)(a:N2)(hq:qd+1=qe){frx:OE}:hH pw (wd w b1 b2) aa 2 frx true (PO w0 s pt ql qr qd qe a):=
 gJ B aO.none (ol 0x1 (.u [] (m9 qd 1 qe hq)::(ol 0x11 []))) z2 z3 [0] 0 1 (fun _ _ _ h=>nomatch h) fun x X Fr=>by revert b1 b2 s;exact d4 (by kernel_rfl)
def PQ (w0:WW)(xs:LV)(i xe:Nat)(a:N2):SX Code Result:=sB (cH (wt w0) [10,4] (a 0) (a 2) (a 3) (a 4) (a 5) (a 6) (a 7)) [] [(a 0,aq (a 1) i),(a 1,ab xs xe)] (fun b f=> .ok .next) (fun b f=>[(a 1,ab xs xe)])
theorem iE (w0:WW)(xs:LV)(i xe:Nat)(a:N2)(hx:xs[i]?=none) {frx:OE}:eP w aa b1 b2 2 frx true true (PQ w0 xs i xe a):=
 tX B aO.none (ol 0x1b1 (.u [0,0] (bA xs i hx)::(ol 0x1b []))) z2 z3 [2] 2 0
def PR (w0:WW)(v te:Nat)(tv:Tok)(tl:LV)(a:N2):SX (Sem Fin) Result:=sC (ir (eW (pF (f4 (wt w0))) (aK (wt w0) (a 3) (a 5) (a 6) (a 0) (a 7) (a 1)))) [] [(a 0,ai (some (.int v tv))),(a 1,cR (a 2)),(a 2,ab tl te)] (fun b f=> .ok (.ret (.ref (a 4))))
theorem iI (w0:WW)(v te:Nat)(tv:Tok)(tl:LV)(a:N2)(hv:v<1000)(hg:tl[v]?=some (.ref (a 4))) {frx:OE}:hH pw (wd w b1 b2) aa 2 frx true (PR w0 v te tv tl a):=
 gJ B aO.none (ol 0x21333 (.u [2] (aY tl v (.ref (a 4)) hv hg)::[])) z2 z3 [1,1,0] 0 0 (fun _ _ _ h=>nomatch h) fun x X Fr=>by revert b1 b2;exact dI (by kernel_rfl)
end
section
variable {prog:Program}{w:WW}{aa:Heap}
theorem g5.ro {lv:Nat}{fr:OE}{ss:List Stmt}{env:Env}{cA ra:Ow}{L0 ey:(N2)→(Nat→Nat→Nat)→Ow}(h:g5 prog w aa lv fr true (toF (bu ss env)) cA ra (fun _ _=> .ok .next) L0 ey)(Y:Ow)(x:Nat→Tk):
  aM prog w aa lv fr (execs ss env) (rt cA x++ra++Y) (fun f L=>f=.next∧∃ b g x',L=rt (L0 b g) x'++ey b g++Y):=
 (dc (h.use Y x)).mono lr fun v L hP=>by
  obtain⟨q,b,f,x',hq,hr,rfl⟩:=hP;cases hq;have eT:(Except.ok v:Result)=.ok .next:=hr
  injection eT with eT
  exact⟨eT,b,f,x',rfl⟩
theorem g5.asg {lv:Nat}{fr:OE}{iN:Expr}{env:Env}{v:Value}{cA ra:Ow}{L0 ey:(N2)→(Nat→Nat→Nat)→Ow}(h:g5 prog w aa lv fr true (uH iN env v) cA ra (fun _ _=> .ok .next) L0 ey)(Y:Ow)(x:Nat→Tk):
  aM prog w aa lv fr (assign iN env v) (rt cA x++ra++Y) (fun _ L=>∃ b g x',L=rt (L0 b g) x'++ey b g++Y):=
 qV ((h.use Y x).mono lr fun v L hP=>by
  obtain⟨q,b,f,x',hq,hr,rfl⟩:=hP;exact⟨b,f,x',rfl⟩)
theorem g5.ev {lv:Nat}{fr:OE}{e:Expr}{env:Env}{cA ra:Ow}{V:(N2)→(Nat→Nat→Nat)→Value}{L0 ey:(N2)→(Nat→Nat→Nat)→Ow}(h:g5 prog w aa lv fr true (ir (eW e env)) cA ra (fun b f=> .ok (.ret (V b f))) L0 ey)(Y:Ow)(x:Nat→Tk):
  aM prog w aa lv fr (eval e env) (rt cA x++ra++Y) (fun v L=>∃ b g x',v=V b g∧L=rt (L0 b g) x'++ey b g++Y):=
 (ft (h.use Y x)).mono lr fun v L hP=>by
  obtain⟨q,b,f,x',hq,hr,rfl⟩:=hP;cases hq;have eT:(Except.ok (.ret v):Result)=.ok (.ret (V b f)):=hr;injection eT with eT
  injection eT with eT
  exact⟨b,f,x',eT,rfl⟩
theorem g5.M4 {lv:Nat}{fr:OE}{e:Expr}{env:Env}{cA ra:Ow}{s:Str}{L0 ey:(N2)→(Nat→Nat→Nat)→Ow}(h:g5 prog w aa lv fr false (ir (eW e env)) cA ra (fun b f=> .ok (.ret (.str s 0))) L0 ey)(Y:Ow)(x:Nat→Tk):
  aM prog w aa lv fr (eval e env) (rt cA x++ra++Y) (fun v L=>∃ t b g x',v=.str s t∧L=rt (L0 b g) x'++ey b g++Y):=
 (ft (h.use Y x)).mono lr fun v L hP=>by
  obtain⟨q,b,f,x',hq,hr,rfl⟩:=hP;cases hq;obtain⟨t,ht⟩:=lA false (.ok (.ret v));rw[show nU false (.ok (.ret v))=.ok (.ret (.str s 0)) from hr] at ht;have tD:(Except.ok (.ret v):Result)=.ok (.ret (.str s t)):=ht;injection tD with tD
  injection tD with tD
  exact⟨t,b,f,x',tD,rfl⟩
end
structure LK where
 (fr cc ca cv cw ct sc ll tl rl ta wl:Nat)
 r:N2
 T:Nat→List Nat
 ay:Nat→Nat→Tok
 er:N2
 te:Nat
 dG:List LN
 dZ:NT
 re:Nat
 W:Nat→List Nat
 τ:NT
 we:Nat
 pt:Str
 s:SO
structure mX (K:LK):Prop where
 hT:∀ k<5,(K.T k).length≤100
 vk:∀ k<5,∀ x∈K.T k,x<5
 pN:∀ k<5,∀ x∈K.T k,k∈K.T x
 hW:∀ k<5,bY (K.W k)
 hl:∀ k<5,(K.W k).length≤5
 hR:K.dG.length≤100
def LK.env (K:LK)(w0:WW):Env:=aK (wt w0) K.fr K.cc K.ca K.cv K.cw K.ct
def LK.F (K:LK)(x:Nat→Tk)(q:Option (Nat×Nat×Int))(bn:ON):Ow:=rt [(K.fr,ah (fL K.sc K.ll K.tl K.rl K.pt K.s q bn))] x
def LK.C (K:LK):Ow:=[(K.cw,ai (some (.ref K.wl))),(K.ct,ai (some (.ref K.ta))),(K.ta,ab (au K.r) K.te),(K.rl,ab (ag (K.dG.map (aj 47)) K.dZ) K.re),(K.wl,ab (aE K.W K.τ) K.we)]++aA K.r K.T K.ay K.er
theorem rf (r:N2)(T:Nat→List Nat)(ay:Nat→Nat→Tok)(er:N2)(v:Nat)(hv:v<5):∃ Z,(aA r T ay er).Perm ((r v,ab (af (T v) (ay v)) (er v))::Z):=by
 have hm:(r v,ab (af (T v) (ay v)) (er v))∈aA r T ay er:=by
  rw[ox];exact List.mem_map.mpr ⟨v,by match v,hv with|0,_=>simp|1,_=>simp|2,_=>simp|3,_=>simp|4,_=>simp,rfl⟩
 obtain⟨s,t,h⟩:=List.append_of_mem hm;exact⟨s++t,by rw[h];exact List.perm_middle⟩
noncomputable def j4 (K:LK)(v i:Nat):Nat:=(((K.T v).take i).filter (eK K.T (List.range 5) K.W v)).length
theorem uV (K:LK)(v i:Nat)(hi:i<(K.T v).length):j4 K v (i+1)=j4 K v i+if eK K.T (List.range 5) K.W v (K.T v)[i]=true then 1 else 0:=by
 unfold j4;rw[dv hi,List.filter_append,List.length_append,dT];split<;>simp
section
variable (b1 b2:Bool){w:WW}{aa:Heap}(B:BB w aa b1 b2)
include B
theorem AO (w0:WW)(K:LK)(hK:mX K)(v c:Nat)(hv:v<5)(hc:c<5)(tv tc:Tok)(whole:Sem Value)(Y:Ow)(x0:Nat→Tk):
  pn w aa b1 b2 3 none (isTrue (.Compare (jv (bj (i0 (wt w0)))) [.Eq] [gO (bj (i0 (wt w0)))] (qk (bj (i0 (wt w0))))) (K.env w0) whole)
   ([(K.cc,ai (some (.int c tc))),(K.cv,ai (some (.int v tv))),(K.cw,ai (some (.ref K.wl))),(K.wl,ab (aE K.W K.τ) K.we)]++Y)
   (fun b L=>b=decide ((K.W c).dropLast=K.W v)∧L.Perm ([(K.cc,ai (some (.int c tc))),(K.cv,ai (some (.int v tv))),(K.cw,ai (some (.ref K.wl))),(K.wl,ab (aE K.W K.τ) K.we)]++Y)):=by
 let a:N2:=ix [K.cc,K.cw,K.wl,K.fr,K.ca,K.cv,K.ct];let a':N2:=ix [K.cv,K.cw,K.wl,K.fr,K.cc,K.ca,K.ct];have Mp:=hK.hW c hc;have M5:=hK.hW v hv;have zl:=(iL b1 b2 B w0 c K.we tc (K.τ c) (aE K.W K.τ) (K.W c) a (by omega) (di K.W K.τ hc) Mp.ne (hK.hl c hc) Mp.lt (frx:=none)).M4 ([(K.cv,ai (some (.int v tv)))]++Y) x0;have zr:=(iR b1 b2 B w0 v K.we tv (K.τ v) (aE K.W K.τ) (K.W v) a' (by omega) (di K.W K.τ hv) (frx:=none)).M4 ([(K.cc,ai (some (.int c tc)))]++Y) x0;refine(iu (v:=decide ((K.W c).dropLast=K.W v)) (P1:=fun x L=>∃ t,x=.str (P (K.W c).dropLast) t∧L.Perm ([(K.cc,ai (some (.int c tc))),(K.cv,ai (some (.int v tv))),(K.cw,ai (some (.ref K.wl))),(K.wl,ab (aE K.W K.τ) K.we)]++Y))
  (P2:=fun x y L=>(∃ t,x=.str (P (K.W c).dropLast) t)∧(∃ t,y=.str (aj 47 (K.W v)) t)∧L.Perm ([(K.cc,ai (some (.int c tc))),(K.cv,ai (some (.int v tv))),(K.cw,ai (some (.ref K.wl))),(K.wl,ab (aE K.W K.τ) K.we)]++Y)) (H2 w0) ?_ ?_ ?_).mono lr ?_
 ·refine(aM.perm zl ?_).mono (by omega) ?_
  ·show List.Perm _ (rt [] x0++[(K.cc,ai (some (.int c tc))),(K.cw,ai (some (.ref K.wl))),(K.wl,ab (aE K.W K.τ) K.we)]++([(K.cv,ai (some (.int v tv)))]++Y))
   exact pm [0,2,3,1,4]
  ·rintro x L ⟨t,b,g,x',rfl,rfl⟩
   refine⟨t,rfl,?_⟩;show List.Perm (rt [] x'++[(K.cc,ai (some (.int c tc))),(K.cw,ai (some (.ref K.wl))),(K.wl,ab (aE K.W K.τ) K.we)]++([(K.cv,ai (some (.int v tv)))]++Y)) _;exact pm [0,3,1,2,4]
 ·rintro y L ⟨t,rfl,hL⟩
  refine(aM.perm zr (hL.trans ?_)).mono (by omega) ?_
  ·show List.Perm _ (rt [] x0++[(K.cv,ai (some (.int v tv))),(K.cw,ai (some (.ref K.wl))),(K.wl,ab (aE K.W K.τ) K.we)]++([(K.cc,ai (some (.int c tc)))]++Y))
   exact pm [1,2,3,0,4]
  ·rintro x L ⟨t',b,g,x',rfl,rfl⟩
   refine⟨⟨t,rfl⟩,⟨t',rfl⟩,?_⟩;show List.Perm (rt [] x'++[(K.cv,ai (some (.int v tv))),(K.cw,ai (some (.ref K.wl))),(K.wl,ab (aE K.W K.τ) K.we)]++([(K.cc,ai (some (.int c tc)))]++Y)) _;exact pm [3,0,1,2,4]
 ·rintro x y L ⟨⟨t,rfl⟩,⟨t',rfl⟩,_⟩ A s Fr size hA hD E Q hQ
  have e:((P (K.W c).dropLast)==(aj 47 (K.W v)))=decide ((K.W c).dropLast=K.W v):=by
   rw[←oA (fun _ d hd=>Mp.lt d (List.dropLast_subset _ hd)) M5.lt M5.ne];exact(PySem.SeqAt.str_beq _ _).symm
  have z:=PySem.SeqAt.RcAt.str_str (A:=A) (s:=s) (P (K.W c).dropLast) t (aj 47 (K.W v)) t';rw[e] at z;exact z pw _ E Q hQ
 ·rintro b L ⟨rfl,x,y,_,_,h⟩
  exact⟨rfl,h⟩
theorem yl (w0:WW)(K:LK)(hK:mX K)(ql qr bl al:Nat)(qd:Int)(us av:LN)(uT bH:NT)(be ae:Nat)(yO:∀ u∈us,u<5)(BC:us.length≤5)(hw:∃ u∈us,K.T u≠[])(whole:Sem Value)(Y:Ow)(x0:Nat→Tk):
  pn w aa b1 b2 5 none (isTrue (.Compare (jv (bj (i1 (wt w0)))) [.Eq] [gO (bj (i1 (wt w0)))] (qk (bj (i1 (wt w0))))) (K.env w0) whole)
   (K.F x0 (some (ql,qr,qd)) (some bl)++[(bl,ab (af us uT) be),(K.ca,cR al),(al,ab (ag (av.map ao) bH) ae)]++K.C++Y)
   (fun b L=>b=(bk K.T av us).isEmpty∧∃ x' Gb,L.Perm (K.F x' (some (ql,qr,qd)) (some bl)++[(bl,ab (af us uT) be),(K.ca,cR al),(al,ab (ag (av.map ao) bH) ae)]++K.C++Y++Gb)):=by
 let a:N2:=ix [K.fr,bl,K.ct,K.ta,K.ca,al,K.r 0,K.r 1,K.r 2,K.r 3,K.r 4,K.sc,K.ll,K.tl,K.rl,K.cc,K.cv,K.cw];let a':N2:=ix [K.fr,K.cc,K.ca,K.cv,K.cw,K.ct];let R5:Ow:=[(K.r 0,ab (af (K.T 0) (K.ay 0)) (K.er 0)),(K.r 1,ab (af (K.T 1) (K.ay 1)) (K.er 1)),(K.r 2,ab (af (K.T 2) (K.ay 2)) (K.er 2)),(K.r 3,ab (af (K.T 3) (K.ay 3)) (K.er 3)),(K.r 4,ab (af (K.T 4) (K.ay 4)) (K.er 4))];have hC:K.C=[(K.cw,ai (some (.ref K.wl))),(K.ct,ai (some (.ref K.ta))),(K.ta,ab (au K.r) K.te),(K.rl,ab (ag (K.dG.map (aj 47)) K.dZ) K.re),(K.wl,ab (aE K.W K.τ) K.we)]++R5:=rfl;rw[hC];have zl:=(jL b1 b2 B w0 K.s K.pt ql qr qd K.T K.ay K.er K.te us av uT bH be ae a hK.hT hK.vk yO BC hw (frx:=none)).ev ([(K.cw,ai (some (.ref K.wl))),(K.rl,ab (ag (K.dG.map (aj 47)) K.dZ) K.re),(K.wl,ab (aE K.W K.τ) K.we)]++Y) x0;refine(iu (v:=(bk K.T av us).isEmpty) (P1:=fun v L=>∃ q hU eq x',v=.ref q∧L.Perm ([(q,ab (af (bk K.T av us) hU) eq)]++(K.F x' (some (ql,qr,qd)) (some bl)++[(bl,ab (af us uT) be),(K.ca,cR al),(al,ab (ag (av.map ao) bH) ae)]++([(K.cw,ai (some (.ref K.wl))),(K.ct,ai (some (.ref K.ta))),(K.ta,ab (au K.r) K.te),(K.rl,ab (ag (K.dG.map (aj 47)) K.dZ) K.re),(K.wl,ab (aE K.W K.τ) K.we)]++R5)++Y)))
  (P2:=fun v u L=>∃ q hU eq x' c,v=.ref q∧u=.ref c∧L.Perm ([(c,ab [] 0),(q,ab (af (bk K.T av us) hU) eq)]++(K.F x' (some (ql,qr,qd)) (some bl)++[(bl,ab (af us uT) be),(K.ca,cR al),(al,ab (ag (av.map ao) bH) ae)]++([(K.cw,ai (some (.ref K.wl))),(K.ct,ai (some (.ref K.ta))),(K.ta,ab (au K.r) K.te),(K.rl,ab (ag (K.dG.map (aj 47)) K.dZ) K.re),(K.wl,ab (aE K.W K.τ) K.we)]++R5)++Y))) (H3 w0) ?_ ?_ ?_).mono lr ?_
 ·refine(aM.perm zl ?_).mono (by omega) ?_
  ·show List.Perm _ (K.F x0 (some (ql,qr,qd)) (some bl)++([(bl,ab (af us uT) be),(K.ct,ai (some (.ref K.ta))),(K.ta,ab (au K.r) K.te),(K.ca,cR al),(al,ab (ag (av.map ao) bH) ae)]++R5)++([(K.cw,ai (some (.ref K.wl))),(K.rl,ab (ag (K.dG.map (aj 47)) K.dZ) K.re),(K.wl,ab (aE K.W K.τ) K.we)]++Y))
   exact pm [0,1,5,6,2,3,9,10,11,12,13,4,7,8,14]
  ·rintro v L ⟨b,g,x',rfl,rfl⟩
   refine⟨b 1,g 0,b 1000,x',rfl,?_⟩;show List.Perm (K.F x' (some (ql,qr,qd)) (some bl)++([(b 1,ab (af (bk K.T av us) (g 0)) (b 1000)),(bl,ab (af us uT) be),(K.ct,ai (some (.ref K.ta))),(K.ta,ab (au K.r) K.te),(K.ca,cR al),(al,ab (ag (av.map ao) bH) ae)]++R5)++([(K.cw,ai (some (.ref K.wl))),(K.rl,ab (ag (K.dG.map (aj 47)) K.dZ) K.re),(K.wl,ab (aE K.W K.τ) K.we)]++Y)) _;exact pm [1,0,2,5,6,12,3,4,13,14,7,8,9,10,11,15]
 ·rintro v L ⟨q,hU,eq,x',rfl,hL⟩
  have zr:=(jR b1 b2 B w0 a' (frx:=none)).ev L x';refine(aM.perm zr (by exact .refl _)).mono (by omega) ?_;rintro u L' ⟨b,g,cG,rfl,rfl⟩;refine⟨q,hU,eq,x',b 0,rfl,rfl,?_⟩;exact(hL.cons _)
 ·rintro v u L ⟨q,hU,eq,x',c,rfl,rfl,hL⟩ A s Fr size hA hD E Q hQ
  have:=hA.un;have gZ:=hD.perm (hL.append_right Fr);have e:(af (bk K.T av us) hU).isEmpty=(bk K.T av us).isEmpty:=by
   cases bk K.T av us<;>rfl
  rw[←e] at hQ;exact qg (e1:=eq) (e2:=0) (gZ.get (by simp) (fun _=>rfl)) (gZ.get (by simp) (fun _=>rfl)) (by omega) hQ
 ·rintro b L ⟨rfl,v,u,q,hU,eq,x',c,rfl,rfl,hL⟩
  refine⟨rfl,x',[(c,ab [] 0),(q,ab (af (bk K.T av us) hU) eq)],hL.trans ?_⟩;exact pm [2,3,4,5,6,7,8,9,10,11,12,13,14,15,16,0,1]
end
theorem aM.last {prog:Program}{w:WW}{aa:Heap}{lv:Nat}{fr:OE}{st:Stmt}{env:Env}{rs:Ow}{P:Flow→Ow→Prop}(h:aM prog w aa lv fr (exec st env) rs P):aM prog w aa lv fr (execs [st] env) rs P:=
 bF h fun f L hp=>by
  cases f with
  |next=>exact fD hp
  |brk=>exact hp
  |cont=>exact hp
  |ret v=>exact hp
section
variable (b1 b2:Bool){w:WW}{aa:Heap}(B:BB w aa b1 b2)
include B
theorem AP (w0:WW)(K:LK)(hK:mX K)(v c:Nat)(hv:v<5)(hc:c<5)(yC:c∈K.T v)(ql qr al:Nat)(qd:Int)(bn:ON)(bH:NT)(ae:Nat)(tv tc:Tok)(Y:Ow)(x0:Nat→Tk):
  pn w aa b1 b2 6 none (execs [i0 (wt w0)] (K.env w0))
   (K.F x0 (some (ql,qr,qd)) bn++[(K.cc,ai (some (.int c tc))),(K.ca,cR al),(al,ab (ag ((K.W v).dropLast.map ao) bH) ae),(K.cv,ai (some (.int v tv)))]++K.C++Y)
   (fun f L=>f=.next∧∃ x' PS Gb,L.Perm (K.F x' (some (ql,qr,qd+if eK K.T (List.range 5) K.W v c=true then 1 else 0)) PS++[(K.cc,ai (some (.int c tc))),(K.ca,cR al),(al,ab (ag ((K.W v).dropLast.map ao) bH) ae),(K.cv,ai (some (.int v tv)))]++K.C++Y++Gb)):=by
 let C1:Ow:=[(K.ct,ai (some (.ref K.ta))),(K.ta,ab (au K.r) K.te),(K.rl,ab (ag (K.dG.map (aj 47)) K.dZ) K.re)]++aA K.r K.T K.ay K.er;have hC:K.C.Perm ([(K.cw,ai (some (.ref K.wl))),(K.wl,ab (aE K.W K.τ) K.we)]++C1):=by
  show List.Perm ([(K.cw,ai (some (.ref K.wl))),(K.ct,ai (some (.ref K.ta))),(K.ta,ab (au K.r) K.te),(K.rl,ab (ag (K.dG.map (aj 47)) K.dZ) K.re),(K.wl,ab (aE K.W K.τ) K.we)]++aA K.r K.T K.ay K.er) ([(K.cw,ai (some (.ref K.wl))),(K.wl,ab (aE K.W K.τ) K.we)]++([(K.ct,ai (some (.ref K.ta))),(K.ta,ab (au K.r) K.te),(K.rl,ab (ag (K.dG.map (aj 47)) K.dZ) K.re)]++aA K.r K.T K.ay K.er));exact pm [0,4,1,2,3,5]
 have BJ:=fun p=>f6 hC p;refine aM.last ?_;rw[HY];let Y1:Ow:=K.F x0 (some (ql,qr,qd)) bn++[(K.ca,cR al),(al,ab (ag ((K.W v).dropLast.map ao) bH) ae)]++C1++Y;refine jT (P1:=fun b L=>b=decide ((K.W c).dropLast=K.W v)∧L.Perm ([(K.cc,ai (some (.int c tc))),(K.cv,ai (some (.int v tv))),(K.cw,ai (some (.ref K.wl))),(K.wl,ab (aE K.W K.τ) K.we)]++Y1)) ((aM.perm (AO b1 b2 B w0 K hK v c hv hc tv tc _ Y1 x0) ?_).mono (by omega) fun _ _ h=>h) ?_ ?_
 ·exact i' [5,0,1,2,3,4,6] [2,3,7,8,9,10,4,0,5,6,1,11] (cC BJ)
 ·rintro L ⟨hb,hL⟩
  have hd:(K.W c).dropLast=K.W v:=of_decide_eq_true hb.symm;let us:=(List.range 5).filter fun u=>decide (eY (K.W u) (K.W c)=K.W c);have yO:∀ u∈us,u<5:=fun u hu=>List.mem_range.mp (List.mem_filter.mp hu).1;have BC:us.length≤5:=by
   have:=List.length_filter_le (fun u=>decide (eY (K.W u) (K.W c)=K.W c)) (List.range 5);simpa using this
  have hw:∃ u∈us,K.T u≠[]:=⟨c,List.mem_filter.mpr ⟨List.mem_range.mpr hc,cT (qT _)⟩,fun e=>by
   have:=hK.pN v hv c yC;rw[e] at this;cases this⟩
  let a:N2:=ix [K.fr,K.cc,K.cw,K.wl,K.sc,K.ll,K.tl,K.rl,K.ca,K.cv,K.ct];let Y2:Ow:=[(K.ca,cR al),(al,ab (ag ((K.W v).dropLast.map ao) bH) ae),(K.cv,ai (some (.int v tv)))]++C1++Y;have zb:=(iB b1 b2 B w0 K.s K.pt ql qr qd bn K.W K.τ K.we c tc a hK.hW hc (frx:=none)).ro Y2 x0;refine bF (de ((aM.perm zb (hL.trans ?_)).mono (by omega) fun _ _ h=>h)) ?_
  ·show List.Perm _ (K.F x0 (some (ql,qr,qd)) bn++[(K.cc,ai (some (.int c tc))),(K.cw,ai (some (.ref K.wl))),(K.wl,ab (aE K.W K.τ) K.we)]++Y2)
   exact pm [4,0,2,3,5,6,1,7,8,9,10,11]
  ·rintro f L2 ⟨rfl,b,g,x1,rfl⟩
   show aM _ _ _ _ _ (execs [i1 (wt w0)] (K.env w0)) _ _;refine aM.last ?_;rw[HZ];let Y3:Ow:=[(K.cc,ai (some (.int c tc))),(K.cv,ai (some (.int v tv)))]++Y;have Jj:bk K.T (K.W v).dropLast us=tb K.T (List.range 5) K.W v c:=rfl;have z2:=yl b1 b2 B w0 K hK ql qr (b 4) al qd us (K.W v).dropLast (g 0) bH (b 1000) ae yO BC hw (eval (.Compare (jv (bj (i1 (wt w0)))) [.Eq] [gO (bj (i1 (wt w0)))] (qk (bj (i1 (wt w0))))) (K.env w0)) Y3 x1;refine jT ((aM.perm z2 ?_).mono (by omega) fun _ _ h=>h) ?_ ?_
   ·show List.Perm (K.F x1 (some (ql,qr,qd)) (some (b 4))++[(K.cc,ai (some (.int c tc))),(K.cw,ai (some (.ref K.wl))),(K.wl,ab (aE K.W K.τ) K.we),(b 4,ab (af us (g 0)) (b 1000))]++Y2) _
    exact i' [2,3,8,9,10,11,0,1,4,5,6,7,12] [4,0,5,1,2,3,6,7] ((cC BJ).symm)
   ·rintro L3 ⟨E0,x2,Gb,IC⟩
    have sq:eK K.T (List.range 5) K.W v c=true:=by
     unfold eK;rw[←Jj,Bool.and_eq_true];exact⟨cT hd,cT (List.isEmpty_iff.mp E0.symm)⟩
    let a2:N2:=ix [K.fr,K.sc,K.ll,K.tl,K.rl,b 4,K.cc,K.ca,K.cv,K.cw,K.ct];let Y4:Ow:=[(b 4,ab (af us (g 0)) (b 1000)),(K.ca,cR al),(al,ab (ag ((K.W v).dropLast.map ao) bH) ae)]++K.C++Y3++Gb;have zd:=(iD b1 b2 B w0 K.s K.pt ql qr qd (qd+1) a2 rfl (frx:=none)).ro Y4 x2;refine(aM.perm zd (IC.trans ?_)).mono (by omega) ?_
    ·show List.Perm _ (K.F x2 (some (ql,qr,qd)) (some (b 4))++[]++Y4)
     exact pm [0,1,2,3,4,5,6,7,8]
    ·rintro f L4 ⟨rfl,b',g',x3,rfl⟩
     refine⟨rfl,x3,some (b 4),[(b 4,ab (af us (g 0)) (b 1000))]++Gb,?_⟩;rw[if_pos sq];show List.Perm (K.F x3 (some (ql,qr,qd+1)) (some (b 4))++[]++Y4) _;exact pm [0,5,2,3,6,4,7,1,8]
   ·rintro L3 ⟨E0,x2,Gb,IC⟩
    have sq:¬ eK K.T (List.range 5) K.W v c=true:=by
     unfold eK;rw[←Jj,Bool.and_eq_true];rintro⟨_,h2⟩;have h2:=of_decide_eq_true h2;rw[h2] at E0;cases E0
    refine fD ⟨rfl,x2,some (b 4),[(b 4,ab (af us (g 0)) (b 1000))]++Gb,?_⟩;rw[if_neg sq,Int.add_zero];refine IC.trans ?_;exact pm [0,5,2,3,6,4,7,1,8]
 ·rintro L ⟨hb,hL⟩
  have hd:¬ (K.W c).dropLast=K.W v:=of_decide_eq_false hb.symm;have sq:¬ eK K.T (List.range 5) K.W v c=true:=by
   unfold eK;rw[Bool.and_eq_true];rintro⟨h1,_⟩;exact hd (of_decide_eq_true h1)
  refine fD ⟨rfl,x0,bn,[],?_⟩;rw[if_neg sq,Int.add_zero];refine hL.trans (cC fun p=>?_);have:=BJ p;simp only[Y1,f5,cnt_cons,cnt_nil,Nat.add_zero] at this ⊢
  (first|exact MR this (by ac_rfl)|exact MR this.symm (by ac_rfl))
end
theorem AQ (w0:WW)(it fr cc ca cv cw ct:Nat):cH (wt w0) [10,4] it fr cc ca cv cw ct=.forLoop (dQ (f4 (wt w0))) (.ref it) [i0 (wt w0)] [] (aK (wt w0) fr cc ca cv cw ct):=by kernel_rfl
section
variable (b1 b2:Bool){w:WW}{aa:Heap}(B:BB w aa b1 b2)
include B
def Jk (K:LK)(v ql qr al it:Nat)(qd:Int)(bH:NT)(ae:Nat)(tv:Tok)(Y:Ow)(i:Nat)(L:Ow):Prop:=
 ∃ x bn oc Gb,L.Perm (K.F x (some (ql,qr,qd+(j4 K v i:Nat))) bn++[(it,aq (K.r v) i),(K.cc,ai oc),(K.ca,cR al),(al,ab (ag ((K.W v).dropLast.map ao) bH) ae),(K.cv,ai (some (.int v tv)))]++K.C++Y++Gb)
theorem AR (w0:WW)(K:LK)(hK:mX K)(v:Nat)(hv:v<5)(ql qr al it:Nat)(qd:Int)(bH:NT)(ae:Nat)(tv:Tok)(Y:Ow){L:Ow}(hL:Jk K v ql qr al it qd bH ae tv Y 0 L):
  gh w aa b1 b2 6 none (.forLoop (dQ (f4 (wt w0))) (.ref it) [i0 (wt w0)] [] (K.env w0)) L
   (fun r L=>∃ f,r=.ok f∧f=.next∧∃ x bn oc Gb,L.Perm (K.F x (some (ql,qr,qd+(j4 K v (K.T v).length:Nat))) bn++[(K.cc,ai oc),(K.ca,cR al),(al,ab (ag ((K.W v).dropLast.map ao) bH) ae),(K.cv,ai (some (.int v tv)))]++K.C++Y++Gb)):=by
 obtain⟨Z,hZ⟩:=rf K.r K.T K.ay K.er v hv;let C0:Ow:=[(K.cw,ai (some (.ref K.wl))),(K.ct,ai (some (.ref K.ta))),(K.ta,ab (au K.r) K.te),(K.rl,ab (ag (K.dG.map (aj 47)) K.dZ) K.re),(K.wl,ab (aE K.W K.τ) K.we)]++Z;have hC:K.C.Perm ((K.r v,ab (af (K.T v) (K.ay v)) (K.er v))::C0):=by
  have:=hZ.append_left [(K.cw,ai (some (.ref K.wl))),(K.ct,ai (some (.ref K.ta))),(K.ta,ab (au K.r) K.te),(K.rl,ab (ag (K.dG.map (aj 47)) K.dZ) K.re),(K.wl,ab (aE K.W K.τ) K.we)];exact this.trans List.perm_middle
 have BJ:=fun p=>f6 hC p;refine bw (K.T v).length (Jk K v ql qr al it qd bH ae tv Y) ?_ ?_ (bZ _) hL
 ·rintro i L hi ⟨x,bn,oc,Gb,hL⟩ ih
  have hx:=cf (K.T v) (K.ay v) i _ (cy hi);have yC:(K.T v)[i]∈K.T v:=List.getElem_mem hi;have hc:(K.T v)[i]<5:=hK.vk v hv _ yC;let Y1:Ow:=K.F x (some (ql,qr,qd+(j4 K v i:Nat))) bn++[(K.ca,cR al),(al,ab (ag ((K.W v).dropLast.map ao) bH) ae),(K.cv,ai (some (.int v tv)))]++C0++Y++Gb;let a:N2:=ix [K.cc,K.fr,K.ca,K.cv,K.cw,K.ct];refine aJ.perm (qW (l:=K.r v) (e:=K.er v) (Z:=[(K.cc,ai oc)]++Y1) (PA:=fun L=>L.Perm ([(K.cc,ai (some (.int (K.T v)[i] (K.ay v i))))]++((it,aq (K.r v) (i+1))::(K.r v,ab (af (K.T v) (K.ay v)) (K.er v))::Y1))) (Dz w0) hx ?_ ?_) (hL.trans ?_)
  ·have za:=(iA b1 b2 B w0 (K.T v)[i] (K.ay v i) oc a (frx:=none)).asg ((it,aq (K.r v) (i+1))::(K.r v,ab (af (K.T v) (K.ay v)) (K.er v))::Y1) x
   refine(aM.perm za ?_).mono (by omega) ?_
   ·show List.Perm _ (rt [] x++[(K.cc,ai oc)]++((it,aq (K.r v) (i+1))::(K.r v,ab (af (K.T v) (K.ay v)) (K.er v))::Y1))
    exact pm [2,0,1,3,4,5,6,7,8,9,10,11,12,13,14]
   ·rintro _ L ⟨b,g,x',rfl⟩
    show List.Perm (rt [] x'++[(K.cc,ai (some (.int (K.T v)[i] (K.ay v i))))]++((it,aq (K.r v) (i+1))::(K.r v,ab (af (K.T v) (K.ay v)) (K.er v))::Y1)) _;exact pm [0,1,2,3,4,5,6,7,8,9,10,11,12,13,14]
  ·intro L Mq
   have zb:=AP b1 b2 B w0 K hK v (K.T v)[i] hv hc yC ql qr al (qd+(j4 K v i:Nat)) bn bH ae tv (K.ay v i) ([(it,aq (K.r v) (i+1))]++Y++Gb) x;refine(aM.perm zb (Mq.trans ?_)).mono lr ?_
   ·exact i' [2,7,8,9,10,11,12,0,1,3,4,5,6,13,14] [5,1,6,0,2,3,4,7,8] ((cC BJ).symm)
   ·rintro f L2 ⟨rfl,x2,BK,uk,wD⟩
    refine ih L2 (show Jk K v ql qr al it qd bH ae tv Y (i+1) L2 from⟨x2,BK,some (.int (K.T v)[i] (K.ay v i)),Gb++uk,wD.trans ?_⟩);have e:qd+(j4 K v (i+1):Nat)=qd+(j4 K v i:Nat)+(if eK K.T (List.range 5) K.W v (K.T v)[i]=true then 1 else 0):=by
     rw[uV K v i hi];split<;>omega
    rw[e];exact pm [0,6,1,2,3,4,5,7,8,9]
  ·exact i' [6,0,1,2,3,4,5,7,8] [1,7,8,9,10,11,12,3,0,2,4,5,6,13,14] (cC BJ)
 ·rintro L ⟨x,bn,oc,Gb,hL⟩
  let a:N2:=ix [it,K.r v,K.fr,K.cc,K.ca,K.cv,K.cw,K.ct];let Y1:Ow:=K.F x (some (ql,qr,qd+(j4 K v (K.T v).length:Nat))) bn++[(K.cc,ai oc),(K.ca,cR al),(al,ab (ag ((K.W v).dropLast.map ao) bH) ae),(K.cv,ai (some (.int v tv)))]++C0++Y++Gb;have z:=(iE b1 b2 B w0 (af (K.T v) (K.ay v)) (K.T v).length (K.er v) a (cF _ _ _ (eU lr)) (frx:=none)).use Y1 (fun _=>0) x;have e:=AQ w0 it K.fr K.cc K.ca K.cv K.cw K.ct;have z:gh w aa b1 b2 2 none (.forLoop (dQ (f4 (wt w0))) (.ref it) [i0 (wt w0)] [] (K.env w0)) (rt [] x++[(it,aq (K.r v) (K.T v).length),(K.r v,ab (af (K.T v) (K.ay v)) (K.er v))]++Y1)
    (fun r L=>∃ (b:N2)(f:Nat→Nat→Nat)(x':Nat→Tk),nU true r=.ok .next∧L=rt [] x'++[(K.r v,ab (af (K.T v) (K.ay v)) (K.er v))]++Y1):=by
   rw[show K.env w0=aK (wt w0) K.fr K.cc K.ca K.cv K.cw K.ct from rfl,←e];exact z
  refine(aJ.perm z (hL.trans ?_)).mono (by omega) ?_
  ·exact i' [6,0,1,2,3,4,5,7,8] [1,7,8,9,10,11,12,2,0,3,4,5,6,13,14] (cC BJ)
  ·rintro r L ⟨b,g,x',hr,rfl⟩
   refine⟨.next,hr,rfl,x,bn,oc,Gb,?_⟩;exact i' [0,6,7,8,9,10,11,1,2,3,4,5,12,13] [5,0,1,2,3,4,6,7] ((cC BJ).symm)
theorem ID (w0:WW)(K:LK)(hK:mX K)(v:Nat)(hv:v<5)(ql qr al:Nat)(qd:Int)(bn:ON)(oc:OV)(bH:NT)(ae:Nat)(tv:Tok)(Y:Ow)(x0:Nat→Tk):
  pn w aa b1 b2 6 none (exec (f4 (wt w0)) (K.env w0)) (K.F x0 (some (ql,qr,qd)) bn++[(K.cc,ai oc),(K.ca,cR al),(al,ab (ag ((K.W v).dropLast.map ao) bH) ae),(K.cv,ai (some (.int v tv)))]++K.C++Y)
   (fun f L=>f=.next∧∃ x bn oc Gb,L.Perm (K.F x (some (ql,qr,qd+((K.T v).filter (eK K.T (List.range 5) K.W v)).length)) bn++[(K.cc,ai oc),(K.ca,cR al),(al,ab (ag ((K.W v).dropLast.map ao) bH) ae),(K.cv,ai (some (.int v tv)))]++K.C++Y++Gb)):=by
 obtain⟨Z,hZ⟩:=rf K.r K.T K.ay K.er v hv;have M6:=fun p=>f6 hZ p;rw[HX];let a:N2:=ix [K.cv,K.ct,K.ta,K.fr,K.r v,K.cc,K.ca,K.cw];let Y1:Ow:=K.F x0 (some (ql,qr,qd)) bn++[(K.cc,ai oc),(K.ca,cR al),(al,ab (ag ((K.W v).dropLast.map ao) bH) ae)]++[(K.cw,ai (some (.ref K.wl))),(K.rl,ab (ag (K.dG.map (aj 47)) K.dZ) K.re),(K.wl,ab (aE K.W K.τ) K.we)]++aA K.r K.T K.ay K.er++Y;have zi:=(iI b1 b2 B w0 v K.te tv (au K.r) a (by omega) (cj K.r v hv) (frx:=none)).ev Y1 x0;refine xF (H4 w0 _) ((aM.perm zi ?_).mono (by omega) fun _ _ h=>h) (P2:=fun u L=>∃ it,u=.ref it∧Jk K v ql qr al it qd bH ae tv Y 0 L) ?_ ?_
 ·show List.Perm _ (rt [] x0++[(K.cv,ai (some (.int v tv))),(K.ct,ai (some (.ref K.ta))),(K.ta,ab (au K.r) K.te)]++Y1)
  refine cC fun p=>?_;simp only[Y1,LK.C,show rt [] x0=[] from rfl,f5,cnt_cons,cnt_nil,Nat.add_zero]
  ac_rfl
 ·rintro u L ⟨b,g,x',rfl,rfl⟩
  let Z1:Ow:=K.F x0 (some (ql,qr,qd)) bn++[(K.cc,ai oc),(K.ca,cR al),(al,ab (ag ((K.W v).dropLast.map ao) bH) ae)]++[(K.cw,ai (some (.ref K.wl))),(K.rl,ab (ag (K.dG.map (aj 47)) K.dZ) K.re),(K.wl,ab (aE K.W K.τ) K.we)]++[(K.cv,ai (some (.int v tv))),(K.ct,ai (some (.ref K.ta))),(K.ta,ab (au K.r) K.te)]++Z++Y;refine(aM.perm (nH (l:=K.r v) (vs:=af (K.T v) (K.ay v)) (e:=K.er v) (Z:=Z1)) ?_).mono lr ?_
  ·show List.Perm (rt [] x'++[(K.cv,ai (some (.int v tv))),(K.ct,ai (some (.ref K.ta))),(K.ta,ab (au K.r) K.te)]++Y1) _
   exact i' [10,0,1,2,3,4,5,6,7,8,9,11] [0,11,8,9,10,1,2,3,4,5,6,7,12] (cC M6)
  ·rintro u L ⟨it,rfl,rfl⟩
   refine⟨it,rfl,x0,bn,oc,[],?_⟩;rw[show qd+(j4 K v 0:Nat)=qd by unfold j4;simp];refine cC fun p=>?_;have:=M6 p;simp only[Z1,LK.C,f5,cnt_cons,cnt_nil] at this ⊢;omega
 ·rintro u L ⟨it,rfl,hL⟩
  refine(AR b1 b2 B w0 K hK v hv ql qr al it qd bH ae tv Y hL).mono lr ?_;rintro r L ⟨f,rfl,rfl,x,bn,oc,Gb,hL⟩;refine⟨.next,rfl,rfl,x,bn,oc,Gb,?_⟩;rw[show j4 K v (K.T v).length=((K.T v).filter (eK K.T (List.range 5) K.W v)).length by unfold j4;rw[List.take_length]] at hL;exact hL
def IE (ww:WW)(w0:WW)(s:SO)(pt:Str)(oc oa:OV)(v:Nat)(tv:Tok)(Tt:Nat→List Nat)(ay:Nat→Nat→Tok)(er:N2)(te:Nat)(rv wv:LV)(re we d0:Nat)(ds p:LN)(tp:Tok)(out:List LN)(du:Int)(a:N2):SX (Sem Fin) Result:=⟨toF (bu [eQ (wt w0) [10] 0,eQ (wt w0) [10] 1,eQ (wt w0) [10] 2,eQ (wt w0) [10] 3] (aK (wt w0) (a 0) (a 1) (a 2) (a 3) (a 4) (a 5))),[(a 0,ah (fL (a 14) (a 15) (a 16) (a 12) pt s none none))],[(a 1,ai oc),(a 2,ai oa),(a 3,ai (some (.int v tv))),(a 4,cR (a 13)),(a 5,cR (a 6)),(a 6,ab [.ref (a 7),.ref (a 8),.ref (a 9),.ref (a 10),.ref (a 11)] te),(a 7,ab (af (Tt 0) (ay 0)) (er 0)),(a 8,ab (af (Tt 1) (ay 1)) (er 1)),(a 9,ab (af (Tt 2) (ay 2)) (er 2)),(a 10,ab (af (Tt 3) (ay 3)) (er 3)),(a 11,ab (af (Tt 4) (ay 4)) (er 4)),(a 12,ab rv re),(a 13,ab wv we)],fun b f=> .ok .next,fun b f=>[(a 0,ah (fL (a 14) (a 15) (a 16) (a 12) pt s (some ((b 1),(b 20),du)) none))],fun b f=>[(b 1,ab [.ref (b 2),.ref (b 3),.ref (b 4),.ref (b 5),.ref (b 6)] (b 1000)),(b 2,ab (af ((Tt 0).filter fun d=>decide (d≠v)) (f 0)) (b 1001)),(b 3,ab (af ((Tt 1).filter fun d=>decide (d≠v)) (f 1)) (b 1002)),(b 4,ab (af ((Tt 2).filter fun d=>decide (d≠v)) (f 2)) (b 1003)),(b 5,ab (af ((Tt 3).filter fun d=>decide (d≠v)) (f 3)) (b 1004)),(b 6,ab (af ((Tt 4).filter fun d=>decide (d≠v)) (f 4)) (b 1005)),(a 1,ai oc),(a 2,cR (b 21)),(a 3,ai (some (.int v tv))),(a 4,cR (a 13)),(a 5,cR (a 6)),(a 6,ab [.ref (a 7),.ref (a 8),.ref (a 9),.ref (a 10),.ref (a 11)] te),(a 7,ab (af (Tt 0) (ay 0)) (er 0)),(a 8,ab (af (Tt 1) (ay 1)) (er 1)),(a 9,ab (af (Tt 2) (ay 2)) (er 2)),(a 10,ab (af (Tt 3) (ay 3)) (er 3)),(a 11,ab (af (Tt 4) (ay 4)) (er 4)),(a 12,ab rv re),(a 13,ab wv we),(b 20,ab (ag (out.map P) (f 5)) (b 1006)),(b 21,ab (ag (p.dropLast.map ao) (f 6)) 0)]⟩
def EC (ww:WW)(w0:WW)(s:SO)(pt:Str)(oc oa:OV)(v:Nat)(tv:Tok)(Tt:Nat→List Nat)(ay:Nat→Nat→Tok)(er:N2)(te:Nat)(rv wv:LV)(re we d0:Nat)(ds p:LN)(tp:Tok)(out:List LN)(du:Int)(a:N2):List Env:=[aK ww (a 0) (a 1) (a 2) (a 3) (a 4) (a 5)]
theorem Mr (w0:WW)(s:SO)(pt:Str)(oc oa:OV)(v:Nat)(tv:Tok)(Tt:Nat→List Nat)(ay:Nat→Nat→Tok)(er:N2)(te:Nat)(rv wv:LV)(re we d0:Nat)(ds p:LN)(tp:Tok)(out:List LN)(du:Int)(a:N2)(hT:∀ k<5,(Tt k).length≤100)(hv:v<1000)(hl:((List.range 5).filter fun d=>decide (d≠v))=d0::ds)(cJ:∀ x∈d0::ds,x<5)(hlen:(d0::ds).length≤100)(hw:cU (fun k=>(Tt k).filter fun d=>decide (d≠v)) [] (d0::ds) [] out)(fM:out.length≤900)(uW:rv.length≤1000)(pQ:wv[v]?=some (.str (aj 47 p) tp)) (nY:(!(Builtin.Str.occurrences (aj 47 p) (S [47]) 0 (aj 47 p).length 1).isEmpty)=false) (ED:(rv.length:Int)-1=du) (hp:p≠[]) (e9:∀ d∈p,d<5) (ee:p.length≤100) (ie:∀ τ,(slicePick ⟨ag (p.map ao) τ⟩ none (some (-1)) none).toList=ag (p.dropLast.map ao) τ) (nt:∀ τ,(ag (p.map ao) τ).length≤1000):hH pw (wd w b1 b2) aa 9 (some (EC (wd w b1 b2) w0 s pt oc oa v tv Tt ay er te rv wv re we d0 ds p tp out du a)) true (IE (wd w b1 b2) w0 s pt oc oa v tv Tt ay er te rv wv re we d0 ds p tp out du a):=
 gJ B aO.refl (ol 0x677b7b1 (.ud [0,1,0,6,3,5,5,5,5,5] (Az B w0 Tt hT ay v tv) (fun u0=>(ol 0x6f6f111a6faabbbb11b1b111b1b1111 (.ud [0,1,0,4] (tx B w0 v tv (d0::ds) hl) (fun u1=>(ol 0x111a (.u [1,4,10,10,10,10,10,10,10,10,1,9,9] (mW B d0 ds cJ hlen hw fM ((u1.u).f 0) ((u0.u).f))::(ol 0x99aa9b (.u [23] (lW rv uW)::(ol 0x5f4f (.o 24::(.o 24::(.o 24::(.u [24] (aY wv v (.str (aj 47 p) tp) hv pQ)::(.u [] (vg (aj 47 p) (S [47]) false nY)::(.u [] (tw rv.length 1 du ED)::(ol 0x2f2f6f5f111 (.u [0] (aY wv v (.str (aj 47 p) tp) hv pQ)::(.ud [] (bX p hp e9 ee) (fun u8=>(ol 0xbb222 (.u [0,0] (gj (ag (p.map ao) ((u8.u).f 0)) (ag (p.dropLast.map ao) ((u8.u).f 0)) none (some (-1)) none (by decide) (ie _) (nt _))::(ol 0xb6f6f []))))::[])))))))))))))))::[])))::[])) (fe [(5,1),(5,12),(5,13),(5,14),(5,15),(5,16),(27,2)]) (oP [(5,0),(5,1),(5,2),(5,3),(5,4),(27,0),(48,0)]) [12,6,6,6,6,6,6,6,6,6,6,6,9,9,9,9,9,9,3,2,2,0] 5 1 (fun _ _ _ h=>nomatch h) fun x X Fr=>by revert b1 b2 s;exact d4 (by kernel_rfl)
def IF (ww:WW)(w0:WW)(s:SO)(pt:Str)(oc oa:OV)(v:Nat)(tv:Tok)(Tt:Nat→List Nat)(ay:Nat→Nat→Tok)(er:N2)(te:Nat)(rv wv:LV)(re we d0:Nat)(ds p:LN)(tp:Tok)(out:List LN)(du:Int)(a:N2):SX (Sem Fin) Result:=⟨toF (bu [eQ (wt w0) [10] 0,eQ (wt w0) [10] 1,eQ (wt w0) [10] 2,eQ (wt w0) [10] 3] (aK (wt w0) (a 0) (a 1) (a 2) (a 3) (a 4) (a 5))),[(a 0,ah (fL (a 14) (a 15) (a 16) (a 12) pt s none none))],[(a 1,ai oc),(a 2,ai oa),(a 3,ai (some (.int v tv))),(a 4,cR (a 13)),(a 5,cR (a 6)),(a 6,ab [.ref (a 7),.ref (a 8),.ref (a 9),.ref (a 10),.ref (a 11)] te),(a 7,ab (af (Tt 0) (ay 0)) (er 0)),(a 8,ab (af (Tt 1) (ay 1)) (er 1)),(a 9,ab (af (Tt 2) (ay 2)) (er 2)),(a 10,ab (af (Tt 3) (ay 3)) (er 3)),(a 11,ab (af (Tt 4) (ay 4)) (er 4)),(a 12,ab rv re),(a 13,ab wv we)],fun b f=> .ok .next,fun b f=>[(a 0,ah (fL (a 14) (a 15) (a 16) (a 12) pt s (some ((b 1),(b 20),du)) none))],fun b f=>[(b 1,ab [.ref (b 2),.ref (b 3),.ref (b 4),.ref (b 5),.ref (b 6)] (b 1000)),(b 2,ab (af ((Tt 0).filter fun d=>decide (d≠v)) (f 0)) (b 1001)),(b 3,ab (af ((Tt 1).filter fun d=>decide (d≠v)) (f 1)) (b 1002)),(b 4,ab (af ((Tt 2).filter fun d=>decide (d≠v)) (f 2)) (b 1003)),(b 5,ab (af ((Tt 3).filter fun d=>decide (d≠v)) (f 3)) (b 1004)),(b 6,ab (af ((Tt 4).filter fun d=>decide (d≠v)) (f 4)) (b 1005)),(a 1,ai oc),(a 2,cR (b 21)),(a 3,ai (some (.int v tv))),(a 4,cR (a 13)),(a 5,cR (a 6)),(a 6,ab [.ref (a 7),.ref (a 8),.ref (a 9),.ref (a 10),.ref (a 11)] te),(a 7,ab (af (Tt 0) (ay 0)) (er 0)),(a 8,ab (af (Tt 1) (ay 1)) (er 1)),(a 9,ab (af (Tt 2) (ay 2)) (er 2)),(a 10,ab (af (Tt 3) (ay 3)) (er 3)),(a 11,ab (af (Tt 4) (ay 4)) (er 4)),(a 12,ab rv re),(a 13,ab wv we),(b 20,ab (ag (out.map P) (f 5)) (b 1006)),(b 21,ab (ag (p.dropLast.map ao) (f 6)) 0)]⟩
def EE (ww:WW)(w0:WW)(s:SO)(pt:Str)(oc oa:OV)(v:Nat)(tv:Tok)(Tt:Nat→List Nat)(ay:Nat→Nat→Tok)(er:N2)(te:Nat)(rv wv:LV)(re we d0:Nat)(ds p:LN)(tp:Tok)(out:List LN)(du:Int)(a:N2):List Env:=[aK ww (a 0) (a 1) (a 2) (a 3) (a 4) (a 5)]
theorem Ms (w0:WW)(s:SO)(pt:Str)(oc oa:OV)(v:Nat)(tv:Tok)(Tt:Nat→List Nat)(ay:Nat→Nat→Tok)(er:N2)(te:Nat)(rv wv:LV)(re we d0:Nat)(ds p:LN)(tp:Tok)(out:List LN)(du:Int)(a:N2)(hT:∀ k<5,(Tt k).length≤100)(hv:v<1000)(hl:((List.range 5).filter fun d=>decide (d≠v))=d0::ds)(cJ:∀ x∈d0::ds,x<5)(hlen:(d0::ds).length≤100)(hw:cU (fun k=>(Tt k).filter fun d=>decide (d≠v)) [] (d0::ds) [] out)(fM:out.length≤900)(uW:rv.length≤1000)(pQ:wv[v]?=some (.str (aj 47 p) tp)) (nY:(!(Builtin.Str.occurrences (aj 47 p) (S [47]) 0 (aj 47 p).length 1).isEmpty)=true) (ED:(rv.length:Int)-0=du) (hp:p≠[]) (e9:∀ d∈p,d<5) (ee:p.length≤100) (ie:∀ τ,(slicePick ⟨ag (p.map ao) τ⟩ none (some (-1)) none).toList=ag (p.dropLast.map ao) τ) (nt:∀ τ,(ag (p.map ao) τ).length≤1000):hH pw (wd w b1 b2) aa 9 (some (EE (wd w b1 b2) w0 s pt oc oa v tv Tt ay er te rv wv re we d0 ds p tp out du a)) true (IF (wd w b1 b2) w0 s pt oc oa v tv Tt ay er te rv wv re we d0 ds p tp out du a):=
 gJ B aO.refl (ol 0x677b7b1 (.ud [0,1,0,6,3,5,5,5,5,5] (Az B w0 Tt hT ay v tv) (fun u0=>(ol 0x6f6f111a6faabbbb11b1b111b1b1111 (.ud [0,1,0,4] (tx B w0 v tv (d0::ds) hl) (fun u1=>(ol 0x111a (.u [1,4,10,10,10,10,10,10,10,10,1,9,9] (mW B d0 ds cJ hlen hw fM ((u1.u).f 0) ((u0.u).f))::(ol 0x99aa9b (.u [23] (lW rv uW)::(ol 0x5f4f (.o 24::(.o 24::(.o 24::(.u [24] (aY wv v (.str (aj 47 p) tp) hv pQ)::(.u [] (vg (aj 47 p) (S [47]) true nY)::(.u [] (tw rv.length 0 du ED)::(ol 0x2f2f6f5f111 (.u [0] (aY wv v (.str (aj 47 p) tp) hv pQ)::(.ud [] (bX p hp e9 ee) (fun u8=>(ol 0xbb222 (.u [0,0] (gj (ag (p.map ao) ((u8.u).f 0)) (ag (p.dropLast.map ao) ((u8.u).f 0)) none (some (-1)) none (by decide) (ie _) (nt _))::(ol 0xb6f6f []))))::[])))))))))))))))::[])))::[])) (fe [(5,1),(5,12),(5,13),(5,14),(5,15),(5,16),(27,2)]) (oP [(5,0),(5,1),(5,2),(5,3),(5,4),(27,0),(48,0)]) [12,6,6,6,6,6,6,6,6,6,6,6,9,9,9,9,9,9,3,2,2,0] 5 1 (fun _ _ _ h=>nomatch h) fun x X Fr=>by revert b1 b2 s;exact d4 (by kernel_rfl)
def IG (ww:WW)(w0:WW)(s:SO)(pt:Str)(ql qr:Nat)(qd:Int)(bn:ON)(oc oa:OV)(v:Nat)(tv:Tok)(Tt:Nat→List Nat)(ay:Nat→Nat→Tok)(er:N2)(te:Nat)(rv wv:LV)(re we d0:Nat)(ds p:LN)(tp:Tok)(out:List LN)(du:Int)(a:N2):SX (Sem Fin) Result:=⟨toF (bu [eQ (wt w0) [10] 0,eQ (wt w0) [10] 1,eQ (wt w0) [10] 2,eQ (wt w0) [10] 3] (aK (wt w0) (a 0) (a 1) (a 2) (a 3) (a 4) (a 5))),[(a 0,ah (fL (a 14) (a 15) (a 16) (a 12) pt s (some (ql,qr,qd)) bn))],[(a 1,ai oc),(a 2,ai oa),(a 3,ai (some (.int v tv))),(a 4,cR (a 13)),(a 5,cR (a 6)),(a 6,ab [.ref (a 7),.ref (a 8),.ref (a 9),.ref (a 10),.ref (a 11)] te),(a 7,ab (af (Tt 0) (ay 0)) (er 0)),(a 8,ab (af (Tt 1) (ay 1)) (er 1)),(a 9,ab (af (Tt 2) (ay 2)) (er 2)),(a 10,ab (af (Tt 3) (ay 3)) (er 3)),(a 11,ab (af (Tt 4) (ay 4)) (er 4)),(a 12,ab rv re),(a 13,ab wv we)],fun b f=> .ok .next,fun b f=>[(a 0,ah (fL (a 14) (a 15) (a 16) (a 12) pt s (some ((b 1),(b 20),du)) bn))],fun b f=>[(b 1,ab [.ref (b 2),.ref (b 3),.ref (b 4),.ref (b 5),.ref (b 6)] (b 1000)),(b 2,ab (af ((Tt 0).filter fun d=>decide (d≠v)) (f 0)) (b 1001)),(b 3,ab (af ((Tt 1).filter fun d=>decide (d≠v)) (f 1)) (b 1002)),(b 4,ab (af ((Tt 2).filter fun d=>decide (d≠v)) (f 2)) (b 1003)),(b 5,ab (af ((Tt 3).filter fun d=>decide (d≠v)) (f 3)) (b 1004)),(b 6,ab (af ((Tt 4).filter fun d=>decide (d≠v)) (f 4)) (b 1005)),(a 1,ai oc),(a 2,cR (b 21)),(a 3,ai (some (.int v tv))),(a 4,cR (a 13)),(a 5,cR (a 6)),(a 6,ab [.ref (a 7),.ref (a 8),.ref (a 9),.ref (a 10),.ref (a 11)] te),(a 7,ab (af (Tt 0) (ay 0)) (er 0)),(a 8,ab (af (Tt 1) (ay 1)) (er 1)),(a 9,ab (af (Tt 2) (ay 2)) (er 2)),(a 10,ab (af (Tt 3) (ay 3)) (er 3)),(a 11,ab (af (Tt 4) (ay 4)) (er 4)),(a 12,ab rv re),(a 13,ab wv we),(b 20,ab (ag (out.map P) (f 5)) (b 1006)),(b 21,ab (ag (p.dropLast.map ao) (f 6)) 0)]⟩
def EF (ww:WW)(w0:WW)(s:SO)(pt:Str)(ql qr:Nat)(qd:Int)(bn:ON)(oc oa:OV)(v:Nat)(tv:Tok)(Tt:Nat→List Nat)(ay:Nat→Nat→Tok)(er:N2)(te:Nat)(rv wv:LV)(re we d0:Nat)(ds p:LN)(tp:Tok)(out:List LN)(du:Int)(a:N2):List Env:=[aK ww (a 0) (a 1) (a 2) (a 3) (a 4) (a 5)]
theorem Mt (w0:WW)(s:SO)(pt:Str)(ql qr:Nat)(qd:Int)(bn:ON)(oc oa:OV)(v:Nat)(tv:Tok)(Tt:Nat→List Nat)(ay:Nat→Nat→Tok)(er:N2)(te:Nat)(rv wv:LV)(re we d0:Nat)(ds p:LN)(tp:Tok)(out:List LN)(du:Int)(a:N2)(hT:∀ k<5,(Tt k).length≤100)(hv:v<1000)(hl:((List.range 5).filter fun d=>decide (d≠v))=d0::ds)(cJ:∀ x∈d0::ds,x<5)(hlen:(d0::ds).length≤100)(hw:cU (fun k=>(Tt k).filter fun d=>decide (d≠v)) [] (d0::ds) [] out)(fM:out.length≤900)(uW:rv.length≤1000)(pQ:wv[v]?=some (.str (aj 47 p) tp)) (nY:(!(Builtin.Str.occurrences (aj 47 p) (S [47]) 0 (aj 47 p).length 1).isEmpty)=false) (ED:(rv.length:Int)-1=du) (hp:p≠[]) (e9:∀ d∈p,d<5) (ee:p.length≤100) (ie:∀ τ,(slicePick ⟨ag (p.map ao) τ⟩ none (some (-1)) none).toList=ag (p.dropLast.map ao) τ) (nt:∀ τ,(ag (p.map ao) τ).length≤1000):hH pw (wd w b1 b2) aa 9 (some (EF (wd w b1 b2) w0 s pt ql qr qd bn oc oa v tv Tt ay er te rv wv re we d0 ds p tp out du a)) true (IG (wd w b1 b2) w0 s pt ql qr qd bn oc oa v tv Tt ay er te rv wv re we d0 ds p tp out du a):=
 gJ B aO.refl (ol 0x677b7b1 (.ud [0,1,0,6,3,5,5,5,5,5] (Az B w0 Tt hT ay v tv) (fun u0=>(ol 0x6f6f111a6faabbbb11b1b111b1b1111 (.ud [0,1,0,4] (tx B w0 v tv (d0::ds) hl) (fun u1=>(ol 0x111a (.u [1,4,10,10,10,10,10,10,10,10,1,9,9] (mW B d0 ds cJ hlen hw fM ((u1.u).f 0) ((u0.u).f))::(ol 0x99aa9b (.u [23] (lW rv uW)::(ol 0x5f4f (.o 24::(.o 24::(.o 24::(.u [24] (aY wv v (.str (aj 47 p) tp) hv pQ)::(.u [] (vg (aj 47 p) (S [47]) false nY)::(.u [] (tw rv.length 1 du ED)::(ol 0x2f2f6f5f111 (.u [0] (aY wv v (.str (aj 47 p) tp) hv pQ)::(.ud [] (bX p hp e9 ee) (fun u8=>(ol 0xbb222 (.u [0,0] (gj (ag (p.map ao) ((u8.u).f 0)) (ag (p.dropLast.map ao) ((u8.u).f 0)) none (some (-1)) none (by decide) (ie _) (nt _))::(ol 0xb6f6f []))))::[])))))))))))))))::[])))::[])) (fe [(5,1),(5,12),(5,13),(5,14),(5,15),(5,16),(27,2)]) (oP [(5,0),(5,1),(5,2),(5,3),(5,4),(27,0),(48,0)]) [12,6,6,6,6,6,6,6,6,6,6,6,9,9,9,9,9,9,3,2,2,0] 5 1 (fun _ _ _ h=>nomatch h) fun x X Fr=>by revert b1 b2 s bn;exact Gx (by kernel_rfl)
def II (ww:WW)(w0:WW)(s:SO)(pt:Str)(ql qr:Nat)(qd:Int)(bn:ON)(oc oa:OV)(v:Nat)(tv:Tok)(Tt:Nat→List Nat)(ay:Nat→Nat→Tok)(er:N2)(te:Nat)(rv wv:LV)(re we d0:Nat)(ds p:LN)(tp:Tok)(out:List LN)(du:Int)(a:N2):SX (Sem Fin) Result:=⟨toF (bu [eQ (wt w0) [10] 0,eQ (wt w0) [10] 1,eQ (wt w0) [10] 2,eQ (wt w0) [10] 3] (aK (wt w0) (a 0) (a 1) (a 2) (a 3) (a 4) (a 5))),[(a 0,ah (fL (a 14) (a 15) (a 16) (a 12) pt s (some (ql,qr,qd)) bn))],[(a 1,ai oc),(a 2,ai oa),(a 3,ai (some (.int v tv))),(a 4,cR (a 13)),(a 5,cR (a 6)),(a 6,ab [.ref (a 7),.ref (a 8),.ref (a 9),.ref (a 10),.ref (a 11)] te),(a 7,ab (af (Tt 0) (ay 0)) (er 0)),(a 8,ab (af (Tt 1) (ay 1)) (er 1)),(a 9,ab (af (Tt 2) (ay 2)) (er 2)),(a 10,ab (af (Tt 3) (ay 3)) (er 3)),(a 11,ab (af (Tt 4) (ay 4)) (er 4)),(a 12,ab rv re),(a 13,ab wv we)],fun b f=> .ok .next,fun b f=>[(a 0,ah (fL (a 14) (a 15) (a 16) (a 12) pt s (some ((b 1),(b 20),du)) bn))],fun b f=>[(b 1,ab [.ref (b 2),.ref (b 3),.ref (b 4),.ref (b 5),.ref (b 6)] (b 1000)),(b 2,ab (af ((Tt 0).filter fun d=>decide (d≠v)) (f 0)) (b 1001)),(b 3,ab (af ((Tt 1).filter fun d=>decide (d≠v)) (f 1)) (b 1002)),(b 4,ab (af ((Tt 2).filter fun d=>decide (d≠v)) (f 2)) (b 1003)),(b 5,ab (af ((Tt 3).filter fun d=>decide (d≠v)) (f 3)) (b 1004)),(b 6,ab (af ((Tt 4).filter fun d=>decide (d≠v)) (f 4)) (b 1005)),(a 1,ai oc),(a 2,cR (b 21)),(a 3,ai (some (.int v tv))),(a 4,cR (a 13)),(a 5,cR (a 6)),(a 6,ab [.ref (a 7),.ref (a 8),.ref (a 9),.ref (a 10),.ref (a 11)] te),(a 7,ab (af (Tt 0) (ay 0)) (er 0)),(a 8,ab (af (Tt 1) (ay 1)) (er 1)),(a 9,ab (af (Tt 2) (ay 2)) (er 2)),(a 10,ab (af (Tt 3) (ay 3)) (er 3)),(a 11,ab (af (Tt 4) (ay 4)) (er 4)),(a 12,ab rv re),(a 13,ab wv we),(b 20,ab (ag (out.map P) (f 5)) (b 1006)),(b 21,ab (ag (p.dropLast.map ao) (f 6)) 0)]⟩
def EG (ww:WW)(w0:WW)(s:SO)(pt:Str)(ql qr:Nat)(qd:Int)(bn:ON)(oc oa:OV)(v:Nat)(tv:Tok)(Tt:Nat→List Nat)(ay:Nat→Nat→Tok)(er:N2)(te:Nat)(rv wv:LV)(re we d0:Nat)(ds p:LN)(tp:Tok)(out:List LN)(du:Int)(a:N2):List Env:=[aK ww (a 0) (a 1) (a 2) (a 3) (a 4) (a 5)]
theorem Mu (w0:WW)(s:SO)(pt:Str)(ql qr:Nat)(qd:Int)(bn:ON)(oc oa:OV)(v:Nat)(tv:Tok)(Tt:Nat→List Nat)(ay:Nat→Nat→Tok)(er:N2)(te:Nat)(rv wv:LV)(re we d0:Nat)(ds p:LN)(tp:Tok)(out:List LN)(du:Int)(a:N2)(hT:∀ k<5,(Tt k).length≤100)(hv:v<1000)(hl:((List.range 5).filter fun d=>decide (d≠v))=d0::ds)(cJ:∀ x∈d0::ds,x<5)(hlen:(d0::ds).length≤100)(hw:cU (fun k=>(Tt k).filter fun d=>decide (d≠v)) [] (d0::ds) [] out)(fM:out.length≤900)(uW:rv.length≤1000)(pQ:wv[v]?=some (.str (aj 47 p) tp)) (nY:(!(Builtin.Str.occurrences (aj 47 p) (S [47]) 0 (aj 47 p).length 1).isEmpty)=true) (ED:(rv.length:Int)-0=du) (hp:p≠[]) (e9:∀ d∈p,d<5) (ee:p.length≤100) (ie:∀ τ,(slicePick ⟨ag (p.map ao) τ⟩ none (some (-1)) none).toList=ag (p.dropLast.map ao) τ) (nt:∀ τ,(ag (p.map ao) τ).length≤1000):hH pw (wd w b1 b2) aa 9 (some (EG (wd w b1 b2) w0 s pt ql qr qd bn oc oa v tv Tt ay er te rv wv re we d0 ds p tp out du a)) true (II (wd w b1 b2) w0 s pt ql qr qd bn oc oa v tv Tt ay er te rv wv re we d0 ds p tp out du a):=
 gJ B aO.refl (ol 0x677b7b1 (.ud [0,1,0,6,3,5,5,5,5,5] (Az B w0 Tt hT ay v tv) (fun u0=>(ol 0x6f6f111a6faabbbb11b1b111b1b1111 (.ud [0,1,0,4] (tx B w0 v tv (d0::ds) hl) (fun u1=>(ol 0x111a (.u [1,4,10,10,10,10,10,10,10,10,1,9,9] (mW B d0 ds cJ hlen hw fM ((u1.u).f 0) ((u0.u).f))::(ol 0x99aa9b (.u [23] (lW rv uW)::(ol 0x5f4f (.o 24::(.o 24::(.o 24::(.u [24] (aY wv v (.str (aj 47 p) tp) hv pQ)::(.u [] (vg (aj 47 p) (S [47]) true nY)::(.u [] (tw rv.length 0 du ED)::(ol 0x2f2f6f5f111 (.u [0] (aY wv v (.str (aj 47 p) tp) hv pQ)::(.ud [] (bX p hp e9 ee) (fun u8=>(ol 0xbb222 (.u [0,0] (gj (ag (p.map ao) ((u8.u).f 0)) (ag (p.dropLast.map ao) ((u8.u).f 0)) none (some (-1)) none (by decide) (ie _) (nt _))::(ol 0xb6f6f []))))::[])))))))))))))))::[])))::[])) (fe [(5,1),(5,12),(5,13),(5,14),(5,15),(5,16),(27,2)]) (oP [(5,0),(5,1),(5,2),(5,3),(5,4),(27,0),(48,0)]) [12,6,6,6,6,6,6,6,6,6,6,6,9,9,9,9,9,9,3,2,2,0] 5 1 (fun _ _ _ h=>nomatch h) fun x X Fr=>by revert b1 b2 s bn;exact Gx (by kernel_rfl)
def M7 (w0:WW)(s:SO)(pt:Str)(ql:Nat)(qd:Int)(bn:ON)(out:List LN)(pR:NT)(eo:Nat)(pl:LN)(a:N2):SX (Sem Fin) Result:=sC (toF (bu [eQ (wt w0) [10] 5] (aK (wt w0) (a 0) (a 6) (a 7) (a 8) (a 9) (a 10)))) [(a 0,ah (fL (a 2) (a 3) (a 4) (a 5) pt s (some (ql,(a 1),qd)) bn))] [(a 1,ab (ag (out.map (aj 47)) pR) eo)] (fun b f=> .ok .next)
theorem pC (w0:WW)(s:SO)(pt:Str)(ql:Nat)(qd:Int)(bn:ON)(out:List LN)(pR:NT)(eo:Nat)(pl:LN)(a:N2)(ho:∀ q∈out,q≠[]∧∀ d∈q,d<5)(hl:out.length≤900)(ib:out.getLast?=some pl)(Bq:∀ τ,(ag ((aL out).map (aj 47)) τ).length≤1000)(bq:∀ τ,decide (((ag ((aL out).map (aj 47)) τ).length:Int)≠qd)=false){frx:OE}:hH pw (wd w b1 b2) aa 4 frx true (M7 w0 s pt ql qd bn out pR eo pl a):=
 gJ B aO.none (ol 0xaa122b2b1 (.ud [0,1,0,1] (LP B w0 out ho hl pl ib pR) (fun u0=>(ol 0x111b (.u [1] (lW (ag ((aL out).map (aj 47)) ((u0.u).f 0)) (Bq _))::(ol 0x4 (.u [] (xk _ qd false (bq ((u0.u).f 0)))::[])))))::[])) z2 z3 [3,2] 2 1 (fun _ _ _ h=>nomatch h) fun x X Fr=>by revert b1 b2 s bn;exact Gx (by kernel_rfl)
def PT (w0:WW)(a:N2):SX Code Result:=sB (cH (wt w0) [10] (a 0) (a 1) (a 2) (a 3) (a 4) (a 5) (a 6)) [] [(a 0,eZ 5)] (fun b f=> .ok .next) (fun b f=>[])
theorem vE (w0:WW)(a:N2){frx:OE}:eP w aa b1 b2 2 frx true true (PT w0 a):=
 tX B aO.none (ol 0x1b1 (.u [0] (sh)::(ol 0x1b []))) z2 z3 [] 2 0
end
section
variable {prog:Program}{w:WW}{aa:Heap}
theorem aM.some {lv:Nat}{l:List Env}{α:Type}{m:Sem α}{rs:Ow}{P:α→Ow→Prop}(h:aM prog w aa lv none m rs P):aM prog w aa lv (some l) m rs P:=
 fun A Q E Fr h' g d os tok size hA hf hD kk=>h A Q E Fr h' g d os tok size hA (fun _ e=>nomatch e) hD kk
theorem ym {M:Model}{A:Around}{env:Env}{l2:List Stmt}{Q:Flow→Shared→Prop}{E:Value→Shared→Prop}:∀ (l1:List Stmt)(Γ)(iX:Γ.In A)(p)(s:Shared),Sem.wp M Γ (execs l1 env) (fun f _ s=>f=.next∧wpAny M A (execs l2 env) Q E s) (fun e _ s'=>E e s') p s→
  Sem.wp M Γ (execs (l1++l2) env) (fun a _ s'=>Q a s') (fun e _ s'=>E e s') p s
 |[],Γ,iX,p,s,h=>h.2 Γ p iX
 |st::l1,Γ,iX,p,s,h=>by
  show Sem.wp _ Γ (execs (st::(l1++l2)) env) _ _ _ _;rw[execs_cons,Sem.wp_bind'] at h ⊢;refine Sem.wp_mono _ Γ _ (fun f p' s' h'=>?_) (fun _ _ _ h'=>h') _ _ h;cases f with
  |next=>exact ym l1 Γ iX p' s' h'
  |brk=>exact nomatch h'.1
  |cont=>exact nomatch h'.1
  |ret v=>exact nomatch h'.1
theorem j5 {lv:Nat}{fr:OE}{env:Env}{P':Flow→Ow→Prop}{P:Ow→Prop}{l1 l2:List Stmt}{rs:Ow}(h:aM prog w aa lv fr (execs l1 env) rs (fun f L=>f=.next∧P L))(h2:∀ L,P L→aM prog w aa lv fr (execs l2 env) L P'):aM prog w aa lv fr (execs (l1++l2) env) rs P':=
 fun A Q E Fr h' g d os tok size hA hf hD kk=>by
  have z:=h A (fun f s=>f=.next∧wpAny (model prog w) A (execs l2 env) Q E s) E Fr h' g d os tok size hA hf hD fun f L h' g' t s p G D=>by
   obtain⟨rfl,p⟩:=p;exact⟨rfl,h2 L p A Q E Fr h' g' d os t s hA hf D fun v L' jM nc t' s' p' G' D'=>kk v L' jM nc t' s' p' (G.trans G') D'⟩
  exact fun Γ p iX=>ym l1 Γ iX p _ (z Γ p iX)
end
theorem mY (l:List Str)(τ:NT):(ag l τ).dropLast=ag l.dropLast τ:=by
 rw[List.dropLast_eq_take,List.dropLast_eq_take,mN,aI]
structure yP (K:LK)(v:Nat)(out:List LN)(d0:Nat)(ds:LN):Prop where
 hf:((List.range 5).filter fun d=>decide (d≠v))=d0::ds
 hw:cU (fun k=>(K.T k).filter fun d=>decide (d≠v)) [] (d0::ds) [] out
 hq:∀ q∈out,q≠[]∧∀ d∈q,d<5
 bq:out≠[]
 hl:out.length≤100
 hc:(aL out).length+(if(K.W v).length=1 then 1 else 0)=K.dG.length+((K.T v).filter (eK K.T (List.range 5) K.W v)).length
theorem yP.lt {K:LK}{v:Nat}{out:List LN}{d0:Nat}{ds:LN}(h:yP K v out d0 ds):∀ x∈d0::ds,x<5:=fun x hx=>by
 rw[←h.hf] at hx;exact List.mem_range.mp (List.mem_filter.mp hx).1
theorem yP.len {K:LK}{v:Nat}{out:List LN}{d0:Nat}{ds:LN}(h:yP K v out d0 ds):(d0::ds).length≤100:=by
 rw[←h.hf];have:=List.length_filter_le (fun d=>decide (d≠v)) (List.range 5);simp only[List.length_range] at this;omega
def LK.Fb (K:LK)(w:WW):List Env:=[aK w K.fr K.cc K.ca K.cv K.cw K.ct]
section
variable (b1 b2:Bool){w:WW}{aa:Heap}(B:BB w aa b1 b2)
include B
theorem EH (w0:WW)(K:LK)(hK:mX K)(v:Nat)(hv:v<5)(out:List LN)(d0:Nat)(ds:LN)(hV:yP K v out d0 ds)(q:Option (Nat×Nat×Int))(bn:ON)(EI:q=none→bn=none)(oc oa:OV)(tv:Tok)(Y:Ow)(x0:Nat→Tk):
  pn w aa b1 b2 9 (some (K.Fb (wd w b1 b2))) (execs [eQ (wt w0) [10] 0,eQ (wt w0) [10] 1,eQ (wt w0) [10] 2,eQ (wt w0) [10] 3] (K.env w0))
   (K.F x0 q bn++[(K.cc,ai oc),(K.ca,ai oa),(K.cv,ai (some (.int v tv)))]++K.C++Y)
   (fun f L=>f=.next∧∃ x ql qr al bH pR eo Gb,L.Perm (K.F x (some (ql,qr,(K.dG.length:Int)- (if(K.W v).length=1 then 1 else 0))) bn++[(K.cc,ai oc),(K.ca,cR al),(al,ab (ag ((K.W v).dropLast.map ao) bH) 0),(K.cv,ai (some (.int v tv)))]++K.C++([(qr,ab (ag (out.map (aj 47)) pR) eo)]++Y)++Gb)):=by
 generalize CB:[eQ (wt w0) [10] 0,eQ (wt w0) [10] 1,eQ (wt w0) [10] 2,eQ (wt w0) [10] 3]=ss;let a:N2:=ix [K.fr,K.cc,K.ca,K.cv,K.cw,K.ct,K.ta,K.r 0,K.r 1,K.r 2,K.r 3,K.r 4,K.rl,K.wl,K.sc,K.ll,K.tl];have hp:=hK.hW v hv;have nt:∀ τ,(ag ((K.W v).map ao) τ).length≤1000:=fun τ=>by rw[aI,bU];have:=hp.len;omega
 have ie:∀ τ,(slicePick ⟨ag ((K.W v).map ao) τ⟩ none (some (-1)) none).toList=ag ((K.W v).dropLast.map ao) τ:=fun τ=>by rw[mz,mY,List.map_dropLast]
 have uW:(ag (K.dG.map (aj 47)) K.dZ).length=K.dG.length:=by rw[aI,bU]
 have Jl:(ag (K.dG.map (aj 47)) K.dZ).length≤1000:=by rw[uW];have:=hK.hR;omega
 have vm:=xG hp.ne hp.lt;have pQ:=di K.W K.τ hv;let R5:Ow:=[(K.r 0,ab (af (K.T 0) (K.ay 0)) (K.er 0)),(K.r 1,ab (af (K.T 1) (K.ay 1)) (K.er 1)),(K.r 2,ab (af (K.T 2) (K.ay 2)) (K.er 2)),(K.r 3,ab (af (K.T 3) (K.ay 3)) (K.er 3)),(K.r 4,ab (af (K.T 4) (K.ay 4)) (K.er 4))];have hC:K.C=[(K.cw,ai (some (.ref K.wl))),(K.ct,ai (some (.ref K.ta))),(K.ta,ab (au K.r) K.te),(K.rl,ab (ag (K.dG.map (aj 47)) K.dZ) K.re),(K.wl,ab (aE K.W K.τ) K.we)]++R5:=rfl;rw[hC];by_cases h1:(K.W v).length=1
 ·rw[if_pos h1]
  cases q with
  |none=>
   have hb:=EI rfl;subst hb;have z:=(Mr b1 b2 B w0 K.s K.pt oc oa v tv K.T K.ay K.er K.te (ag (K.dG.map (aj 47)) K.dZ) (aE K.W K.τ) K.re K.we d0 ds (K.W v) (K.τ v) out ((K.dG.length:Int)-1) a hK.hT (by omega) hV.hf hV.lt hV.len hV.hw (by have:=hV.hl;omega) Jl pQ (vm.trans (by simp[h1])) (by rw[uW]) hp.ne hp.lt hp.len ie nt).ro Y x0;rw[CB] at z;refine(aM.perm z ?_).mono lr ?_
   ·show List.Perm _ (K.F x0 none none++([(K.cc,ai oc),(K.ca,ai oa),(K.cv,ai (some (.int v tv))),(K.cw,ai (some (.ref K.wl))),(K.ct,ai (some (.ref K.ta))),(K.ta,ab (au K.r) K.te)]++R5++[(K.rl,ab (ag (K.dG.map (aj 47)) K.dZ) K.re),(K.wl,ab (aE K.W K.τ) K.we)])++Y)
    exact pm [0,1,2,3,4,5,6,9,10,11,12,13,7,8,14]
   ·rintro f L ⟨rfl,b,g,x1,rfl⟩
    let G6:Ow:=[(b 1,ab [.ref (b 2),.ref (b 3),.ref (b 4),.ref (b 5),.ref (b 6)] (b 1000)),(b 2,ab (af ((K.T 0).filter fun d=>decide (d≠v)) (g 0)) (b 1001)),(b 3,ab (af ((K.T 1).filter fun d=>decide (d≠v)) (g 1)) (b 1002)),(b 4,ab (af ((K.T 2).filter fun d=>decide (d≠v)) (g 2)) (b 1003)),(b 5,ab (af ((K.T 3).filter fun d=>decide (d≠v)) (g 3)) (b 1004)),(b 6,ab (af ((K.T 4).filter fun d=>decide (d≠v)) (g 4)) (b 1005))];refine⟨rfl,x1,b 1,b 20,b 21,g 6,g 5,b 1006,G6,?_⟩;show List.Perm (K.F x1 (some (b 1,b 20,(K.dG.length:Int)-1)) none++(G6++[(K.cc,ai oc),(K.ca,cR (b 21)),(K.cv,ai (some (.int v tv))),(K.cw,ai (some (.ref K.wl))),(K.ct,ai (some (.ref K.ta))),(K.ta,ab (au K.r) K.te)]++R5++[(K.rl,ab (ag (K.dG.map (aj 47)) K.dZ) K.re),(K.wl,ab (aE K.W K.τ) K.we),(b 20,ab (ag (out.map (aj 47)) (g 5)) (b 1006)),(b 21,ab (ag ((K.W v).dropLast.map ao) (g 6)) 0)])++Y) _;exact pm [0,7,8,21,9,10,11,12,18,19,13,14,15,16,17,20,22,1,2,3,4,5,6]
  |some q=>
   have z:=(Mt b1 b2 B w0 K.s K.pt q.1 q.2.1 q.2.2 bn oc oa v tv K.T K.ay K.er K.te (ag (K.dG.map (aj 47)) K.dZ) (aE K.W K.τ) K.re K.we d0 ds (K.W v) (K.τ v) out ((K.dG.length:Int)-1) a hK.hT (by omega) hV.hf hV.lt hV.len hV.hw (by have:=hV.hl;omega) Jl pQ (vm.trans (by simp[h1])) (by rw[uW]) hp.ne hp.lt hp.len ie nt).ro Y x0;rw[CB] at z;refine(aM.perm z ?_).mono lr ?_
   ·show List.Perm _ (K.F x0 (some q) bn++([(K.cc,ai oc),(K.ca,ai oa),(K.cv,ai (some (.int v tv))),(K.cw,ai (some (.ref K.wl))),(K.ct,ai (some (.ref K.ta))),(K.ta,ab (au K.r) K.te)]++R5++[(K.rl,ab (ag (K.dG.map (aj 47)) K.dZ) K.re),(K.wl,ab (aE K.W K.τ) K.we)])++Y)
    exact pm [0,1,2,3,4,5,6,9,10,11,12,13,7,8,14]
   ·rintro f L ⟨rfl,b,g,x1,rfl⟩
    let G6:Ow:=[(b 1,ab [.ref (b 2),.ref (b 3),.ref (b 4),.ref (b 5),.ref (b 6)] (b 1000)),(b 2,ab (af ((K.T 0).filter fun d=>decide (d≠v)) (g 0)) (b 1001)),(b 3,ab (af ((K.T 1).filter fun d=>decide (d≠v)) (g 1)) (b 1002)),(b 4,ab (af ((K.T 2).filter fun d=>decide (d≠v)) (g 2)) (b 1003)),(b 5,ab (af ((K.T 3).filter fun d=>decide (d≠v)) (g 3)) (b 1004)),(b 6,ab (af ((K.T 4).filter fun d=>decide (d≠v)) (g 4)) (b 1005))];refine⟨rfl,x1,b 1,b 20,b 21,g 6,g 5,b 1006,G6,?_⟩;show List.Perm (K.F x1 (some (b 1,b 20,(K.dG.length:Int)-1)) bn++(G6++[(K.cc,ai oc),(K.ca,cR (b 21)),(K.cv,ai (some (.int v tv))),(K.cw,ai (some (.ref K.wl))),(K.ct,ai (some (.ref K.ta))),(K.ta,ab (au K.r) K.te)]++R5++[(K.rl,ab (ag (K.dG.map (aj 47)) K.dZ) K.re),(K.wl,ab (aE K.W K.τ) K.we),(b 20,ab (ag (out.map (aj 47)) (g 5)) (b 1006)),(b 21,ab (ag ((K.W v).dropLast.map ao) (g 6)) 0)])++Y) _;exact pm [0,7,8,21,9,10,11,12,18,19,13,14,15,16,17,20,22,1,2,3,4,5,6]
 ·rw[if_neg h1]
  cases q with
  |none=>
   have hb:=EI rfl;subst hb;have z:=(Ms b1 b2 B w0 K.s K.pt oc oa v tv K.T K.ay K.er K.te (ag (K.dG.map (aj 47)) K.dZ) (aE K.W K.τ) K.re K.we d0 ds (K.W v) (K.τ v) out ((K.dG.length:Int)-0) a hK.hT (by omega) hV.hf hV.lt hV.len hV.hw (by have:=hV.hl;omega) Jl pQ (vm.trans (by simp[h1])) (by rw[uW]) hp.ne hp.lt hp.len ie nt).ro Y x0;rw[CB] at z;refine(aM.perm z ?_).mono lr ?_
   ·show List.Perm _ (K.F x0 none none++([(K.cc,ai oc),(K.ca,ai oa),(K.cv,ai (some (.int v tv))),(K.cw,ai (some (.ref K.wl))),(K.ct,ai (some (.ref K.ta))),(K.ta,ab (au K.r) K.te)]++R5++[(K.rl,ab (ag (K.dG.map (aj 47)) K.dZ) K.re),(K.wl,ab (aE K.W K.τ) K.we)])++Y)
    exact pm [0,1,2,3,4,5,6,9,10,11,12,13,7,8,14]
   ·rintro f L ⟨rfl,b,g,x1,rfl⟩
    let G6:Ow:=[(b 1,ab [.ref (b 2),.ref (b 3),.ref (b 4),.ref (b 5),.ref (b 6)] (b 1000)),(b 2,ab (af ((K.T 0).filter fun d=>decide (d≠v)) (g 0)) (b 1001)),(b 3,ab (af ((K.T 1).filter fun d=>decide (d≠v)) (g 1)) (b 1002)),(b 4,ab (af ((K.T 2).filter fun d=>decide (d≠v)) (g 2)) (b 1003)),(b 5,ab (af ((K.T 3).filter fun d=>decide (d≠v)) (g 3)) (b 1004)),(b 6,ab (af ((K.T 4).filter fun d=>decide (d≠v)) (g 4)) (b 1005))];refine⟨rfl,x1,b 1,b 20,b 21,g 6,g 5,b 1006,G6,?_⟩;show List.Perm (K.F x1 (some (b 1,b 20,(K.dG.length:Int)-0)) none++(G6++[(K.cc,ai oc),(K.ca,cR (b 21)),(K.cv,ai (some (.int v tv))),(K.cw,ai (some (.ref K.wl))),(K.ct,ai (some (.ref K.ta))),(K.ta,ab (au K.r) K.te)]++R5++[(K.rl,ab (ag (K.dG.map (aj 47)) K.dZ) K.re),(K.wl,ab (aE K.W K.τ) K.we),(b 20,ab (ag (out.map (aj 47)) (g 5)) (b 1006)),(b 21,ab (ag ((K.W v).dropLast.map ao) (g 6)) 0)])++Y) _;exact pm [0,7,8,21,9,10,11,12,18,19,13,14,15,16,17,20,22,1,2,3,4,5,6]
  |some q=>
   have z:=(Mu b1 b2 B w0 K.s K.pt q.1 q.2.1 q.2.2 bn oc oa v tv K.T K.ay K.er K.te (ag (K.dG.map (aj 47)) K.dZ) (aE K.W K.τ) K.re K.we d0 ds (K.W v) (K.τ v) out ((K.dG.length:Int)-0) a hK.hT (by omega) hV.hf hV.lt hV.len hV.hw (by have:=hV.hl;omega) Jl pQ (vm.trans (by simp[h1])) (by rw[uW]) hp.ne hp.lt hp.len ie nt).ro Y x0;rw[CB] at z;refine(aM.perm z ?_).mono lr ?_
   ·show List.Perm _ (K.F x0 (some q) bn++([(K.cc,ai oc),(K.ca,ai oa),(K.cv,ai (some (.int v tv))),(K.cw,ai (some (.ref K.wl))),(K.ct,ai (some (.ref K.ta))),(K.ta,ab (au K.r) K.te)]++R5++[(K.rl,ab (ag (K.dG.map (aj 47)) K.dZ) K.re),(K.wl,ab (aE K.W K.τ) K.we)])++Y)
    exact pm [0,1,2,3,4,5,6,9,10,11,12,13,7,8,14]
   ·rintro f L ⟨rfl,b,g,x1,rfl⟩
    let G6:Ow:=[(b 1,ab [.ref (b 2),.ref (b 3),.ref (b 4),.ref (b 5),.ref (b 6)] (b 1000)),(b 2,ab (af ((K.T 0).filter fun d=>decide (d≠v)) (g 0)) (b 1001)),(b 3,ab (af ((K.T 1).filter fun d=>decide (d≠v)) (g 1)) (b 1002)),(b 4,ab (af ((K.T 2).filter fun d=>decide (d≠v)) (g 2)) (b 1003)),(b 5,ab (af ((K.T 3).filter fun d=>decide (d≠v)) (g 3)) (b 1004)),(b 6,ab (af ((K.T 4).filter fun d=>decide (d≠v)) (g 4)) (b 1005))];refine⟨rfl,x1,b 1,b 20,b 21,g 6,g 5,b 1006,G6,?_⟩;show List.Perm (K.F x1 (some (b 1,b 20,(K.dG.length:Int)-0)) bn++(G6++[(K.cc,ai oc),(K.ca,cR (b 21)),(K.cv,ai (some (.int v tv))),(K.cw,ai (some (.ref K.wl))),(K.ct,ai (some (.ref K.ta))),(K.ta,ab (au K.r) K.te)]++R5++[(K.rl,ab (ag (K.dG.map (aj 47)) K.dZ) K.re),(K.wl,ab (aE K.W K.τ) K.we),(b 20,ab (ag (out.map (aj 47)) (g 5)) (b 1006)),(b 21,ab (ag ((K.W v).dropLast.map ao) (g 6)) 0)])++Y) _;exact pm [0,7,8,21,9,10,11,12,18,19,13,14,15,16,17,20,22,1,2,3,4,5,6]
theorem EJ (w0:WW)(K:LK)(hK:mX K)(v:Nat)(hv:v<5)(out:List LN)(d0:Nat)(ds:LN)(hV:yP K v out d0 ds)(q:Option (Nat×Nat×Int))(bn:ON)(EI:q=none→bn=none)(oc oa:OV)(tv:Tok)(Y:Ow)(x0:Nat→Tk):
  pn w aa b1 b2 9 (some (K.Fb (wd w b1 b2))) (execs [eQ (wt w0) [10] 0,eQ (wt w0) [10] 1,eQ (wt w0) [10] 2,eQ (wt w0) [10] 3,f4 (wt w0),eQ (wt w0) [10] 5] (K.env w0))
   (K.F x0 q bn++[(K.cc,ai oc),(K.ca,ai oa),(K.cv,ai (some (.int v tv)))]++K.C++Y)
   (fun f L=>f=.next∧∃ x q bn oc oa Gb,q≠none∧L.Perm (K.F x q bn++[(K.cc,ai oc),(K.ca,ai oa),(K.cv,ai (some (.int v tv)))]++K.C++Y++Gb)):=by
 have zA:=EH b1 b2 B w0 K hK v hv out d0 ds hV q bn EI oc oa tv Y x0;have zI:=ID b1 b2 B w0 K hK v hv;have zP:=pC b1 b2 B w0 K.s K.pt;unfold M7 at zP;generalize eQ (wt w0) [10] 0=t0 at zA ⊢;generalize eQ (wt w0) [10] 1=t1 at zA ⊢;generalize eQ (wt w0) [10] 2=t2 at zA ⊢;generalize eQ (wt w0) [10] 3=t3 at zA ⊢;generalize f4 (wt w0)=t4 at zI ⊢;generalize eQ (wt w0) [10] 5=t5 at zP ⊢;refine j5 (l1:=[t0,t1,t2,t3]) (l2:=[t4,t5]) zA ?_;rintro L ⟨x1,ql,qr,al,bH,pR,eo,Gb,hL⟩;refine bF (((aM.perm (zI ql qr al ((K.dG.length:Int)- (if(K.W v).length=1 then 1 else 0)) bn oc bH 0 tv ([(qr,ab (ag (out.map (aj 47)) pR) eo)]++Y++Gb) x1) (hL.trans ?_)).some).mono (by omega) fun _ _ h=>h) ?_
 ·exact pm [0,1,2,3,4,5,6,7,8]
 ·rintro f L2 ⟨rfl,x2,BK,Jm,uk,wD⟩
  show aM _ _ _ _ _ (execs [t5] (K.env w0)) _ _;obtain⟨pl,ib⟩:∃ pl,out.getLast?=some pl:=by
   cases h:out.getLast? with
   |none=>exact absurd (List.getLast?_eq_none_iff.mp h) hV.bq
   |some pl=>exact⟨pl,rfl⟩
  have hlen:∀ τ,(ag ((aL out).map (aj 47)) τ).length=(aL out).length:=fun τ=>by rw[aI,bU]
  have Bq:(aL out).length≤100:=Nat.le_trans (List.length_filter_le _ _) hV.hl;let a:N2:=ix [K.fr,qr,K.sc,K.ll,K.tl,K.rl,K.cc,K.ca,K.cv,K.cw,K.ct];let qd:Int:=(K.dG.length:Int)- (if(K.W v).length=1 then 1 else 0)+((K.T v).filter (eK K.T (List.range 5) K.W v)).length;let Y2:Ow:=[(K.cc,ai Jm),(K.ca,cR al),(al,ab (ag ((K.W v).dropLast.map ao) bH) 0),(K.cv,ai (some (.int v tv)))]++K.C++Y++Gb++uk;have zc:=(zP ql qd BK out pR eo pl a hV.hq (by have:=hV.hl;omega) ib (fun τ=>by rw[hlen];omega) (fun τ=>decide_eq_false (by
   rw[hlen];have:=hV.hc;have e:(if(K.W v).length=1 then(1:Int) else 0)=((if(K.W v).length=1 then 1 else 0:Nat):Int):=by split<;>rfl
   show ¬ (((aL out).length:Int)≠(K.dG.length:Int)- (if(K.W v).length=1 then 1 else 0)+((K.T v).filter (eK K.T (List.range 5) K.W v)).length);rw[e];omega)) (frx:=none)).ro Y2 x2
  refine(((aM.perm zc (wD.trans ?_)).some).mono (by omega) ?_)
  ·show List.Perm _ (K.F x2 (some (ql,qr,qd)) BK++[(qr,ab (ag (out.map (aj 47)) pR) eo)]++Y2)
   exact pm [0,6,1,2,3,4,5,7,8,9]
  ·rintro f L3 ⟨rfl,b,g,x3,rfl⟩
   refine⟨rfl,x3,some (ql,qr,qd),BK,Jm,some (.ref al),[(qr,ab (ag (out.map (aj 47)) pR) eo),(al,ab (ag ((K.W v).dropLast.map ao) bH) 0)]++Gb++uk,nofun,?_⟩;show List.Perm (K.F x3 (some (ql,qr,qd)) BK++[(qr,ab (ag (out.map (aj 47)) pR) eo)]++Y2) _;exact pm [0,2,3,5,6,7,1,4,8,9]
end
theorem yn (w0:WW)(it fr cc ca cv cw ct:Nat):cH (wt w0) [10] it fr cc ca cv cw ct=.forLoop (dQ (Lq (wt w0))) (.ref it) [eQ (wt w0) [10] 0,eQ (wt w0) [10] 1,eQ (wt w0) [10] 2,eQ (wt w0) [10] 3,f4 (wt w0),eQ (wt w0) [10] 5] [] (aK (wt w0) fr cc ca cv cw ct):=by kernel_rfl
def vS (K:LK)(it i:Nat)(L:Ow):Prop:=
 ∃ x q bn oc oa ov Gb,(q=none→bn=none)∧L.Perm (K.F x q bn++[(it,eZ i),(K.cc,ai oc),(K.ca,ai oa),(K.cv,ai ov)]++K.C++Gb)
section
variable (b1 b2:Bool){w:WW}{aa:Heap}(B:BB w aa b1 b2)
include B
theorem EK (w0:WW)(K:LK)(hK:mX K)(hV:∀ v<5,∃ out d0 ds,yP K v out d0 ds)(it:Nat){L:Ow}(hL:vS K it 0 L):
  gh w aa b1 b2 9 (some (K.Fb (wd w b1 b2))) (cH (wt w0) [10] it K.fr K.cc K.ca K.cv K.cw K.ct) L (fun r L=>r=.ok .next):=by
 rw[yn];refine bw 5 (vS K it) ?_ ?_ (bZ _) hL
 ·rintro v L hv ⟨x,q,bn,oc,oa,ov,Gb,EI,hL⟩ ih
  obtain⟨out,d0,ds,PU⟩:=hV v hv;let a:N2:=ix [K.cv,K.fr,K.cc,K.ca,K.cw,K.ct];let Y1:Ow:=K.F x q bn++[(K.cc,ai oc),(K.ca,ai oa)]++K.C++Gb;refine aJ.perm (pE (Z:=[(K.cv,ai ov)]++Y1) (PA:=fun L=>∃ tv,L.Perm ([(K.cv,ai (some (.int v tv)))]++((it,eZ (v+1))::Y1))) (Aw w0) hv ?_ ?_) (hL.trans ?_)
  ·intro tv
   have za:=(vA b1 b2 B w0 v tv ov a (frx:=some (K.Fb (wd w b1 b2)))).asg ((it,eZ (v+1))::Y1) x;refine(aM.perm za ?_).mono (by omega) ?_
   ·show List.Perm _ (rt [] x++[(K.cv,ai ov)]++((it,eZ (v+1))::Y1))
    exact pm [1,0,2,3,4,5,6]
   ·rintro _ L ⟨b,g,x',rfl⟩
    refine⟨tv,?_⟩;show List.Perm (rt [] x'++[(K.cv,ai (some (.int v tv)))]++((it,eZ (v+1))::Y1)) _;exact pm [0,1,2,3,4,5,6]
  ·rintro L ⟨tv,Mq⟩
   have zb:=EJ b1 b2 B w0 K hK v hv out d0 ds PU q bn EI oc oa tv ([(it,eZ (v+1))]++Gb) x;refine(aM.perm zb (Mq.trans ?_)).mono lr ?_
   ·exact pm [2,3,4,0,5,1,6]
   ·rintro f L2 ⟨rfl,x2,q2,BK,Jm,PV,uk,j7,wD⟩
    refine ih L2 (show vS K it (v+1) L2 from⟨x2,q2,BK,Jm,PV,some (.int v tv),Gb++uk,fun e=>absurd e j7,wD.trans ?_⟩);exact pm [0,5,1,2,3,4,6,7]
  ·exact pm [1,4,0,2,3,5,6]
 ·rintro L ⟨x,q,bn,oc,oa,ov,Gb,EI,hL⟩
  let a:N2:=ix [it,K.fr,K.cc,K.ca,K.cv,K.cw,K.ct];let Y1:Ow:=K.F x q bn++[(K.cc,ai oc),(K.ca,ai oa),(K.cv,ai ov)]++K.C++Gb;have z:gh w aa b1 b2 2 (some (K.Fb (wd w b1 b2))) (cH (wt w0) [10] it K.fr K.cc K.ca K.cv K.cw K.ct) (rt [] x++[(it,eZ 5)]++Y1)
    (fun r L=>∃ (b:N2)(f:Nat→Nat→Nat)(x':Nat→Tk),nU true r=.ok .next∧L=rt [] x'++[]++Y1):=(vE b1 b2 B w0 a (frx:=some (K.Fb (wd w b1 b2)))).use Y1 (fun _=>0) x
  rw[yn] at z;refine(aJ.perm z (hL.trans ?_)).mono (by omega) ?_
  ·exact pm [1,0,2,3,4,5,6]
  ·rintro r L ⟨b,g,x',hr,rfl⟩
   exact hr
end
section
variable {b1 b2:Bool}{w:WW}{aa:Heap}
def sr (T W:Nat→List Nat)(dG:List LN)(τ dZ:NT)(ay:Nat→Nat→Tok)(sc ll tl:Nat)(pt:Str)(s:SO)(rr:Ow):LK where
 fr:=adr rr 0
 cc:=adr rr 2
 ca:=adr rr 3
 cv:=adr rr 4
 cw:=adr rr 5
 ct:=adr rr 6
 sc:=sc
 ll:=ll
 tl:=tl
 rl:=adr rr 8
 ta:=adr rr 7
 wl:=adr rr 9
 r:=fun i=>adr rr (i+10)
 T:=T
 ay:=ay
 er:=fun i=>aH rr (i+10)
 te:=aH rr 7
 dG:=dG
 dZ:=dZ
 re:=aH rr 8
 W:=W
 τ:=τ
 we:=aH rr 9
 pt:=pt
 s:=s
def lg (rr:Ow)(i:Nat):OV:=match AN rr i with
 |⟨_,_,.cell v,_⟩=>v
 |_=>none
def BL (B:BB w aa b1 b2)(w0:WW)(T W:Nat→List Nat)(dG:List LN)(τ dZ:NT)(ay:Nat→Nat→Tok)(sc ll tl:Nat)(pt:Str)(s:SO)
  (hK:∀ rr,mX (sr T W dG τ dZ ay sc ll tl pt s rr)) (hV:∀ rr,∀ v<5,∃ out d0 ds,yP (sr T W dG τ dZ ay sc ll tl pt s rr) v out d0 ds):gw w aa b1 b2:=
 dk 9 true true 1 (some fun _ rr=>[aK (wd w b1 b2) (adr rr 0) (adr rr 2) (adr rr 3) (adr rr 4) (adr rr 5) (adr rr 6)]) (fun cc rr=>cH (wt w0) [10] (adr rr 1) (adr rr 0) (adr rr 2) (adr rr 3) (adr rr 4) (adr rr 5) (adr rr 6))
  (fun _ rr=>[(adr rr 0,ah (fL sc ll tl (adr rr 8) pt s none none))])
  (fun _ rr=>[(adr rr 1,eZ 0),(adr rr 2,ai (lg rr 2)),(adr rr 3,ai (lg rr 3)),(adr rr 4,ai (lg rr 4)),(adr rr 5,cR (adr rr 9)),(adr rr 6,cR (adr rr 7)),(adr rr 7,ab (au fun i=>adr rr (i+10)) (aH rr 7)),(adr rr 8,ab (ag (dG.map (aj 47)) dZ) (aH rr 8)),(adr rr 9,ab (aE W τ) (aH rr 9))]++aA (fun i=>adr rr (i+10)) T ay (fun i=>aH rr (i+10)))
  (fun _ _ _ _=> .ok .next) (fun _ _ _ _=>[]) (fun _ _ _ _=>[])
  fun cc rr t x=>aJ.drop ((EK b1 b2 B w0 (sr T W dG τ dZ ay sc ll tl pt s rr) (hK rr) (hV rr) (adr rr 1) (L:=rt [(adr rr 0,ah (fL sc ll tl (adr rr 8) pt s none none))] x++([(adr rr 1,eZ 0),(adr rr 2,ai (lg rr 2)),(adr rr 3,ai (lg rr 3)),(adr rr 4,ai (lg rr 4)),(adr rr 5,cR (adr rr 9)),(adr rr 6,cR (adr rr 7)),(adr rr 7,ab (au fun i=>adr rr (i+10)) (aH rr 7)),(adr rr 8,ab (ag (dG.map (aj 47)) dZ) (aH rr 8)),(adr rr 9,ab (aE W τ) (aH rr 9))]++aA (fun i=>adr rr (i+10)) T ay (fun i=>aH rr (i+10))))
   ⟨x,none,none,lg rr 2,lg rr 3,lg rr 4,[],fun _=>rfl,by
    show List.Perm _ (rt [(adr rr 0,ah (fL sc ll tl (adr rr 8) pt s none none))] x++[(adr rr 1,eZ 0),(adr rr 2,ai (lg rr 2)),(adr rr 3,ai (lg rr 3)),(adr rr 4,ai (lg rr 4))]++([(adr rr 5,cR (adr rr 9)),(adr rr 6,cR (adr rr 7)),(adr rr 7,ab (au fun i=>adr rr (i+10)) (aH rr 7)),(adr rr 8,ab (ag (dG.map (aj 47)) dZ) (aH rr 8)),(adr rr 9,ab (aE W τ) (aH rr 9))]++aA (fun i=>adr rr (i+10)) T ay (fun i=>aH rr (i+10)))++[]);exact pm [0,1,2,3,4,5,6,7,8,9,10]⟩).mono lr fun r L hP=>⟨[],L,rfl,fun _=>0,fun _ _=>0,[],rfl,by rw[hP];rfl,rfl⟩)
end
def Mv (w0:WW)(a:N2):SX (Sem Fin) Result:=⟨toF (bu [aU (wt w0) 0,aU (wt w0) 1] (aK (wt w0) (a 0) (a 3) (a 4) (a 5) (a 6) (a 1))),[(a 0,ah [(gQ,.ref (a 2))])],[(a 1,ai none)],fun b f=> .ok .next,fun b f=>[(a 0,ah (bN (a 2) (b 8) none))],fun b f=>[(a 1,cR (b 2)),(b 2,ab [.ref (b 3),.ref (b 4),.ref (b 5),.ref (b 6),.ref (b 7)] 0),(b 3,ab [] 0),(b 4,ab [] 0),(b 5,ab [] 0),(b 6,ab [] 0),(b 7,ab [] 0),(b 8,ab [] 0)]⟩
section
variable (b1 b2:Bool){w:WW}{aa:Heap}(B:BB w aa b1 b2)
include B
theorem PW (w0:WW)(a:N2){frx:OE}:hH pw (wd w b1 b2) aa 2 frx true (Mv w0 a):=
 gJ B aO.none (ol 0x8888 []) z2 z3 [7,7,1,5,4,3,2,1,0] 0 1 (fun _ _ _ h=>nomatch h) fun x X Fr=>by revert b1 b2;exact dI (by kernel_rfl)
def PX (w0:WW)(dz vs:LV)(ns:List Int)(e0 te le:Nat)(er:N2)(o:Option (Int×Nat×Nat))(a:N2):SX (Sem Fin) Result:=⟨toF (bu [aU (wt w0) 2] (aK (wt w0) (a 0) (a 10) (a 11) (a 12) (a 13) (a 2))),[(a 0,ah (bN (a 1) (a 4) none))],[(a 1,ab dz e0),(a 2,cR (a 3)),(a 3,ab [.ref (a 5),.ref (a 6),.ref (a 7),.ref (a 8),.ref (a 9)] te),(a 4,ab [] le),(a 5,ab [] (er 0)),(a 6,ab [] (er 1)),(a 7,ab [] (er 2)),(a 8,ab [] (er 3)),(a 9,ab [] (er 4))],fun b f=> .ok .next,fun b f=>[(a 0,ah (bN (a 1) (a 4) o))],fun b f=>[(a 1,ab dz e0),(a 2,cR (a 3)),(a 3,ab [.ref (a 5),.ref (a 6),.ref (a 7),.ref (a 8),.ref (a 9)] te),(a 4,ab (af (stN ns ns.length).1 (f 0)) (b 1000)),(a 5,ab (af ((stN ns ns.length).2 0) ((f 1))) (b 1001)),(a 6,ab (af ((stN ns ns.length).2 1) ((f 2))) (b 1002)),(a 7,ab (af ((stN ns ns.length).2 2) ((f 3))) (b 1003)),(a 8,ab (af ((stN ns ns.length).2 3) ((f 4))) (b 1004)),(a 9,ab (af ((stN ns ns.length).2 4) ((f 5))) (b 1005))]⟩
theorem s2 (w0:WW)(dz vs:LV)(ns:List Int)(e0 te le:Nat)(er:N2)(o:Option (Int×Nat×Nat))(a:N2)(ho:mH ns ns.length=o)(ie:(slicePick ⟨dz⟩ none (some 14) none).toList=vs)(nt:dz.length≤1000)(hv:vs.length=ns.length)(r4:∀ (i:Nat) (n:Int),ns[i]?=some n→∃ t,vs[i]?=some (.int n t)) (hn:ns.length≤14) {frx:OE}:hH pw (wd w b1 b2) aa 3 frx true (PX w0 dz vs ns e0 te le er o a):=by
 rcases o with _|o_
 ·exact gJ B aO.none (ol 0x1333 (.u [0,1] (gj dz vs none (some 14) none (by decide) ie nt)::(ol 0x11b1b1 (.u [3,3,3,3,0,0,1,1,1,1,1] (HK B w0 vs ns hv r4 hn none ho (a 1))::[])))) (fe [(9,1),(9,2),(9,3),(9,4),(9,5),(9,6)]) (oP [(9,0),(9,1),(9,2),(9,3),(9,4),(9,5)]) [0,9,0,0,0,1,1,1,1,1] 1 1 (fun _ _ _ h=>nomatch h) fun x X Fr=>by revert b1 b2;exact dI (by kernel_rfl)
 ·exact gJ B aO.none (ol 0x1333 (.u [0,1] (gj dz vs none (some 14) none (by decide) ie nt)::(ol 0x11b1b1 (.u [3,3,3,3,0,0,1,1,1,1,1] (HK B w0 vs ns hv r4 hn (some o_) ho (a 1))::[])))) (fe [(9,1),(9,2),(9,3),(9,4),(9,5),(9,6)]) (oP [(9,0),(9,1),(9,2),(9,3),(9,4),(9,5)]) [0,9,0,0,0,1,1,1,1,1] 1 1 (fun _ _ _ h=>nomatch h) fun x X Fr=>by revert b1 b2;exact dI (by kernel_rfl)
def PY (w0:WW)(o:Option (Int×Nat×Nat))(ds:LN)(τ:NT)(le:Nat)(a:N2):SX (Sem Fin) Result:=⟨toF (bu [aU (wt w0) 3] (aK (wt w0) (a 0) (a 3) (a 4) (a 5) (a 6) (a 7))),[(a 0,ah (bN (a 2) (a 1) o++[]))],[(a 1,ab (af ds τ) le)],fun b f=> .ok .next,fun b f=>[(a 0,ah (bN (a 2) (b 1) o++[]))],fun b f=>[(b 1,ab (af (ds++[0,1,2,3,4]) (f 0)) 0)]⟩
theorem s3 (w0:WW)(o:Option (Int×Nat×Nat))(ds:LN)(τ:NT)(le:Nat)(a:N2)(hb:ds.length≤900){frx:OE}:hH pw (wd w b1 b2) aa 2 frx true (PY w0 o ds τ le a):=
 gJ B aO.none (ol 0x1313b3 (.u [2,0] (Dm ds hb τ)::(ol 0x44 []))) z2 (oP [(5,0)]) [3,0] 2 1 (fun _ _ _ h=>nomatch h) fun x X Fr=>by revert b1 b2 o;exact d4 (by kernel_rfl)
def PZ (ww:WW)(w0:WW)(o:Option (Int×Nat×Nat))(Tt:Nat→List Nat)(ay:Nat→Nat→Tok)(er:N2)(te:Nat)(d0:Nat)(ds:LN)(τ:NT)(le:Nat)(out:List LN)(a:N2):SX (Sem Fin) Result:=⟨toF (bu [aU (wt w0) 4] (aK (wt w0) (a 0) (a 1) (a 2) (a 3) (a 4) (a 5))),[(a 0,ah (bN (a 13) (a 12) o++[]))],[(a 1,ai none),(a 2,ai none),(a 3,ai none),(a 4,ai none),(a 5,cR (a 6)),(a 6,ab [.ref (a 7),.ref (a 8),.ref (a 9),.ref (a 10),.ref (a 11)] te),(a 7,ab (af (Tt 0) (ay 0)) (er 0)),(a 8,ab (af (Tt 1) (ay 1)) (er 1)),(a 9,ab (af (Tt 2) (ay 2)) (er 2)),(a 10,ab (af (Tt 3) (ay 3)) (er 3)),(a 11,ab (af (Tt 4) (ay 4)) (er 4)),(a 12,ab (af (d0::ds) τ) le)],fun b f=> .ok .next,fun b f=>[(a 0,ah (bN (a 13) (a 12) o++[(hJ,.ref (b 13))]))],fun b f=>[(a 1,ai none),(a 2,ai none),(a 3,ai none),(a 4,ai none),(a 5,cR (a 6)),(a 6,ab [.ref (a 7),.ref (a 8),.ref (a 9),.ref (a 10),.ref (a 11)] te),(a 7,ab (af (Tt 0) (ay 0)) (er 0)),(a 8,ab (af (Tt 1) (ay 1)) (er 1)),(a 9,ab (af (Tt 2) (ay 2)) (er 2)),(a 10,ab (af (Tt 3) (ay 3)) (er 3)),(a 11,ab (af (Tt 4) (ay 4)) (er 4)),(a 12,ab (af (d0::ds) τ) le),(b 13,ab (ag (out.map P) (f 0)) (b 1000))]⟩
def Mw (ww:WW)(w0:WW)(o:Option (Int×Nat×Nat))(Tt:Nat→List Nat)(ay:Nat→Nat→Tok)(er:N2)(te:Nat)(d0:Nat)(ds:LN)(τ:NT)(le:Nat)(out:List LN)(a:N2):List Env:=[aK ww (a 0) (a 1) (a 2) (a 3) (a 4) (a 5)]
theorem s4 (w0:WW)(o:Option (Int×Nat×Nat))(Tt:Nat→List Nat)(ay:Nat→Nat→Tok)(er:N2)(te:Nat)(d0:Nat)(ds:LN)(τ:NT)(le:Nat)(out:List LN)(a:N2)(cJ:∀ x∈d0::ds,x<5)(hlen:(d0::ds).length≤100)(hw:cU Tt [] (d0::ds) [] out)(fM:out.length≤900):hH pw (wd w b1 b2) aa 8 (some (Mw (wd w b1 b2) w0 o Tt ay er te d0 ds τ le out a)) true (PZ (wd w b1 b2) w0 o Tt ay er te d0 ds τ le out a):=
 gJ B aO.refl (ol 0xa61a (.u [12,6,6,6,6,6,6,0,0,0,0,0,0] (mW B d0 ds cJ hlen hw fM τ ay)::(ol 0x99 []))) (fe [(2,2)]) (oP [(2,0)]) [8,8,8,8,8,8,2,2,2,2,2,2,1,0] 0 1 (fun _ _ _ h=>nomatch h) fun x X Fr=>by revert b1 b2 o;exact d4 (by kernel_rfl)
def IJ (w0:WW)(o:Option (Int×Nat×Nat))(a:N2):SX (Sem Fin) Result:=sC (ir (eW (jv (bj (aU (wt w0) 5))) (aK (wt w0) (a 0) (a 4) (a 5) (a 6) (a 7) (a 8)))) ([(a 0,ah (bN (a 1) (a 2) o++[(hJ,.ref (a 3))]))]) [] (fun b f=> .ok (.ret (.ref (a 3))))
theorem P4 (w0:WW)(o:Option (Int×Nat×Nat))(a:N2){frx:OE}:hH pw (wd w b1 b2) aa 2 frx true (IJ w0 o a):=
 gJ B aO.none [.o 0] z2 z3 [0] 0 1 (fun _ _ _ h=>nomatch h) fun x X Fr=>by revert b1 b2 o;exact d4 (by kernel_rfl)
def IK (w0:WW)(o:Option (Int×Nat×Nat))(Tt:Nat→List Nat)(ay:Nat→Nat→Tok)(er:N2)(te:Nat)(d0:Nat)(ds:LN)(τ:NT)(le:Nat)(out:List LN)(a:N2):SX (Sem Fin) Result:=sB (ir (eW (gO (bj (aU (wt w0) 5))) (aK (wt w0) (a 0) (a 11) (a 12) (a 13) (a 14) (a 1)))) ([(a 0,ah (bN (a 9) (a 8) o++[(hJ,.ref (a 10))]))]) [(a 1,cR (a 2)),(a 2,ab [.ref (a 3),.ref (a 4),.ref (a 5),.ref (a 6),.ref (a 7)] te),(a 3,ab (af (Tt 0) (ay 0)) (er 0)),(a 4,ab (af (Tt 1) (ay 1)) (er 1)),(a 5,ab (af (Tt 2) (ay 2)) (er 2)),(a 6,ab (af (Tt 3) (ay 3)) (er 3)),(a 7,ab (af (Tt 4) (ay 4)) (er 4)),(a 8,ab (af (d0::ds) τ) le)] (fun b f=> .ok (.ret (.ref (b 9)))) (fun b f=>[(a 1,cR (a 2)),(a 2,ab [.ref (a 3),.ref (a 4),.ref (a 5),.ref (a 6),.ref (a 7)] te),(a 3,ab (af (Tt 0) (ay 0)) (er 0)),(a 4,ab (af (Tt 1) (ay 1)) (er 1)),(a 5,ab (af (Tt 2) (ay 2)) (er 2)),(a 6,ab (af (Tt 3) (ay 3)) (er 3)),(a 7,ab (af (Tt 4) (ay 4)) (er 4)),(a 8,ab (af (d0::ds) τ) le),(b 9,ab (ag (out.map (aj 47)) (f 0)) (b 1000))])
theorem P5 (w0:WW)(o:Option (Int×Nat×Nat))(Tt:Nat→List Nat)(ay:Nat→Nat→Tok)(er:N2)(te:Nat)(d0:Nat)(ds:LN)(τ:NT)(le:Nat)(out:List LN)(a:N2)(hd:j3 Tt [] (d0::ds) out)(ho:∀ q∈out,q≠[]∧(∀ x∈q,x<5)∧q.length≤100)(Hy:out.length≤100)(bq:out≠[]){frx:OE}:hH pw (wd w b1 b2) aa 6 frx true (IK w0 o Tt ay er te d0 ds τ le out a):=
 gJ B aO.none (ol 0xa21a (.u [8,2,2,2,2,2,2] (IB B w0 d0 ds hd ho Hy bq τ ay)::[])) (fe [(2,2)]) (oP [(2,0)]) [8,8,2,2,2,2,2,2,1,0] 0 1 (fun _ _ _ h=>nomatch h) fun x X Fr=>by revert b1 b2 o;exact d4 (by kernel_rfl)
def Mx (w0:WW)(o:Option (Int×Nat×Nat))(a:N2):SX (Sem Fin) Result:=⟨toF (bu [aU (wt w0) 6] (aK (wt w0) (a 0) (a 5) (a 6) (a 7) (a 1) (a 8))),[(a 0,ah (ke (a 2) (a 3) o (a 4) none))],[(a 1,ai none)],fun b f=> .ok .next,fun b f=>[(a 0,ah (ke (a 2) (a 3) o (a 4) none)),(b 1,ab [.str (S []) 0,.str (S []) 0,.str (S []) 0,.str (S []) 0,.str (S []) 0] 0)],fun b f=>[(a 1,cR (b 1))]⟩
theorem P6 (w0:WW)(o:Option (Int×Nat×Nat))(a:N2){frx:OE}:hH pw (wd w b1 b2) aa 2 frx true (Mx w0 o a):=
 gJ B aO.none (ol 0x1bb11b1b144 []) z2 z3 [2,0,1] 1 2 (fun _ _ _ h=>nomatch h) fun x X Fr=>by revert b1 b2 o;exact d4 (by kernel_rfl)
def P7 (w0:WW)(o:Option (Int×Nat×Nat))(out:List LN)(pl:LN)(dg τ:NT)(te we:Nat)(a:N2):SX (Sem Fin) Result:=⟨toF (bu [aU (wt w0) 7] (aK (wt w0) (a 0) (a 6) (a 7) (a 8) (a 1) (a 9))),[(a 0,ah (ke (a 4) (a 5) o (a 3) none))],[(a 1,cR (a 2)),(a 2,ab (aE (fun _=>[]) τ) we),(a 3,ab (ag (out.map (aj 47)) dg) te)],fun b f=> .ok .next,fun b f=>[(a 0,ah (ke (a 4) (a 5) o (a 3) (some (aj 47 pl))))],fun b f=>[(a 1,cR (a 2)),(a 2,ab (aE (fm out out.length) (f 0)) we),(a 3,ab (ag (out.map (aj 47)) dg) te)]⟩
theorem s7 (w0:WW)(o:Option (Int×Nat×Nat))(out:List LN)(pl:LN)(dg τ:NT)(te we:Nat)(a:N2)(ho:∀ q∈out,∃ dp d,q=dp++[d]∧(∀ x∈dp,x<5)∧d<5)(hl:out.length≤900)(ib:out.getLast?=some pl){frx:OE}:hH pw (wd w b1 b2) aa 3 frx true (P7 w0 o out pl dg τ te we a):=
 gJ B aO.none (ol 0x144b4b1 (.u [1,1,1,0,0] (Lb B w0 o out ho hl pl ib dg τ (a 4) (a 5))::[])) z2 (oP [(5,0)]) [0,0,0,0] 0 1 (fun _ _ _ h=>nomatch h) fun x X Fr=>by revert b1 b2 o;exact d4 (by kernel_rfl)
def P8 (w0:WW)(o:Option (Int×Nat×Nat))(pt:Str)(W:Nat→List Nat)(τ:NT)(we:Nat)(Tt:Nat→List Nat)(ay:Nat→Nat→Tok)(er:N2)(te:Nat)(a:N2):SX (Sem Fin) Result:=sA (toF (bu [aU (wt w0) 8] (aK (wt w0) (a 0) (a 13) (a 14) (a 15) (a 1) (a 3)))) [(a 0,ah (jx (a 10) (a 11) (a 12) pt o none))] [(a 1,cR (a 2)),(a 2,ab (aE W τ) we),(a 3,cR (a 4)),(a 4,ab [.ref (a 5),.ref (a 6),.ref (a 7),.ref (a 8),.ref (a 9)] te),(a 5,ab (af (Tt 0) (ay 0)) (er 0)),(a 6,ab (af (Tt 1) (ay 1)) (er 1)),(a 7,ab (af (Tt 2) (ay 2)) (er 2)),(a 8,ab (af (Tt 3) (ay 3)) (er 3)),(a 9,ab (af (Tt 4) (ay 4)) (er 4))] (fun b f=> .ok .next) (fun b f=>[(a 0,ah (jx (a 10) (a 11) (a 12) pt (sK Tt o 5) (some 4)))])
theorem s8 (w0:WW)(o:Option (Int×Nat×Nat))(pt:Str)(W:Nat→List Nat)(τ:NT)(we:Nat)(Tt:Nat→List Nat)(ay:Nat→Nat→Tok)(er:N2)(te:Nat)(a:N2)(hT:∀ a<5,∀ b∈Tt a,b<5)(uX:∀ a<5,(Tt a).length≤100)(hW:∀ a<5,bY (W a))(ht:∀ a<5,∀ b∈Tt a,a<b→eY (W a) (W b)=W a∨eY (W a) (W b)=W b)(he:o=none→∀ a,Tt a=[]){frx:OE}:hH pw (wd w b1 b2) aa 5 frx true (P8 w0 o pt W τ we Tt ay er te a):=by
 rcases o with _|o_
 ·exact gJ B aO.none (ol 0xaabbbb11b1b111b1b1111b1b1b11111113363777b7b788b8b1 (.u [3,3,3,0,4] (nG B w0 0 (by decide) (Tt 0) (hT 0 (by decide)) (uX 0 (by decide)) W hW (ht 0 (by decide)) τ (ay 0) (ku 0 (sK Tt none 0)) (some 0) (fun h=>he (ec (cP h)) 0) (dE 0 _) (a 10) (a 11) (a 12) pt)::(ol 0xb5b5b55555551171888b8b899b9b1 (.u [1,1,1,0,5] (nG B w0 1 (by decide) (Tt 1) (hT 1 (by decide)) (uX 1 (by decide)) W hW (ht 1 (by decide)) τ (ay 1) (ku 1 (sK Tt none 1)) (some 1) (fun h=>he (ec (cP h)) 1) (dE 1 _) (a 10) (a 11) (a 12) pt)::(ol 0xb6b6b66666661181999b9b91f1fb1fb1 (.u [1,1,1,0,6] (nG B w0 2 (by decide) (Tt 2) (hT 2 (by decide)) (uX 2 (by decide)) W hW (ht 2 (by decide)) τ (ay 2) (ku 2 (sK Tt none 2)) (some 2) (fun h=>he (ec (cP h)) 2) (dE 2 _) (a 10) (a 11) (a 12) pt)::(ol 0xb7b7b777777711911f1f1fb1fb1f2f2fb2fb1 (.u [1,1,1,0,7] (nG B w0 3 (by decide) (Tt 3) (hT 3 (by decide)) (uX 3 (by decide)) W hW (ht 3 (by decide)) τ (ay 3) (ku 3 (sK Tt none 3)) (some 3) (fun h=>he (ec (cP h)) 3) (dE 3 _) (a 10) (a 11) (a 12) pt)::(ol 0xb8b8b8888888111f12f2f2fb2fb2f3f3fb3fb1 (.u [1,1,1,0,8] (nG B w0 4 (by decide) (Tt 4) (hT 4 (by decide)) (uX 4 (by decide)) W hW (ht 4 (by decide)) τ (ay 4) (ku 4 (sK Tt none 4)) (some 4) (fun h=>he (ec (cP h)) 4) (dE 4 _) (a 10) (a 11) (a 12) pt)::(ol 0xb9b9b9991b []))))))))))) z2 z3 [2,2,2,9,9,6,5,4,3,2] 4 1 (fun _ _ _ h=>nomatch h) fun x X Fr=>by revert b1 b2;exact dI (by kernel_rfl)
 ·exact gJ B aO.none (ol 0xaabbbb11b1b111b1b1111b1b1b11111113363777b7b788b8b1 (.u [3,3,3,0,4] (nG B w0 0 (by decide) (Tt 0) (hT 0 (by decide)) (uX 0 (by decide)) W hW (ht 0 (by decide)) τ (ay 0) (ku 0 (sK Tt (some o_) 0)) (some 0) (fun h=>he (ec (cP h)) 0) (dE 0 _) (a 10) (a 11) (a 12) pt)::(ol 0xb5b5b55555551171888b8b899b9b1 (.u [1,1,1,0,5] (nG B w0 1 (by decide) (Tt 1) (hT 1 (by decide)) (uX 1 (by decide)) W hW (ht 1 (by decide)) τ (ay 1) (ku 1 (sK Tt (some o_) 1)) (some 1) (fun h=>he (ec (cP h)) 1) (dE 1 _) (a 10) (a 11) (a 12) pt)::(ol 0xb6b6b66666661181999b9b91f1fb1fb1 (.u [1,1,1,0,6] (nG B w0 2 (by decide) (Tt 2) (hT 2 (by decide)) (uX 2 (by decide)) W hW (ht 2 (by decide)) τ (ay 2) (ku 2 (sK Tt (some o_) 2)) (some 2) (fun h=>he (ec (cP h)) 2) (dE 2 _) (a 10) (a 11) (a 12) pt)::(ol 0xb7b7b777777711911f1f1fb1fb1f2f2fb2fb1 (.u [1,1,1,0,7] (nG B w0 3 (by decide) (Tt 3) (hT 3 (by decide)) (uX 3 (by decide)) W hW (ht 3 (by decide)) τ (ay 3) (ku 3 (sK Tt (some o_) 3)) (some 3) (fun h=>he (ec (cP h)) 3) (dE 3 _) (a 10) (a 11) (a 12) pt)::(ol 0xb8b8b8888888111f12f2f2fb2fb2f3f3fb3fb1 (.u [1,1,1,0,8] (nG B w0 4 (by decide) (Tt 4) (hT 4 (by decide)) (uX 4 (by decide)) W hW (ht 4 (by decide)) τ (ay 4) (ku 4 (sK Tt (some o_) 4)) (some 4) (fun h=>he (ec (cP h)) 4) (dE 4 _) (a 10) (a 11) (a 12) pt)::(ol 0xb9b9b9991b []))))))))))) z2 z3 [2,2,2,9,9,6,5,4,3,2] 4 1 (fun _ _ _ h=>nomatch h) fun x X Fr=>by revert b1 b2;exact dI (by kernel_rfl)
def P9 (w0:WW)(s:SO)(pt:Str)(out:List LN)(pR:NT)(eo:Nat)(pl:LN)(a:N2):SX (Sem Fin) Result:=⟨toF (bu [aU (wt w0) 9] (aK (wt w0) (a 0) (a 4) (a 5) (a 6) (a 7) (a 8))),[(a 0,ah (jx (a 2) (a 3) (a 1) pt s (some 4)))],[(a 1,ab (ag (out.map (aj 47)) pR) eo)],fun b f=> .ok .next,fun b f=>[(a 0,ah (fL (a 2) (a 3) (a 1) (b 2) pt s none none))],fun b f=>[(a 1,ab (ag (out.map (aj 47)) pR) eo),(b 2,ab (ag ((aL out).map (aj 47)) (f 0)) (b 1000))]⟩
theorem s9 (w0:WW)(s:SO)(pt:Str)(out:List LN)(pR:NT)(eo:Nat)(pl:LN)(a:N2)(ho:∀ q∈out,q≠[]∧∀ d∈q,d<5)(hl:out.length≤900)(ib:out.getLast?=some pl){frx:OE}:hH pw (wd w b1 b2) aa 4 frx true (P9 w0 s pt out pR eo pl a):=
 gJ B aO.none (ol 0x122b2b1 (.u [0,1,0,1] (LO B w0 out ho hl pl ib pR)::(ol 0x44111 []))) (fe [(5,1)]) (oP [(5,0)]) [3,2,1] 1 1 (fun _ _ _ h=>nomatch h) fun x X Fr=>by revert b1 b2 s;exact d4 (by kernel_rfl)
def My (ww:WW)(w0:WW)(s:SO)(pt:Str)(Tt:Nat→List Nat)(ay:Nat→Nat→Tok)(er:N2)(te:Nat)(W:Nat→List Nat)(dG:List LN)(τ dZ:NT)(re we:Nat)(oc oa ov:OV)(a:N2):SX (Sem Fin) Result:=⟨toF (bu [aU (wt w0) 10] (aK (wt w0) (a 0) (a 1) (a 2) (a 3) (a 4) (a 5))),[(a 0,ah (fL (a 14) (a 15) (a 16) (a 7) pt s none none))],[(a 1,ai oc),(a 2,ai oa),(a 3,ai ov),(a 4,cR (a 8)),(a 5,cR (a 6)),(a 6,ab [.ref (a 9),.ref (a 10),.ref (a 11),.ref (a 12),.ref (a 13)] te),(a 7,ab (ag (dG.map (aj 47)) dZ) re),(a 8,ab (aE W τ) we),(a 9,ab (af (Tt 0) (ay 0)) (er 0)),(a 10,ab (af (Tt 1) (ay 1)) (er 1)),(a 11,ab (af (Tt 2) (ay 2)) (er 2)),(a 12,ab (af (Tt 3) (ay 3)) (er 3)),(a 13,ab (af (Tt 4) (ay 4)) (er 4))],fun b f=> .ok .next,fun b f=>[],fun b f=>[]⟩
def IL (ww:WW)(w0:WW)(s:SO)(pt:Str)(Tt:Nat→List Nat)(ay:Nat→Nat→Tok)(er:N2)(te:Nat)(W:Nat→List Nat)(dG:List LN)(τ dZ:NT)(re we:Nat)(oc oa ov:OV)(a:N2):List Env:=[aK ww (a 0) (a 1) (a 2) (a 3) (a 4) (a 5)]
theorem Qa (w0:WW)(s:SO)(pt:Str)(Tt:Nat→List Nat)(ay:Nat→Nat→Tok)(er:N2)(te:Nat)(W:Nat→List Nat)(dG:List LN)(τ dZ:NT)(re we:Nat)(oc oa ov:OV)(a:N2)(hK:∀ rr,mX (sr Tt W dG τ dZ ay (a 14) (a 15) (a 16) pt s rr))(hV:∀ rr,∀ v<5,∃ out d0 ds,yP (sr Tt W dG τ dZ ay (a 14) (a 15) (a 16) pt s rr) v out d0 ds):hH pw (wd w b1 b2) aa 10 (some (IL (wd w b1 b2) w0 s pt Tt ay er te W dG τ dZ re we oc oa ov a)) true (My (wd w b1 b2) w0 s pt Tt ay er te W dG τ dZ re we oc oa ov a):=by
 rcases s with _|s_
 ·exact gJ B aO.refl (ol 0xaabbbb11b1b111b1b1111 (.u [2,0,1,1,1,1,1,1,1,1,1,1,1,1,1] (BL B w0 Tt W dG τ dZ ay (a 14) (a 15) (a 16) pt none hK hV)::[])) z2 z3 [] 1 0 (fun _ _ _ h=>nomatch h) fun x X Fr=>by revert b1 b2;exact dI (by kernel_rfl)
 ·exact gJ B aO.refl (ol 0xaabbbb11b1b111b1b1111 (.u [2,0,1,1,1,1,1,1,1,1,1,1,1,1,1] (BL B w0 Tt W dG τ dZ ay (a 14) (a 15) (a 16) pt (some s_) hK hV)::[])) z2 z3 [] 1 0 (fun _ _ _ h=>nomatch h) fun x X Fr=>by revert b1 b2;exact dI (by kernel_rfl)
def Mz (w0:WW)(a:N2):SX (Sem Fin) Result:=sC (toF (bu [aU (wt w0) 11] (aK (wt w0) (a 0) (a 1) (a 2) (a 3) (a 4) (a 5)))) [] [] (fun b f=> .ok (.ret (.bool true)))
theorem Qb (w0:WW)(a:N2){frx:OE}:hH pw (wd w b1 b2) aa 2 frx true (Mz w0 a):=
 gJ B aO.none [] z2 z3 [] 0 0 (fun _ _ _ h=>nomatch h) fun x X Fr=>by revert b1 b2;exact dI (by kernel_rfl)
end
theorem uY {prog:Program}{w:WW}{A:Around}{s:Shared}{la lb:Nat}{l:List Str}{τ1 τ2:NT}{e1 e2:Nat}(h1:s.heap.get? la=some (ab (ag l τ1) e1))(h2:s.heap.get? lb=some (ab (ag l τ2) e2))(hu:A.units<cLine){E:Value→Shared→Prop}{Q:Value→Shared→Prop}(hQ:Q (.bool false) s):wpAny (model prog w) A (compareOp .NotEq (.ref la) (.ref lb)) Q E s:=by
 have i1:s.heap.IsList la ⟨ag l τ1⟩:=⟨_,h1,rfl,e1,rfl⟩;have i2:s.heap.IsList lb ⟨ag l τ2⟩:=⟨_,h2,rfl,e2,rfl⟩;have E4:(⟨ag l τ1⟩:Array Value).size=(⟨ag l τ2⟩:Array Value).size:=by
  show(ag l τ1).length=(ag l τ2).length;rw[aI,aI]
 have he:(!(List.range (⟨ag l τ1⟩:Array Value).size).all fun _=>true)=false:=by simp
 refine PySem.SeqAt.RcNeAt.lists (e:=fun _=>true) i1 i2 E4 hu (fun j h1 h2=>?_) prog w E Q (by rw[he];exact hQ);have hj:j<l.length:=by
  have zk:j<(ag l τ1).length:=h1
  rwa [aI] at zk
 have g:∀ τ (h:j<(ag l τ).length),(ag l τ)[j]=.str l[j] (τ j):=fun τ h=>by
  have z:=eA l τ j l[j] (cy hj);rw[cy h] at z;injection z
 have z:=PySem.SeqAt.EqAt.str_str (A:=A.in1) (s:=s) l[j] (τ1 j) l[j] (τ2 j);rw[show(l[j]==l[j])=true from by rw[←PySem.SeqAt.str_beq];simp] at z;have a1:(⟨ag l τ1⟩:Array Value)[j]=.str l[j] (τ1 j):=g τ1 h1;have a2:(⟨ag l τ2⟩:Array Value)[j]=.str l[j] (τ2 j):=g τ2 h2;rw[a1,a2];exact z
theorem yo (sc ll tl:Nat)(o:Option (Int×Nat×Nat)):ke sc ll o tl none=bN sc ll o++[(hJ,.ref tl)]:=ck _
theorem yp (sc ll tl:Nat)(pt:Str)(o:Option (Int×Nat×Nat)):jx sc ll tl pt o none=ke sc ll o tl (some pt):=by
 cases o with
 |none=>exact ck _
 |some x=>rfl
theorem yq (sc ll:Nat)(o:Option (Int×Nat×Nat)):bN sc ll o++[]=bN sc ll o:=ck _
structure yr (dz vs:LV)(ns:List Int)(o:Option (Int×Nat×Nat))(T:Nat→List Nat)(dl:LN)(d0:Nat)(ds:LN)(out:List LN)(pl:LN):Prop where
 ho:mH ns ns.length=o
 ie:(slicePick ⟨dz⟩ none (some 14) none).toList=vs
 nt:dz.length≤1000
 hv:vs.length=ns.length
 r4:∀ (i:Nat)(n:Int),ns[i]?=some n→∃ t,vs[i]?=some (.int n t)
 hn:ns.length≤14
 mj:(stN ns ns.length).1=dl
 hT:(stN ns ns.length).2=T
 kX:dl++[0,1,2,3,4]=d0::ds
 hb:dl.length≤14
 cJ:∀ x∈d0::ds,x<5
 hw:cU T [] (d0::ds) [] out
 hd:j3 T [] (d0::ds) out
 fM:out.length≤5
 bq:out≠[]
 ib:out.getLast?=some pl
 hq:∀ q∈out,bY q
 uX:∀ k<5,(T k).length≤100
 vk:∀ k<5,∀ x∈T k,x<5
 pN:∀ k<5,∀ x∈T k,k∈T x
 hW:∀ k<5,bY (fm out out.length k)
 Mo:∀ k<5,(fm out out.length k).length≤5
 ht:∀ a<5,∀ b∈T a,a<b→eY (fm out out.length a) (fm out out.length b)=fm out out.length a∨eY (fm out out.length a) (fm out out.length b)=fm out out.length b
 he:o=none→∀ a,T a=[]
 sq:∀ v<5,∃ cB yQ eS,((List.range 5).filter fun d=>decide (d≠v))=yQ::eS∧cU (fun k=>(T k).filter fun d=>decide (d≠v)) [] (yQ::eS) [] cB∧(∀ q∈cB,q≠[]∧∀ d∈q,d<5)∧cB≠[]∧cB.length≤100∧
  (aL cB).length+(if(fm out out.length v).length=1 then 1 else 0)=(aL out).length+((T v).filter (eK T (List.range 5) (fm out out.length) v)).length
section
variable (b1 b2:Bool){w:WW}{aa:Heap}(B:BB w aa b1 b2)
include B
variable {dz vs:LV}{ns:List Int}{o:Option (Int×Nat×Nat)}{T:Nat→List Nat}{dl:LN}{d0:Nat}{ds:LN}{out:List LN}{pl:LN}(H:yr dz vs ns o T dl d0 ds out pl)
include H
theorem IM (w0:WW)(fr cc ca cv cw ct sc:Nat)(e0:Nat)(x0:Nat→Tk):
  pn w aa b1 b2 8 (some [aK (wd w b1 b2) fr cc ca cv cw ct]) (execs [aU (wt w0) 0,aU (wt w0) 1,aU (wt w0) 2,aU (wt w0) 3,aU (wt w0) 4] (aK (wt w0) fr cc ca cv cw ct))
   (rt [(fr,ah [(gQ,.ref sc)])] x0++[(cc,ai none),(ca,ai none),(cv,ai none),(cw,ai none),(ct,ai none),(sc,ab dz e0)])
   (fun f L=>f=.next∧∃ x ta r te ay er ll τ le tl dg et,L.Perm (rt [(fr,ah (bN sc ll o++[(hJ,.ref tl)]))] x++[(cc,ai none),(ca,ai none),(cv,ai none),(cw,ai none),(ct,cR ta),(ta,ab (au r) te)]++aA r T ay er++[(ll,ab (af (d0::ds) τ) le),(tl,ab (ag (out.map (aj 47)) dg) et)]++[(sc,ab dz e0)])):=by
 generalize h0:aU (wt w0) 0=t0;generalize h1:aU (wt w0) 1=t1;generalize h2:aU (wt w0) 2=t2;generalize h3:aU (wt w0) 3=t3;generalize h4:aU (wt w0) 4=t4;refine j5 (l1:=[t0,t1]) (l2:=[t2,t3,t4]) (P:=fun L=>∃ x1 ta ll r,L.Perm (rt [(fr,ah (bN sc ll none))] x1++[(cc,ai none),(ca,ai none),(cv,ai none),(cw,ai none),(sc,ab dz e0),(ct,cR ta),(ta,ab (au r) 0),(r 0,ab [] 0),(r 1,ab [] 0),(r 2,ab [] 0),(r 3,ab [] 0),(r 4,ab [] 0),(ll,ab [] 0)])) ?_ ?_
 ·let a:N2:=ix [fr,ct,sc,cc,ca,cv,cw]
  have z:=(PW b1 b2 B w0 a (frx:=some [aK (wd w b1 b2) fr cc ca cv cw ct])).ro [(cc,ai none),(ca,ai none),(cv,ai none),(cw,ai none),(sc,ab dz e0)] x0;rw[h0,h1] at z;refine(aM.perm z ?_).mono (by omega) ?_
  ·show List.Perm _ (rt [(fr,ah [(gQ,.ref sc)])] x0++[(ct,ai none)]++[(cc,ai none),(ca,ai none),(cv,ai none),(cw,ai none),(sc,ab dz e0)])
   exact pm [0,5,1,2,3,4,6]
  ·rintro f L ⟨rfl,b,g,x1,rfl⟩
   refine⟨rfl,x1,b 2,b 8,fun i=>match i with|0=>b 3|1=>b 4|2=>b 5|3=>b 6|_=>b 7,?_⟩;show List.Perm (rt [(fr,ah (bN sc (b 8) none))] x1++[(ct,cR (b 2)),(b 2,ab [.ref (b 3),.ref (b 4),.ref (b 5),.ref (b 6),.ref (b 7)] 0),(b 3,ab [] 0),(b 4,ab [] 0),(b 5,ab [] 0),(b 6,ab [] 0),(b 7,ab [] 0),(b 8,ab [] 0)]++[(cc,ai none),(ca,ai none),(cv,ai none),(cw,ai none),(sc,ab dz e0)])
    (rt [(fr,ah (bN sc (b 8) none))] x1++[(cc,ai none),(ca,ai none),(cv,ai none),(cw,ai none),(sc,ab dz e0),(ct,cR (b 2)),(b 2,ab [.ref (b 3),.ref (b 4),.ref (b 5),.ref (b 6),.ref (b 7)] 0),(b 3,ab [] 0),(b 4,ab [] 0),(b 5,ab [] 0),(b 6,ab [] 0),(b 7,ab [] 0),(b 8,ab [] 0)])
   exact pm [0,9,10,11,12,13,1,2,3,4,5,6,7,8]
 rintro L ⟨x1,ta,ll,r,hL⟩;let a2:N2:=ix [fr,sc,ct,ta,ll,r 0,r 1,r 2,r 3,r 4,cc,ca,cv,cw];have z2:=(s2 b1 b2 B w0 dz vs ns e0 0 0 (fun _=>0) o a2 H.ho H.ie H.nt H.hv H.r4 H.hn (frx:=some [aK (wd w b1 b2) fr cc ca cv cw ct])).ro [(cc,ai none),(ca,ai none),(cv,ai none),(cw,ai none)] x1;rw[h2] at z2;refine bF (de ((aM.perm z2 (hL.trans ?_)).mono (by omega) fun _ _ h=>h)) ?_
 ·show List.Perm _ (rt [(fr,ah (bN sc ll none))] x1++[(sc,ab dz e0),(ct,cR ta),(ta,ab (au r) 0),(ll,ab [] 0),(r 0,ab [] 0),(r 1,ab [] 0),(r 2,ab [] 0),(r 3,ab [] 0),(r 4,ab [] 0)]++[(cc,ai none),(ca,ai none),(cv,ai none),(cw,ai none)])
  exact pm [0,5,6,7,13,8,9,10,11,12,1,2,3,4]
 rintro f L2 ⟨rfl,b,g,x2,rfl⟩;show aM _ _ _ _ _ (execs [t3,t4] (aK (wt w0) fr cc ca cv cw ct)) _ _;let ay:Nat→Nat→Tok:=fun i=>g (i+1);let er:N2:=fun i=>b (i+1001);let a3:N2:=ix [fr,ll,sc,cc,ca,cv,cw,ct];let Y3:Ow:=[(cc,ai none),(ca,ai none),(cv,ai none),(cw,ai none),(sc,ab dz e0),(ct,cR ta),(ta,ab (au r) 0)]++aA r T ay er;have z3:=(s3 b1 b2 B w0 o dl (g 0) (b 1000) a3 (by have:=H.hb;omega) (frx:=some [aK (wd w b1 b2) fr cc ca cv cw ct])).ro Y3 x2;rw[h3] at z3;refine bF (de ((aM.perm z3 ?_).mono (by omega) fun _ _ h=>h)) ?_
 ·show List.Perm (rt [(fr,ah (bN sc ll o))] x2++[(sc,ab dz e0),(ct,cR ta),(ta,ab (au r) 0),(ll,ab (af (stN ns ns.length).1 (g 0)) (b 1000)),(r 0,ab (af ((stN ns ns.length).2 0) (g 1)) (b 1001)),(r 1,ab (af ((stN ns ns.length).2 1) (g 2)) (b 1002)),(r 2,ab (af ((stN ns ns.length).2 2) (g 3)) (b 1003)),(r 3,ab (af ((stN ns ns.length).2 3) (g 4)) (b 1004)),(r 4,ab (af ((stN ns ns.length).2 4) (g 5)) (b 1005))]++[(cc,ai none),(ca,ai none),(cv,ai none),(cw,ai none)])
   (rt [(fr,ah (bN sc ll o++[]))] x2++[(ll,ab (af dl (g 0)) (b 1000))]++Y3)
  rw[yq,H.hT,H.mj];show List.Perm (rt [(fr,ah (bN sc ll o))] x2++[(sc,ab dz e0),(ct,cR ta),(ta,ab (au r) 0),(ll,ab (af dl (g 0)) (b 1000)),(r 0,ab (af (T 0) (g 1)) (b 1001)),(r 1,ab (af (T 1) (g 2)) (b 1002)),(r 2,ab (af (T 2) (g 3)) (b 1003)),(r 3,ab (af (T 3) (g 4)) (b 1004)),(r 4,ab (af (T 4) (g 5)) (b 1005))]++[(cc,ai none),(ca,ai none),(cv,ai none),(cw,ai none)])
   (rt [(fr,ah (bN sc ll o))] x2++[(ll,ab (af dl (g 0)) (b 1000))]++([(cc,ai none),(ca,ai none),(cv,ai none),(cw,ai none),(sc,ab dz e0),(ct,cR ta),(ta,ab (au r) 0)]++[(r 0,ab (af (T 0) (g 1)) (b 1001)),(r 1,ab (af (T 1) (g 2)) (b 1002)),(r 2,ab (af (T 2) (g 3)) (b 1003)),(r 3,ab (af (T 3) (g 4)) (b 1004)),(r 4,ab (af (T 4) (g 5)) (b 1005))]))
  exact pm [0,4,10,11,12,13,1,2,3,5,6,7,8,9]
 rintro f L3 ⟨rfl,b',g',x3,rfl⟩;show aM _ _ _ _ _ (execs [t4] (aK (wt w0) fr cc ca cv cw ct)) _ _;let a4:N2:=ix [fr,cc,ca,cv,cw,ct,ta,r 0,r 1,r 2,r 3,r 4,b' 1,sc];have hlen:(d0::ds).length≤100:=by
  rw[←H.kX,List.length_append];have:=H.hb;simp only[dS,List.length_nil];omega
 let R5:Ow:=[(r 0,ab (af (T 0) (ay 0)) (er 0)),(r 1,ab (af (T 1) (ay 1)) (er 1)),(r 2,ab (af (T 2) (ay 2)) (er 2)),(r 3,ab (af (T 3) (ay 3)) (er 3)),(r 4,ab (af (T 4) (ay 4)) (er 4))];have z4:=(s4 b1 b2 B w0 o T ay er 0 d0 ds (g' 0) 0 out a4 H.cJ hlen H.hw (by have:=H.fM;omega)).ro [(sc,ab dz e0)] x3;rw[h4] at z4;refine(aM.perm z4 ?_).mono (by omega) ?_
 ·show List.Perm (rt [(fr,ah (bN sc (b' 1) o++[]))] x3++[(b' 1,ab (af (dl++[0,1,2,3,4]) (g' 0)) 0)]++([(cc,ai none),(ca,ai none),(cv,ai none),(cw,ai none),(sc,ab dz e0),(ct,cR ta),(ta,ab (au r) 0)]++R5))
   (rt [(fr,ah (bN sc (b' 1) o++[]))] x3++([(cc,ai none),(ca,ai none),(cv,ai none),(cw,ai none),(ct,cR ta),(ta,ab (au r) 0)]++R5++[(b' 1,ab (af (d0::ds) (g' 0)) 0)])++[(sc,ab dz e0)])
  rw[H.kX];exact pm [0,2,3,4,5,7,8,9,10,11,12,13,1,6]
 ·rintro f L4 ⟨rfl,b4,g4,x4,rfl⟩
  refine⟨rfl,x4,ta,r,0,ay,er,b' 1,g' 0,0,b4 13,g4 0,b4 1000,?_⟩;show List.Perm (rt [(fr,ah (bN sc (b' 1) o++[(hJ,.ref (b4 13))]))] x4++([(cc,ai none),(ca,ai none),(cv,ai none),(cw,ai none),(ct,cR ta),(ta,ab (au r) 0)]++R5++[(b' 1,ab (af (d0::ds) (g' 0)) 0),(b4 13,ab (ag (out.map (aj 47)) (g4 0)) (b4 1000))])++[(sc,ab dz e0)])
   (rt [(fr,ah (bN sc (b' 1) o++[(hJ,.ref (b4 13))]))] x4++[(cc,ai none),(ca,ai none),(cv,ai none),(cw,ai none),(ct,cR ta),(ta,ab (au r) 0)]++R5++[(b' 1,ab (af (d0::ds) (g' 0)) 0),(b4 13,ab (ag (out.map (aj 47)) (g4 0)) (b4 1000))]++[(sc,ab dz e0)])
  exact pm [0,1,2,3,4,5,6,7,8,9,10,11,12,13,14]
end
section
variable (b1 b2:Bool){w:WW}{aa:Heap}(B:BB w aa b1 b2)
include B
variable {dz vs:LV}{ns:List Int}{o:Option (Int×Nat×Nat)}{T:Nat→List Nat}{dl:LN}{d0:Nat}{ds:LN}{out:List LN}{pl:LN}(H:yr dz vs ns o T dl d0 ds out pl)
include H
theorem IP (w0:WW)(fr cc ca cv cw ct sc ll tl ta:Nat)(r:N2)(te le et:Nat)(ay:Nat→Nat→Tok)(er:N2)(τ dg:NT)(Y:Ow)(x0:Nat→Tk):
  pn w aa b1 b2 6 none (exec (aU (wt w0) 5) (aK (wt w0) fr cc ca cv cw ct))
   (rt [(fr,ah (bN sc ll o++[(hJ,.ref tl)]))] x0++[(ct,cR ta),(ta,ab (au r) te)]++aA r T ay er++[(ll,ab (af (d0::ds) τ) le),(tl,ab (ag (out.map (aj 47)) dg) et)]++Y)
   (fun f L=>f=.next∧∃ x Gb,L.Perm (rt [(fr,ah (bN sc ll o++[(hJ,.ref tl)]))] x++[(ct,cR ta),(ta,ab (au r) te)]++aA r T ay er++[(ll,ab (af (d0::ds) τ) le),(tl,ab (ag (out.map (aj 47)) dg) et)]++Y++Gb)):=by
 rw[H5];have zl:=P4 b1 b2 B w0 o;have zr:=P5 b1 b2 B w0 o T ay er te d0 ds τ le out;have hm:=H6 w0;unfold IJ at zl;unfold IK at zr;generalize jv (bj (aU (wt w0) 5))=el at zl ⊢;generalize gO (bj (aU (wt w0) 5))=Jb at zr hm ⊢;generalize subAt [5,0] (nk (wt w0))=bd;let a:N2:=ix [fr,sc,ll,tl,cc,ca,cv,cw,ct];let a':N2:=ix [fr,ct,ta,r 0,r 1,r 2,r 3,r 4,ll,sc,tl,cc,ca,cv,cw];let R5:Ow:=[(r 0,ab (af (T 0) (ay 0)) (er 0)),(r 1,ab (af (T 1) (ay 1)) (er 1)),(r 2,ab (af (T 2) (ay 2)) (er 2)),(r 3,ab (af (T 3) (ay 3)) (er 3)),(r 4,ab (af (T 4) (ay 4)) (er 4))];have hR:aA r T ay er=R5:=rfl;rw[hR];let FK:(Nat→Tk)→Ow:=fun x=>rt [(fr,ah (bN sc ll o++[(hJ,.ref tl)]))] x;let Y1:Ow:=[(ct,cR ta),(ta,ab (au r) te)]++R5++[(ll,ab (af (d0::ds) τ) le),(tl,ab (ag (out.map (aj 47)) dg) et)]++Y;refine jT (P1:=fun b L=>b=false∧∃ x Gb,L.Perm (FK x++Y1++Gb)) ((iu (v:=false) (P1:=fun v L=>v=.ref tl∧∃ x,L=FK x++Y1)
  (P2:=fun v u L=>v=.ref tl∧∃ x q hU eq,u=.ref q∧L.Perm ([(q,ab (ag (out.map (aj 47)) hU) eq)]++(FK x++Y1))) hm ?_ ?_ ?_).mono lr ?_) ?_ ?_
 ·have z:=(zl a (frx:=none)).ev Y1 x0
  refine(aM.perm z ?_).mono (by omega) ?_
  ·show List.Perm (FK x0++[(ct,cR ta),(ta,ab (au r) te)]++R5++[(ll,ab (af (d0::ds) τ) le),(tl,ab (ag (out.map (aj 47)) dg) et)]++Y) (FK x0++[]++([(ct,cR ta),(ta,ab (au r) te)]++R5++[(ll,ab (af (d0::ds) τ) le),(tl,ab (ag (out.map (aj 47)) dg) et)]++Y))
   exact pm [0,1,2,3,4,5,6,7,8,9,10]
  ·rintro v L ⟨b,g,x',rfl,rfl⟩
   exact⟨rfl,x',rfl⟩
 ·rintro v L ⟨rfl,x1,rfl⟩
  have z:=(zr a' H.hd (fun q hq=>⟨(H.hq q hq).ne,(H.hq q hq).lt,(H.hq q hq).len⟩) (by have:=H.fM;omega) H.bq (frx:=none)).ev ([(tl,ab (ag (out.map (aj 47)) dg) et)]++Y) x1;refine(aM.perm z ?_).mono (by omega) ?_
  ·show List.Perm (FK x1++([(ct,cR ta),(ta,ab (au r) te)]++R5++[(ll,ab (af (d0::ds) τ) le),(tl,ab (ag (out.map (aj 47)) dg) et)]++Y)) (FK x1++([(ct,cR ta),(ta,ab (au r) te)]++R5++[(ll,ab (af (d0::ds) τ) le)])++([(tl,ab (ag (out.map (aj 47)) dg) et)]++Y))
   exact pm [0,1,2,3,4,5,6,7,8,9,10]
  ·rintro u L ⟨b,g,x',rfl,rfl⟩
   refine⟨rfl,x',b 9,g 0,b 1000,rfl,?_⟩;show List.Perm (FK x'++([(ct,cR ta),(ta,ab (au r) te)]++R5++[(ll,ab (af (d0::ds) τ) le),(b 9,ab (ag (out.map (aj 47)) (g 0)) (b 1000))])++([(tl,ab (ag (out.map (aj 47)) dg) et)]++Y)) ([(b 9,ab (ag (out.map (aj 47)) (g 0)) (b 1000))]++(FK x'++([(ct,cR ta),(ta,ab (au r) te)]++R5++[(ll,ab (af (d0::ds) τ) le),(tl,ab (ag (out.map (aj 47)) dg) et)]++Y)));exact pm [9,0,1,2,3,4,5,6,7,8,10,11]
 ·rintro v u L ⟨rfl,x,q,hU,eq,rfl,hL⟩ A s Fr size hA hD E Q hQ
  have:=hA.un;have gZ:=hD.perm (hL.append_right Fr);exact uY (l:=out.map (aj 47)) (τ1:=dg) (τ2:=hU) (e1:=et) (e2:=eq) (gZ.get (by simp[Y1]) (fun _=>rfl)) (gZ.get (by simp) (fun _=>rfl)) (by omega) hQ
 ·rintro b L ⟨rfl,v,u,rfl,x,q,hU,eq,rfl,hL⟩
  refine⟨rfl,x,[(q,ab (ag (out.map (aj 47)) hU) eq)],hL.trans ?_⟩;exact pm [1,2,3,4,5,6,7,8,9,10,11,0]
 ·rintro L ⟨h,_⟩
  cases h
 ·rintro L ⟨_,x,Gb,hL⟩
  refine fD ⟨rfl,x,Gb,hL.trans ?_⟩;show List.Perm (FK x++([(ct,cR ta),(ta,ab (au r) te)]++R5++[(ll,ab (af (d0::ds) τ) le),(tl,ab (ag (out.map (aj 47)) dg) et)]++Y)++Gb) (FK x++[(ct,cR ta),(ta,ab (au r) te)]++R5++[(ll,ab (af (d0::ds) τ) le),(tl,ab (ag (out.map (aj 47)) dg) et)]++Y++Gb);exact pm [0,1,2,3,4,5,6,7,8,9,10,11]
theorem IQ (w0:WW)(fr cc ca cv cw ct sc ll tl ta:Nat)(r:N2)(te et:Nat)(ay:Nat→Nat→Tok)(er:N2)(dg:NT)(Y:Ow)(x0:Nat→Tk):
  pn w aa b1 b2 5 none (execs [aU (wt w0) 6,aU (wt w0) 7,aU (wt w0) 8,aU (wt w0) 9] (aK (wt w0) fr cc ca cv cw ct))
   (rt [(fr,ah (bN sc ll o++[(hJ,.ref tl)]))] x0++[(cw,ai none),(ct,cR ta),(ta,ab (au r) te)]++aA r T ay er++[(tl,ab (ag (out.map (aj 47)) dg) et)]++Y)
   (fun f L=>f=.next∧∃ x wl τ we rl dZ re,L.Perm (rt [(fr,ah (fL sc ll tl rl (aj 47 pl) (sK T o 5) none none))] x++[(cw,cR wl),(ct,cR ta),(ta,ab (au r) te),(rl,ab (ag ((aL out).map (aj 47)) dZ) re),(wl,ab (aE (fm out out.length) τ) we)]++aA r T ay er++[(tl,ab (ag (out.map (aj 47)) dg) et)]++Y)):=by
 generalize h6:aU (wt w0) 6=t6;generalize h7:aU (wt w0) 7=t7;generalize h8:aU (wt w0) 8=t8;generalize h9:aU (wt w0) 9=t9;let R5:Ow:=[(r 0,ab (af (T 0) (ay 0)) (er 0)),(r 1,ab (af (T 1) (ay 1)) (er 1)),(r 2,ab (af (T 2) (ay 2)) (er 2)),(r 3,ab (af (T 3) (ay 3)) (er 3)),(r 4,ab (af (T 4) (ay 4)) (er 4))];have hR:aA r T ay er=R5:=rfl;rw[hR];let a6:N2:=ix [fr,cw,sc,ll,tl,cc,ca,cv,ct];let Y6:Ow:=[(ct,cR ta),(ta,ab (au r) te)]++R5++[(tl,ab (ag (out.map (aj 47)) dg) et)]++Y;have z6:=(P6 b1 b2 B w0 o a6 (frx:=none)).ro Y6 x0;rw[h6] at z6;refine bF (de ((aM.perm z6 ?_).mono (by omega) fun _ _ h=>h)) ?_
 ·show List.Perm _ (rt [(fr,ah (ke sc ll o tl none))] x0++[(cw,ai none)]++Y6)
  rw[yo];exact pm [0,1,2,3,4,5,6,7,8,9,10]
 rintro f L ⟨rfl,b6,g6,x6,rfl⟩;show aM _ _ _ _ _ (execs [t7,t8,t9] (aK (wt w0) fr cc ca cv cw ct)) _ _;let a7:N2:=ix [fr,cw,b6 1,tl,sc,ll,cc,ca,cv,ct];let Y7:Ow:=[(ct,cR ta),(ta,ab (au r) te)]++R5++Y;have Qc:∀ q∈out,∃ dp d,q=dp++[d]∧(∀ x∈dp,x<5)∧d<5:=fun q hq=>by
  have hp:=H.hq q hq;rcases List.eq_nil_or_concat q with h|⟨dp,d,h⟩
  ·exact absurd h hp.ne
  ·rw[List.concat_eq_append] at h
   subst h;exact⟨dp,d,rfl,fun x hx=>hp.lt x (List.mem_append_left _ hx),hp.lt d (List.mem_append_right _ bT)⟩
 have z7:=(s7 b1 b2 B w0 o out pl dg (x6 1).v et (x6 1).e a7 Qc (by have:=H.fM;omega) H.ib (frx:=none)).ro Y7 (fun i=>x6 i);rw[h7] at z7;refine bF (de ((aM.perm z7 ?_).mono (by omega) fun _ _ h=>h)) ?_
 ·show List.Perm (rt [(fr,ah (ke sc ll o tl none))] x6++[(b6 1,ab (aE (fun _=>[]) (x6 1).v) (x6 1).e)]++[(cw,cR (b6 1))]++Y6) (rt [(fr,ah (ke sc ll o tl none))] x6++[(cw,cR (b6 1)),(b6 1,ab (aE (fun _=>[]) (x6 1).v) (x6 1).e),(tl,ab (ag (out.map (aj 47)) dg) et)]++Y7)
  exact pm [0,2,1,10,3,4,5,6,7,8,9,11]
 rintro f L ⟨rfl,b7,g7,x7,rfl⟩;show aM _ _ _ _ _ (execs [t8,t9] (aK (wt w0) fr cc ca cv cw ct)) _ _;let a8:N2:=ix [fr,cw,b6 1,ct,ta,r 0,r 1,r 2,r 3,r 4,sc,ll,tl,cc,ca,cv];let Y8:Ow:=[(tl,ab (ag (out.map (aj 47)) dg) et)]++Y;have z8:=(s8 b1 b2 B w0 o (aj 47 pl) (fm out out.length) (g7 0) (x6 1).e T ay er te a8 H.vk H.uX H.hW H.ht H.he (frx:=none)).ro Y8 x7;rw[h8] at z8;refine bF (de ((aM.perm z8 ?_).mono (by omega) fun _ _ h=>h)) ?_
 ·show List.Perm (rt [(fr,ah (ke sc ll o tl (some (aj 47 pl))))] x7++[(cw,cR (b6 1)),(b6 1,ab (aE (fm out out.length) (g7 0)) (x6 1).e),(tl,ab (ag (out.map (aj 47)) dg) et)]++Y7)
   (rt [(fr,ah (jx sc ll tl (aj 47 pl) o none))] x7++([(cw,cR (b6 1)),(b6 1,ab (aE (fm out out.length) (g7 0)) (x6 1).e),(ct,cR ta),(ta,ab (au r) te)]++R5)++Y8)
  rw[yp];exact pm [0,1,2,4,5,6,7,8,9,10,3,11]
 rintro f L ⟨rfl,b8,g8,x8,rfl⟩;show aM _ _ _ _ _ (execs [t9] (aK (wt w0) fr cc ca cv cw ct)) _ _;let a9:N2:=ix [fr,tl,sc,ll,cc,ca,cv,cw,ct];let Y9:Ow:=[(cw,cR (b6 1)),(b6 1,ab (aE (fm out out.length) (g7 0)) (x6 1).e),(ct,cR ta),(ta,ab (au r) te)]++R5++Y;have z9:=(s9 b1 b2 B w0 (sK T o 5) (aj 47 pl) out dg et pl a9 (fun q hq=>⟨(H.hq q hq).ne,(H.hq q hq).lt⟩) (by have:=H.fM;omega) H.ib (frx:=none)).ro Y9 x8;rw[h9] at z9;refine(aM.perm z9 ?_).mono (by omega) ?_
 ·show List.Perm (rt [(fr,ah (jx sc ll tl (aj 47 pl) (sK T o 5) (some 4)))] x8++([(cw,cR (b6 1)),(b6 1,ab (aE (fm out out.length) (g7 0)) (x6 1).e),(ct,cR ta),(ta,ab (au r) te)]++R5)++Y8)
   (rt [(fr,ah (jx sc ll tl (aj 47 pl) (sK T o 5) (some 4)))] x8++[(tl,ab (ag (out.map (aj 47)) dg) et)]++Y9)
  exact pm [0,10,1,2,3,4,5,6,7,8,9,11]
 ·rintro f L ⟨rfl,b9,g9,x9,rfl⟩
  refine⟨rfl,x9,b6 1,g7 0,(x6 1).e,b9 2,g9 0,b9 1000,?_⟩;show List.Perm (rt [(fr,ah (fL sc ll tl (b9 2) (aj 47 pl) (sK T o 5) none none))] x9++[(tl,ab (ag (out.map (aj 47)) dg) et),(b9 2,ab (ag ((aL out).map (aj 47)) (g9 0)) (b9 1000))]++Y9) _;exact pm [0,3,5,6,2,4,7,8,9,10,11,1,12]
omit B in
theorem EL (rr:Ow)(τ dZ:NT)(ay:Nat→Nat→Tok)(sc ll tl:Nat)(pt:Str)(s:SO):mX (sr T (fm out out.length) (aL out) τ dZ ay sc ll tl pt s rr) where
 hT:=H.uX
 vk:=H.vk
 pN:=H.pN
 hW:=H.hW
 hl:=H.Mo
 hR:=by
  have h1:=H.fM;have h2:(aL out).length≤out.length:=List.length_filter_le _ _;show(aL out).length≤100;omega
omit B in
theorem EM (rr:Ow)(τ dZ:NT)(ay:Nat→Nat→Tok)(sc ll tl:Nat)(pt:Str)(s:SO):∀ v<5,∃ cB d0 ds,yP (sr T (fm out out.length) (aL out) τ dZ ay sc ll tl pt s rr) v cB d0 ds:=fun v hv=>by
 obtain⟨cB,yQ,eS,h1,h2,h3,h4,h5,h6⟩:=H.sq v hv;exact⟨cB,yQ,eS,⟨h1,h2,h3,h4,h5,h6⟩⟩
theorem IS (w0:WW)(fr cc ca cv cw ct sc ll tl ta rl wl:Nat)(r:N2)(te re we:Nat)(ay:Nat→Nat→Tok)(er:N2)(τ dZ:NT)(pt:Str)(s:SO)(Y:Ow)(x0:Nat→Tk):
  pn w aa b1 b2 10 (some [aK (wd w b1 b2) fr cc ca cv cw ct]) (execs [aU (wt w0) 10,aU (wt w0) 11] (aK (wt w0) fr cc ca cv cw ct))
   (rt [(fr,ah (fL sc ll tl rl pt s none none))] x0++[(cc,ai none),(ca,ai none),(cv,ai none),(cw,cR wl),(ct,cR ta),(ta,ab (au r) te),(rl,ab (ag ((aL out).map (aj 47)) dZ) re),(wl,ab (aE (fm out out.length) τ) we)]++aA r T ay er++Y)
   (fun f L=>f=.ret (.bool true)∧∀ p∈Y,p∈L):=by
 generalize Qd:aU (wt w0) 10=MA;generalize Qe:aU (wt w0) 11=Jn;let a:N2:=ix [fr,cc,ca,cv,cw,ct,ta,rl,wl,r 0,r 1,r 2,r 3,r 4,sc,ll,tl];have z:=(Qa b1 b2 B w0 s pt T ay er te (fm out out.length) (aL out) τ dZ re we none none none a (fun rr=>EL H rr τ dZ ay sc ll tl pt s) (fun rr=>EM H rr τ dZ ay sc ll tl pt s)).ro Y x0;rw[Qd] at z;refine bF (de ((aM.perm z (.refl _)).mono (by omega) fun _ _ h=>h)) ?_;rintro f L ⟨rfl,b,g,x1,hL⟩;show aM _ _ _ _ _ (execs [Jn] (aK (wt w0) fr cc ca cv cw ct)) _ _;let a1:N2:=ix [fr,cc,ca,cv,cw,ct];have Jo:=(Qb b1 b2 B w0 a1 (frx:=some [aK (wd w b1 b2) fr cc ca cv cw ct])).use L x1;have Jo:=dc Jo;rw[Qe] at Jo;refine(aM.perm Jo ?_).mono (by omega) ?_
 ·show List.Perm L (rt [] x1++[]++L)
  exact .refl _
 ·rintro f L' ⟨q,b,g,x',hq,hr,vR⟩
  cases hq;have eT:(Except.ok f:Result)=.ok (.ret (.bool true)):=hr;refine⟨by injection eT,fun p hp=>?_⟩;rw[vR,hL];exact List.mem_append_right _ (List.mem_append_right _ hp)
theorem AS (w0:WW)(fr cc ca cv cw ct sc e0:Nat)(x0:Nat→Tk):
  pn w aa b1 b2 10 (some [aK (wd w b1 b2) fr cc ca cv cw ct]) (execs (nk (wt w0)) (aK (wt w0) fr cc ca cv cw ct))
   (rt [(fr,ah [(gQ,.ref sc)])] x0++[(cc,ai none),(ca,ai none),(cv,ai none),(cw,ai none),(ct,ai none),(sc,ab dz e0)])
   (fun f L=>f=.ret (.bool true)∧(sc,ab dz e0)∈L):=by
 have zA:=IM b1 b2 B H w0 fr cc ca cv cw ct sc e0 x0;have z5:=IP b1 b2 B H w0 fr cc ca cv cw ct sc;have zC:=IQ b1 b2 B H w0 fr cc ca cv cw ct sc;have zD:=IS b1 b2 B H w0 fr cc ca cv cw ct sc;rw[zu];generalize aU (wt w0) 0=t0 at zA ⊢;generalize aU (wt w0) 1=t1 at zA ⊢;generalize aU (wt w0) 2=t2 at zA ⊢;generalize aU (wt w0) 3=t3 at zA ⊢;generalize aU (wt w0) 4=t4 at zA ⊢;generalize aU (wt w0) 5=t5 at z5 ⊢;generalize aU (wt w0) 6=t6 at zC ⊢;generalize aU (wt w0) 7=t7 at zC ⊢;generalize aU (wt w0) 8=t8 at zC ⊢;generalize aU (wt w0) 9=t9 at zC ⊢;generalize aU (wt w0) 10=MA at zD ⊢;generalize aU (wt w0) 11=Jn at zD ⊢;generalize aK (wt w0) fr cc ca cv cw ct=E at zA z5 zC zD ⊢;refine j5 (l1:=[t0,t1,t2,t3,t4]) (l2:=[t5,t6,t7,t8,t9,MA,Jn]) (zA.mono (by omega) fun _ _ h=>h) ?_;rintro L ⟨x1,ta,r,te,ay,er,ll,τ,le,tl,dg,et,hL⟩;generalize Qf:([(sc,ab dz e0)]:Ow)=Gb at hL;refine bF (((aM.perm (z5 ll tl ta r te le et ay er τ dg ([(cc,ai none),(ca,ai none),(cv,ai none),(cw,ai none)]++Gb) x1) (hL.trans ?_)).some).mono (by omega) fun _ _ h=>h) ?_
 ·exact pm [0,5,6,7,8,9,1,2,3,4,10]
 rintro f L2 ⟨rfl,x2,uk,wD⟩;show aM _ _ _ _ _ (execs ([t6,t7,t8,t9]++[MA,Jn]) E) _ _;refine j5 (((aM.perm (zC ll tl ta r te et ay er dg ([(cc,ai none),(ca,ai none),(cv,ai none),(ll,ab (af (d0::ds) τ) le)]++Gb++uk) x2) (wD.trans ?_)).some).mono (by omega) fun _ _ h=>h) ?_
 ·exact pm [0,9,1,2,3,5,6,7,8,4,10,11]
 rintro L3 ⟨x3,wl,ia,we,rl,dZ,re,IC⟩;refine(aM.perm (zD ll tl ta rl wl r te re we ay er ia dZ (aj 47 pl) (sK T o 5) ([(ll,ab (af (d0::ds) τ) le),(tl,ab (ag (out.map (aj 47)) dg) et)]++Gb++uk) x3) (IC.trans ?_)).mono lr fun f L hf=>⟨hf.1,hf.2 _ (List.mem_append_left _ (List.mem_append_right _ (Qf▸bT)))⟩;exact pm [0,8,9,10,1,2,3,4,5,6,11,7,12,13]
end
set_option autoImplicit false
structure EN (T:Nat→List Nat):Prop where
 lt:∀ a<5,∀ x∈T a,x<5
 len:∀ a<5,(T a).length≤5
noncomputable abbrev V5:LN:=[0,1,2,3,4]
theorem fN {x:Nat}:x∈V5↔x<5:=by simp[V5];omega
section
variable {T:Nat→List Nat}(hT:EN T)
include hT
theorem iS {p bs s:LN}{o:List LN}{s':LN}(h:dr T p bs s o s'):(∀ x∈bs,x<5)→o.length+bP V5 s'≤bP V5 s∧s'.length=s.length+o.length:=by
 induction h with
 |nil=>intro _;simp
 |skip _ _ ih=>exact fun hb=>ih fun x hx=>hb x (bE _ hx)
 |@take p b bs s o1 s1 o2 s2 h z1 z2 i1 i2=>
  intro hb;have jl:=hb b bT;have h1:=i1 (hT.lt b jl);have h2:=i2 fun x hx=>hb x (bE _ hx);have h3:=dY (fN.mpr jl) h;simp at h1 ⊢;omega
theorem yt {p bs s:LN}{o:List LN}{s':LN}(h:dr T p bs s o s'):(∀ x∈bs,x<5)→(∀ x∈p,x<5)→∀ (stk:List LN)(rest:LN)(cB:List LN),bs.length+stk.length+5*bP V5 s≤400→p.length+bP V5 s≤40→s.length+bP V5 s≤40→cU T stk rest s' cB→cU T (bs.map (fun b=>p++[b])++stk) rest s (o++cB):=by
 induction h with
 |nil=>intro _ _ stk rest cB _ _ _ z;exact z
 |@skip p b bs s o s' h z ih=>
  intro hb hp stk rest cB k1 k2 k3 zz;exact .skip (.pop) (by simp at k1 ⊢;omega) (by omega) (hb b bT) hp h (ih (fun x hx=>hb x (bE _ hx)) hp stk rest cB (by simp at k1;omega) k2 k3 zz)
 |@take p b bs s o1 s1 o2 s2 h z1 z2 i1 i2=>
  intro hb hp stk rest cB k1 k2 k3 zz;have jl:=hb b bT;have Qg:∀ x∈bs,x<5:=fun x hx=>hb x (bE _ hx);have h3:=dY (fN.mpr jl) h;have l1:=iS hT z1 (hT.lt b jl);have hl:=hT.len b jl;simp only[dS] at k1 l1;have w2:=i2 Qg hp stk rest cB (by omega) (by omega) (by omega) zz;have w1:=i1 (hT.lt b jl) (fun x hx=>by
   rcases cS.mp hx with hx|hx
   ·exact hp x hx
   ·rw[List.mem_singleton.mp hx];exact jl) (bs.map (fun b=>p++[b])++stk) rest (o2++cB) (by simp;omega) (by simp;omega) (by simp;omega) w2
  have w:=cU.take (T:=T) (rest:=rest) (seen:=s) (dp:=p) (d:=b) (stk':=bs.map (fun b=>p++[b])++stk) (rest':=rest) (stk:=(p++[b])::(bs.map (fun b=>p++[b])++stk)) .pop (by simp;omega) (by omega) jl hp h (by omega) (by omega) (hT.lt b jl) w1;simpa using w
theorem uZ {p line s:LN}{o:List LN}{s':LN}(h:dr T p line s o s'):p=[]→(∀ x∈line,x<5)→s.length+bP V5 s≤40→cU T [] line s o:=by
 have hu:∀ s,bP V5 s≤5:=fun s=>by
  have:=gG V5 (s:=[]) (s':=s) (fun x hx=>nomatch hx);exact this
 induction h with
 |nil=>intro _ _ _;exact .done
 |@skip p b bs s o s' h z ih=>
  intro hp hb k;exact .skip (dp:=[]) .read (by simp) (by simp) (hb b bT) (fun x hx=>nomatch hx) h (ih hp (fun x hx=>hb x (bE _ hx)) k)
 |@take p b bs s o1 s1 o2 s2 h z1 z2 i1 i2=>
  intro hp hb k;subst hp;have jl:=hb b bT;have h3:=dY (fN.mpr jl) h;have l1:=iS hT z1 (hT.lt b jl);have hl:=hT.len b jl;have:=hu (b::s);simp only[dS] at l1;have w2:=i2 rfl (fun x hx=>hb x (bE _ hx)) (by omega);have w1:=yt hT z1 (hT.lt b jl) (fun x hx=>by rw[List.mem_singleton.mp hx];exact jl) [] bs o2 (by simp;omega) (by simp;omega) (by simp;omega) w2;exact cU.take (dp:=[]) .read (by simp) (by simp) jl (fun x hx=>nomatch hx) h (by omega) (by omega) (hT.lt b jl) (by simpa using w1)
theorem yu {p bs s:LN}{o:List LN}{s':LN}(h:dr T p bs s o s'):p≠[]→az p<5→(∀ x∈bs,x<5)→∀ (ws uQ:List LN)(pre:LN),T (az p)=pre++bs→(∀ x∈pre,x∈s)→(∀ x,x∈ws.map az↔x∈s)→ws.length+bP V5 s≤90→p.length+bP V5 s≤90→kl T (ws++o) p.dropLast uQ→kl T ws p uQ:=by
 induction h with
 |@nil p s=>
  intro hp hd _ ws uQ pre Fc eg su k1 k2 z;have hl:=hT.len _ hd;refine .pop hp hd (by omega) (by omega) (by omega) ?_ (by simpa using z);rw[List.filter_eq_nil_iff];intro x hx;rw[Fc,ck] at hx;simp only[dU,Classical.not_not];exact(su x).mpr (eg x hx)
 |@skip p b bs s o s' h z ih=>
  intro hp hd hb ws uQ pre Fc eg su k1 k2 zz;exact ih hp hd (fun x hx=>hb x (bE _ hx)) ws uQ (pre++[b]) (by rw[Fc];simp) (fun x hx=>by
   rcases cS.mp hx with hx|hx
   ·exact eg x hx
   ·rw[List.mem_singleton.mp hx];exact h) su k1 k2 zz
 |@take p b bs s o1 s1 o2 s2 h z1 z2 i1 i2=>
  intro hp hd hb ws uQ pre Fc eg su k1 k2 zz;have jl:=hb b bT;have h3:=dY (fN.mpr jl) h;have l1:=iS hT z1 (hT.lt b jl);have hl:=hT.len _ hd;simp only[dS] at l1;have hf:(T (az p)).filter (fun d=>decide (d∉ws.map az))=b::bs.filter fun d=>decide (d∉ws.map az):=by
   rw[Fc,List.filter_append,dT,if_pos (by simpa using fun x hx e=>h ((su b).mp (by simpa using ⟨x,hx,e⟩)))];rw[(List.filter_eq_nil_iff.mpr fun x hx=>?_),List.nil_append];simp only[dU,Classical.not_not];exact(su x).mpr (eg x hx)
  have w2:=i2 hp hd (fun x hx=>hb x (bE _ hx)) (ws++[p++[b]]++o1) uQ (pre++[b]) (by rw[Fc];simp) (fun x hx=>by
   rcases cS.mp hx with hx|hx
   ·exact z1.sub (bE _ (eg x hx))
   ·rw[List.mem_singleton.mp hx];exact z1.sub bT) (fun x=>by
    rw[z1.mem,ba,←su];simp only[List.map_append,cS,List.map_cons,List.map_nil,List.mem_singleton,cW,List.mem_map];constructor
    ·rintro((h|h)|h)
     ·exact .inl (.inr h)
     ·exact .inl (.inl h)
     ·exact .inr h
    ·rintro((h|h)|h)
     ·exact .inl (.inr h)
     ·exact .inl (.inl h)
     ·exact .inr h) (by simp;omega) (by omega) (by simpa using zz)
  have w1:=i1 (by simp) (by simpa using jl) (hT.lt b jl) (ws++[p++[b]]) uQ [] (by simp) (fun x hx=>nomatch hx) (fun x=>by
   rw[ba,←su];simp only[List.map_append,cS,List.map_cons,List.map_nil,List.mem_singleton,cW];exact Or.comm) (by simp;omega) (by simp;omega) (by rw[List.dropLast_concat];exact w2)
  exact .push hp hd (by omega) (by omega) (by omega) hf w1
theorem vd {p line s:LN}{o:List LN}{s':LN}(h:dr T p line s o s'):p=[]→(∀ x∈line,x<5)→∀ ws:List LN,(∀ x,x∈ws.map az↔x∈s)→ws.length+bP V5 s≤80→j3 T ws line (ws++o):=by
 have hu:∀ s,bP V5 s≤5:=fun s=>by
  have:=gG V5 (s:=[]) (s':=s) (fun x hx=>nomatch hx);exact this
 induction h with
 |nil=>intro _ _ ws _ _;rw[ck];exact .done
 |@skip p b bs s o s' h z ih=>
  intro hp hb ws su k;exact .skip ((su b).mpr h) (by omega) (ih hp (fun x hx=>hb x (bE _ hx)) ws su k)
 |@take p b bs s o1 s1 o2 s2 h z1 z2 i1 i2=>
  intro hp hb ws su k;subst hp;have jl:=hb b bT;have h3:=dY (fN.mpr jl) h;have l1:=iS hT z1 (hT.lt b jl);have:=hu s;simp only[dS] at l1;have w1:=yu hT z1 (by simp) (by simpa using jl) (hT.lt b jl) (ws++[[b]]) (ws++[[b]]++o1) [] (by simp) (fun x hx=>nomatch hx) (fun x=>by
   rw[ba,←su];simp only[List.map_append,cS,List.map_cons,List.map_nil,List.mem_singleton,gE];exact Or.comm) (by simp;omega) (by simp;omega) .done
  have w2:=i2 rfl (fun x hx=>hb x (bE _ hx)) (ws++[[b]]++o1) (fun x=>by
    rw[z1.mem,ba,←su];simp only[List.map_append,cS,List.map_cons,List.map_nil,List.mem_singleton,gE,List.mem_map];constructor
    ·rintro((h|h)|h)
     ·exact .inl (.inr h)
     ·exact .inl (.inl h)
     ·exact .inr h
    ·rintro((h|h)|h)
     ·exact .inl (.inr h)
     ·exact .inl (.inl h)
     ·exact .inr h) (by simp;omega)
  have e:ws++([]++[b])::(o1++o2)=ws++[[b]]++o1++o2:=by simp
  rw[e];exact .new (fun hm=>h ((su b).mp hm)) (by omega) w1 w2
theorem rg (line:LN)(hl:∀ x∈line,x<5):∃ out s',dr T [] line [] out s'∧cU T [] line [] out∧j3 T [] line out∧out.length≤5:=by
 obtain⟨out,s',z⟩:=zV T V5 (fun a ha x hx=>fN.mpr (hT.lt a (fN.mp ha) x hx)) 5 [] line [] (by decide) fun x hx=>fN.mpr (hl x hx);have hu:bP V5 []=5:=rfl;have k:=iS hT z hl;exact⟨out,s',z,uZ hT z rfl hl (by simp[hu]),vd hT z rfl hl [] (fun x=>Iff.rfl) (by simp[hu]),by omega⟩
end
section
variable {T:Nat→List Nat}
theorem tA {p bs s:LN}{o:List LN}{s':LN}(hT:∀ a<5,∀ x∈T a,x<5)(h:dr T p bs s o s'):(∀ x∈bs,x<5)→(∀ x∈p,x<5)→∀ q∈o,(∀ d∈q,d<5)∧q.length≤p.length+bP V5 s:=by
 induction h with
 |nil=>intro _ _ q hq;cases hq
 |skip _ _ ih=>exact fun hb hp=>ih (fun x hx=>hb x (bE _ hx)) hp
 |@take p b bs s o1 s1 o2 s2 h z1 z2 i1 i2=>
  intro hb hp q hq;have jl:=hb b bT;have M8:∀ x∈p++[b],x<5:=fun x hx=>by
   rcases cS.mp hx with hx|hx
   ·exact hp x hx
   ·rw[List.mem_singleton.mp hx];exact jl
  have h3:=dY (fN.mpr jl) h;rcases ba.mp hq with rfl|hq
  ·exact⟨M8,by simp;omega⟩
  ·rcases cS.mp hq with hq|hq
   ·have z:=i1 (hT b jl) M8 q hq
    refine⟨z.1,?_⟩;have:=z.2;simp at this;omega
   ·have z:=i2 (fun x hx=>hb x (bE _ hx)) hp q hq
    have:=gG V5 (s:=s) (s':=s1) fun x hx=>z1.sub (bE _ hx);exact⟨z.1,by omega⟩
theorem d9.d1 {V:LN}{out:List LN}{way d1:Nat→List Nat}(F:d9 T V out way)(h:∀ q∈out,d1 (az q)=q):d9 T V out d1:=by
 refine⟨F.par,F.vj,fun a ha=>?_,h,F.cmp,F.nd⟩;have z:=F.wy a ha;have e:=h _ z.1;rw[z.2] at e;rw[e];exact z
theorem rh {V line:LN}{out:List LN}{s':LN}(h:dr T [] line [] out s')(hl:∀ x∈line,x∈V)(hc:∀ x∈V,x∈line)(hT:∀ a∈V,∀ b∈T a,b∈V∧a∈T b):d9 T V out (fm out out.length):=
 (qK h hl hc hT).d1 fun q hq=>As (h.ord.imp fun z=>z.1) hq
end
theorem r5 {x:Nat}:x∈List.range 5↔x<5:=List.mem_range
theorem IT:∀ v,v<5→∃ d0 ds,((List.range 5).filter fun d=>decide (d≠v))=d0::ds
 |0,_=>⟨_,_,rfl⟩
 |v+1,_=>⟨0,(List.range 5).tail.filter fun d=>decide (d≠v+1),rfl⟩
theorem yv (ns:List Int)(hn:ns.length≤14){T:Nat→List Nat}{dl:LN}(hT:(stN ns ns.length).2=T)(mj:(stN ns ns.length).1=dl):
  dl.length≤14∧(∀ k<5,(T k).length≤100)∧(∀ k<5,∀ x∈T k,x<5)∧(∀ k<5,∀ x∈T k,k∈T x)∧(mH ns ns.length=none→∀ a,T a=[])∧
  ∃ d0 ds out pl,dl++[0,1,2,3,4]=d0::ds∧(∀ x∈d0::ds,x<5)∧cU T [] (d0::ds) [] out∧j3 T [] (d0::ds) out∧out.length≤5∧out≠[]∧out.getLast?=some pl∧(∀ q∈out,bY q)∧
   (∀ k<5,bY (fm out out.length k))∧(∀ k<5,(fm out out.length k).length≤5)∧
   (∀ a<5,∀ b∈T a,a<b→eY (fm out out.length a) (fm out out.length b)=fm out out.length a∨eY (fm out out.length a) (fm out out.length b)=fm out out.length b)∧
   (∀ v<5,∃ cB yQ eS,((List.range 5).filter fun d=>decide (d≠v))=yQ::eS∧cU (fun k=>(T k).filter fun d=>decide (d≠v)) [] (yQ::eS) [] cB∧(∀ q∈cB,q≠[]∧∀ d∈q,d<5)∧cB≠[]∧cB.length≤100∧
    (aL cB).length+(if(fm out out.length v).length=1 then 1 else 0)=(aL out).length+((T v).filter (eK T (List.range 5) (fm out out.length) v)).length):=by
 have I:=pA ns ns.length lr;rw[←hT,←mj];generalize hs:stN ns ns.length=s at I ⊢;have gM:∀ k<5,∀ x∈s.2 k,x<5:=fun k hk x hx=>(I.T.ok k hk x hx).1;have pN:∀ k<5,∀ x∈s.2 k,k∈s.2 x:=fun k hk x hx=>(I.T.ok k hk x hx).2.1;have sj:EN s.2:=⟨gM,fun a ha=>I.T.len ha⟩;refine⟨Nat.le_trans I.len hn,fun k hk=>Nat.le_trans (I.T.len hk) (by decide),gM,pN,fun hl a=>?_,?_⟩
 ·cases ns with
  |nil=>rw[←hs];rfl
  |cons n ns=>
   exfalso;have yE:(match (n::ns)[ns.length]? with|some n=>some (n,dA n,dB n)|none=>none)=none:=hl
   rw[cy (by simp)] at yE;cases yE
 have kX:∀ x∈s.1++[0,1,2,3,4],x<5:=fun x hx=>by
  rcases cS.mp hx with hx|hx
  ·exact I.line x hx
  ·exact fN.mp hx
 obtain⟨out,s',hk,hw,hd,ho⟩:=rg sj (s.1++[0,1,2,3,4]) kX;have hp:=tA gM hk kX (fun x hx=>nomatch hx);have MB:∀ q∈out,q≠[]:=fun q hq e=>by
  have:=(hk.pre q hq).2;rw[e] at this;exact Nat.lt_irrefl _ this
 have hq:∀ q∈out,bY q:=fun q nP=>⟨MB q nP,(hp q nP).1,by
  have:=(hp q nP).2;have hu:bP V5 []=5:=rfl;rw[hu] at this;simp at this;omega⟩
 have Qh:∀ q∈out,q.length≤5:=fun q nP=>by
  have:=(hp q nP).2;have hu:bP V5 []=5:=rfl;rw[hu] at this;simpa using this
 have F:=rh (V:=List.range 5) hk (fun x hx=>r5.mpr (kX x hx)) (fun x hx=>List.mem_append_right _ (fN.mpr (r5.mp hx))) fun a ha b hb=>⟨r5.mpr (gM a (r5.mp ha) b hb),pN a (r5.mp ha) b hb⟩;have EO:out≠[]:=fun e=>by
  have:=(F.wy 0 (r5.mpr (by decide))).1;rw[e] at this;cases this
 obtain⟨d0,ds,M9⟩:∃ d0 ds,s.1++[0,1,2,3,4]=d0::ds:=by
  cases s.1 with
  |nil=>exact⟨_,_,rfl⟩
  |cons x l=>exact⟨_,_,rfl⟩
 rw[M9] at kX hw hd;refine⟨d0,ds,out,out.getLast EO,M9,kX,hw,hd,ho,EO,List.getLast?_eq_some_getLast EO,hq,fun k hk=>hq _ (F.wy k (r5.mpr hk)).1,fun k hk=>Qh _ (F.wy k (r5.mpr hk)).1,fun a ha b hb _=>F.Oi (r5.mpr ha) (r5.mpr (gM a ha b hb)) hb,fun v hv=>?_⟩;have IU:EN (fun k=>(s.2 k).filter fun d=>decide (d≠v)):=⟨fun a ha x hx=>gM a ha x ((List.mem_filter.mp hx).1),fun a ha=>Nat.le_trans (List.length_filter_le _ _) (I.T.len ha)⟩;have yw:∀ x∈(List.range 5).filter (fun d=>decide (d≠v)),x<5:=fun x hx=>r5.mp ((List.mem_filter.mp hx).1);obtain⟨cB,MI,MC,Kh,QC,yN⟩:=rg IU ((List.range 5).filter fun d=>decide (d≠v)) yw;have G:=rh (V:=(List.range 5).filter fun d=>decide (d≠v)) MC (fun x hx=>hx) (fun x hx=>hx) fun a ha b hb=>by
  have h1:=List.mem_filter.mp ha;have h2:=List.mem_filter.mp hb;exact⟨List.mem_filter.mpr ⟨r5.mpr (gM a (r5.mp h1.1) b h2.1),h2.2⟩,List.mem_filter.mpr ⟨pN a (r5.mp h1.1) b h2.1,h1.2⟩⟩
 have C:Cut s.2 (List.range 5) out (fm out out.length) v cB (fm cB cB.length):=⟨F,G,fun a ha b hb=>⟨r5.mpr (gM a (r5.mp ha) b hb),pN a (r5.mp ha) b hb⟩,r5.mpr hv⟩;have L:=C.Oj List.nodup_range (I.T.nd v hv);obtain⟨yQ,eS,hd2⟩:=IT v hv;have IV:cB≠[]:=fun e=>by
  have:=(G.wy yQ (hd2▸bT)).1;rw[e] at this;cases this
 refine⟨cB,yQ,eS,hd2,hd2▸Kh,fun q nP=>⟨fun e=>?_,(tA IU.lt MC yw (fun x hx=>nomatch hx) q nP).1⟩,IV,by omega,L⟩;have:=(MC.pre q nP).2;rw[e] at this;exact Nat.lt_irrefl _ this
theorem pO:∀ {vs:LV}{ns:List Int},IntsAre vs ns→vs.length=ns.length∧∀ (i:Nat)(n:Int),ns[i]?=some n→∃ t,vs[i]?=some (.int n t)
 |_,_,.nil=>⟨rfl,fun i n h=>nomatch h⟩
 |_,_,.cons m t h=>by
  have z:=pO h;refine⟨congrArg (·+1) z.1,fun i n hn=>?_⟩;cases i with
  |zero=>cases hn;exact⟨t,rfl⟩
  |succ i=>exact z.2 i n hn
theorem AU {dz:LV}{Jp:List Int}(h:IntsAre dz Jp)(hl:dz.length≤1000):∃ vs ns o T dl d0 ds out pl,yr dz vs ns o T dl d0 ds out pl:=by
 obtain⟨h1,h2⟩:=pO h;have hn:(Jp.take 14).length≤14:=List.length_take_le _ _;obtain⟨p1,p2,p3,p4,p5,d0,ds,out,pl,q1,q2,q3,q4,q5,q6,q7,q8,q9,Kd,Ke,Qi⟩:=yv (Jp.take 14) hn rfl rfl;refine⟨dz.take 14,Jp.take 14,_,_,_,d0,ds,out,pl,rfl,qQ dz 14,hl,by rw[dR,dR,h1],fun i n hi=>?_,hn,rfl,rfl,q1,p1,q2,q3,q4,q5,q6,q7,q8,p2,p3,p4,q9,Kd,Ke,p5,Qi⟩;rw[List.getElem?_take] at hi ⊢;split at hi
 ·next gM=>rw[if_pos gM];exact h2 i n hi
 ·cases hi
def IW (w0:WW)(a:N2):SX Code Code:=⟨.call (.ref 899) ⟨[.ref (a 0)],[]⟩,[],[],fun b f=> .func (nk (wt w0)) (aK (wt w0) (b 0) (b 1) (b 2) (b 3) (b 4) (b 5)),fun b f=>[(b 0,ah [(gQ,.ref (a 0))])],fun b f=>[(b 1,ai none),(b 2,ai none),(b 3,ai none),(b 4,ai none),(b 5,ai none)]⟩
theorem MD (b1 b2:Bool){w:WW}{aa:Heap}(B:BB w aa b1 b2)(w0:WW)(a:N2):eR w aa b1 b2 1 true (IW w0 a):=
 eO B (ol 0x66d []) z2 z3 [5,0,0,0,0,0] 0 1
theorem ve {prog:Program}{w:WW}{aa:Heap}{lv:Nat}{F:List Env}{body:List Stmt}{env oZ:Env}{rs:Ow}{P:Result→Ow→Prop}(he:env=oZ)
  (h:aM prog w aa lv (some (oZ::F)) (execs body env) rs (fun f L=>P (.ok (.ret (match f with|.ret v=>v|_=> .none))) L)):aJ prog w aa (lv+1) (some F) (.func body env) rs P:=by
 intro A R Fr hh g d os tok size hA hf hD kk;subst he;have hd:=hA.dep;have hu:=hA.un;refine codeAny_func (h (A.deeper env) _ _ Fr hh g d os tok size ⟨hA.hd,?_,?_⟩ (fun l hl=>?_) hD fun f L' h' g' t s p G D=>kk _ L' h' g' t s p G D)
 ·show A.depth+1+50*lv<recursionLimit
  omega
 ·show A.units+3+300*lv<cLine
  omega
 ·cases hl
  exact Around.frames_deeper (hf F rfl)
theorem yx (w:WW)(b1 b2:Bool)(fr cc ca cv cw ct:Nat):aK (wd w true true) fr cc ca cv cw ct=aK (wd w b1 b2) fr cc ca cv cw ct:=by cases b1<;>cases b2<;>kernel_rfl
section
variable (b1 b2:Bool){w:WW}{aa:Heap}(B:BB w aa b1 b2)
include B
theorem AW {dz vs:LV}{ns:List Int}{o:Option (Int×Nat×Nat)}{T:Nat→List Nat}{dl:LN}{d0:Nat}{ds:LN}{out:List LN}{pl:LN}(H:yr dz vs ns o T dl d0 ds out pl)(sc e0:Nat):
  gh w aa b1 b2 11 (some []) (.call (.ref 899) ⟨[.ref sc],[]⟩) [(sc,ab dz e0)] (fun r L=>r=.ok (.ret (.bool true))∧(sc,ab dz e0)∈L):=by
 let a:N2:=fun _=>sc;have z:=(MD b1 b2 B w a).y (frx:=some []) (lvx:=11) (by decide) [(sc,ab dz e0)] (P:=fun r L=>r=.ok (.ret (.bool true))∧(sc,ab dz e0)∈L) (fun b f x=>?_) (fun _=>0) (fun _=>⟨fun _=>0,fun _=>0,fun _=>0,0⟩)
 ·exact z
 ·show gh w aa b1 b2 11 (some []) (.func (nk (wd w true true)) (aK (wd w true true) (b 0) (b 1) (b 2) (b 3) (b 4) (b 5))) (rt [(b 0,ah [(gQ,.ref sc)])] x++[(b 1,ai none),(b 2,ai none),(b 3,ai none),(b 4,ai none),(b 5,ai none)]++[(sc,ab dz e0)]) _
  refine ve (yx w b1 b2 _ _ _ _ _ _) ((AS b1 b2 B H w (b 0) (b 1) (b 2) (b 3) (b 4) (b 5) sc e0 x).mono lr fun f L hf=>?_);obtain⟨rfl,hs⟩:=hf;exact⟨rfl,hs⟩
end
theorem AX {w:WW}{aa:Heap}(B:Base w aa (dF w)){dz vs:LV}{ns:List Int}{o:Option (Int×Nat×Nat)}{T:Nat→List Nat}{dl:LN}{d0:Nat}{ds:LN}{out:List LN}{pl:LN}(H:yr dz vs ns o T dl d0 ds out pl)(sc e0:Nat):
  aJ pw w aa 11 (some []) (.call (.ref 899) ⟨[.ref sc],[]⟩) [(sc,ab dz e0)] (fun r L=>r=.ok (.ret (.bool true))∧(sc,ab dz e0)∈L):=by
 obtain⟨b,c,e⟩:=yY w;rw[e] at B ⊢;exact AW b c B H sc e0
theorem AY {h:Heap}{K:Frag}{t:KT}(e:KT.of K=t)(A:AllIn h K):KT.Holds h 1 0 t:=e▸holds_of A
theorem EP (w:WW):(match (dF w).get cStatics with|some o=>oG o|none=>false)=true:=by kernel_rfl
theorem yz {w:WW}{h:Heap}(H:KT.Holds h 1 0 (dF w)):h.NoLimit:=by
 have z:=EP w;cases e:(dF w).get cStatics with
 |none=>rw[e] at z;cases z
 |some o=>rw[e] at z;exact pW (kt_at H e) z
theorem ri {R:WRecords}{w:WW}{cQ fj:Shared}{ns:List Int}{a:Nat}{as:LN}(L:Laid R w cQ fj [ofPy (PyData.list (ns.map PyData.int))] [.ref a] as):∀ b o,fj.heap.get? b=some o→b≠cQ.heap.objs.size→cQ.heap.get? b=some o:=by
 obtain⟨ord,_,e⟩:=L.laid;simp only[ofPy,layAllW,layW] at e;cases q:layAllW R (classAt cQ.heap) w.params ord (ofPys (List.map PyData.int ns)) cQ with
 |none=>rw[q] at e;cases e
 |some r=>
  rw[q] at e;have hh:=lay_ints ns cQ r q;simp only[Option.some.injEq,Prod.mk.injEq,List.cons.injEq,Value.ref.injEq] at e;obtain⟨⟨ea,_⟩,es⟩:=e;intro b o hb bq;rw[←es,hh] at hb;rw[←Heap.get?_push_ne cQ.heap b _ bq];exact hb
theorem AZ {w:WW}{cQ fj:Shared}{sv:LV}{ns:List Int}{Q:Value→Shared→Prop}{E:Value→Shared→Prop}(H:KT.Holds cQ.heap 1 0 (dF w))(h9:cQ.heap.objs.size=900)(hk:∀ b o,cQ.heap.get? b=some o→fj.heap.get? b=some o)
  (hs:fj.heap.get? 900=some {cls:=.type "list",data:=.seq sv.toArray}) (h1:fj.heap.objs.size=900+1) (IX:∀ b o,fj.heap.get? b=some o→b≠cQ.heap.objs.size→cQ.heap.get? b=some o) (hi:IntsAre sv ns) (hl:¬ ((63:Nat):Int)<(ns.length:Int))
  (hQ:∀ h' g' t',(∀ b o,fj.heap.get? b=some o→h'.get? b=some o)→(AllBare fj.gens→AllBare g')→Q (.bool true) ⟨h',g',fj.drawn,t',fj.os⟩):
  wpAny (model pw w) callerA (call (.ref 899) [.ref 900]) Q E fj:=by
 have B:Base w cQ.heap (dF w):=⟨H,yz H⟩;have hlen:=(pO hi).1;obtain⟨vs,QD,o',T,dl,d0,ds,out,pl,HH⟩:=AU hi (by omega);have z:=AX B HH 900 0;refine aw (y_start _ _ _ _ _ _ fj (.call (.ref 899) ⟨[.ref 900],[]⟩) none false [] _ (fun h=>by cases h) ?_);refine z _ _ [] fj.heap fj.gens fj.drawn fj.os fj.toks 901 ⟨rfl,by decide,by decide⟩ (fun l hl=>by cases hl;rfl) ⟨h1,hk,fun p hp=>?_,List.nodup_cons.mpr ⟨fun h=>(nomatch h),List.nodup_nil⟩,by omega⟩ fun r L' h' g' t' aC hP G D=>?_
 ·have vK:p=(900,ab sv 0):=List.mem_singleton.mp hp
  subst vK;exact⟨⟨#[],hs⟩,Nat.le_of_eq h9⟩
 ·obtain⟨rfl,hm⟩:=hP
  refine y_endOk _ _ _ _ _ _ _ _ _ (.ret (.bool true)) rfl ?_;refine aG (hQ h' g' t' (fun b o Dg=>?_) G.2);by_cases e:b=900
  ·subst e
   rw[hs] at Dg;rw[D.get (List.mem_append_left _ hm) fun _=>rfl];exact Dg
  ·exact D.keep b o (IX b o Dg (by rw[h9];exact e))
theorem ER (w:WW):KT.of (kh w.params)=dF w:=by unfold dF;rfl
theorem IY {P:Params}{h:Heap}{mg:Str→Option Value}{fa:Nat}(K:(kh P).In h)(g:h.Ns mainGlobals mg)(hm:mg "law"=some (.ref fa)):fa=899:=by
 have z:=mg_of (n:="law") (v:=.ref 899) K g (by kernel_rfl);rw[hm] at z;exact Value.ref.inj (Option.some.inj z)
end Mine.Internal
end
open PySem PySem.W PySem.W.X PyProof.Rows
theorem PySem.Challenge.cw_ij0189_01_holds : PySem.Challenge.rw_ij0189_01.Holds := by

 refine holds_law Mine.Internal.Fg fun ME=>?_;refine holds_openX (q:=Mine.Internal.q0) (loose:=Mine.Internal.oO) (Xt:=fun _=>true) (XP:=fun _ _=>True) Mine.Internal.Gm (fun _ _=>trivial) (fun _ _ _ _ _=>trivial) (by rfl) (by rfl) (by rfl) (fun s e=>recFacts_of (by rfl)) (by rfl) ME (by decide+kernel) ⟨rfl,rfl,rfl,rfl,rfl,by decide+kernel⟩ ?hw ?hc
 case hw=>w_witness2
 case hc=>
  intro w cQ fj mg mb G y fa o pm cd doc dV kV ho hd Qj hD M' hg args vals as L eg MF Qk Hq Ql;have f:=z_facts Mine.Internal.BS y;have E9:=L.keeps;have KX:(Mine.Internal.kh w.params).In fj.heap:=InK.keeps w cQ.heap fj.heap f.2.1 E9;have H0:KT.Holds cQ.heap 1 0 (Mine.Internal.dF w):=Mine.Internal.AY (Mine.Internal.ER w) f.1;have ZN:=f.2.2.1;have JN:=Mine.Internal.IY KX (Top.g G.T) M';clear f;clear ho hd Qj hD G M';subst JN
  wrow_args eg MF Qk Hq Ql
  obtain⟨Bk,E4⟩:=script_at L;have Jj:=Mine.Internal.ri L;rw[ZN] at Bk E4;subst Bk
  all_lens
  rename fj.heap.IsList 900 _=>hL
  rename IntsAre _ _=>hI
  rename ¬ _<_=>hl
  refine Mine.Internal.AZ H0 ZN E9 (script_obj L hL) E4 Jj hI hl fun h' g' t' hk hb=>?_;refine⟨.inl ⟨_,_,[],rfl,fun _=>rfl,ReadsW.bool true,?_,fun _=>⟨List.nodup_nil,fun _ hm=>(nomatch hm)⟩⟩,.of_keep hk,rfl,hb (.of_eq hg)⟩
  first|rfl|wrow_post
