import PyProof.Rows.All
import Wide.All
import OpenK.AllK
import Wide.FinOn
import PyProof.DictValues
import PySem.Challenge.RW_qu0046_02
set_option maxRecDepth 100000
set_option linter.unusedVariables false
set_option linter.all false
set_option Elab.async false
noncomputable section
set_option maxHeartbeats 4000000
set_option genInjectivity false
set_option genSizeOf false
set_option genCtorIdx false
set_option compiler.extract_closed false
namespace Mine
theorem le_num {a m n:Nat} (h:a ≤ m) (k:Nat.ble m n = true):a ≤ n:=Nat.le_trans h (Nat.le_of_ble_eq_true k)
theorem le_num1 {a m n:Nat} (h:a ≤ m) (k:Nat.ble (m + 1) n = true):a + 1 ≤ n:=Nat.le_trans (Nat.succ_le_succ h) (Nat.le_of_ble_eq_true k)
theorem le_num2 {a m n:Nat} (h:a ≤ m) (k:Nat.ble (m + 2) n = true):a + 1 + 1 ≤ n:=Nat.le_trans (Nat.succ_le_succ (Nat.succ_le_succ h)) (Nat.le_of_ble_eq_true k)
theorem eq_num {a m n:Nat} (h:a = m) (k:Nat.ble m n = true):a ≤ n:=Nat.le_trans (Nat.le_of_eq h) (Nat.le_of_ble_eq_true k)
theorem lt_pow {a m n k:Nat} (h:a ≤ m) (e:Nat.ble (m + 1) (n ^ k) = true):a < n ^ k:=Nat.lt_of_lt_of_le (Nat.lt_succ_of_le h) (Nat.le_of_ble_eq_true e)
theorem lt_pw {a m n k:Nat} (h:a < m) (e:Nat.ble m (n ^ k) = true):a < n ^ k:=Nat.lt_of_lt_of_le h (Nat.le_of_ble_eq_true e)
theorem nat_cs1 {n:Nat}:((n + 1:Nat):Int) = (n:Int) + 1:=rfl
theorem nat_cs2 {n:Nat}:(n:Int) + 1 = ((n + 1:Nat):Int):=rfl
theorem int_pos1 {n:Nat}:(0:Int) < ((n + 1:Nat):Int):=Int.natCast_pos.mpr n.succ_pos
theorem int_sub1 {n:Nat}:((n + 1:Nat):Int) - 1 = (n:Int):=by omega
theorem add_zero1 {a n:Nat} (h:a + 0 = n):a = n:=h
theorem lt_num {a m n:Nat} (h:a ≤ m) (e:Nat.ble (m + 1) n = true):a < n:=Nat.lt_of_lt_of_le (Nat.lt_succ_of_le h) (Nat.le_of_ble_eq_true e)
theorem lt_split {i l n:Nat} (h:i + (l + 1) = n):i < n:=by rw [← h]; exact Nat.lt_add_of_pos_right (Nat.succ_pos l)
theorem eq_split {i l n:Nat} (h:i + (l + 1) = n):i + 1 + l = n:=by rw [← h,Nat.add_assoc,Nat.add_comm 1]
theorem nm {α:Sort _} {G:Prop} (v:α) (k:∀ x,x = v → G):G:=k v rfl
theorem gx {α:Type _} {l:List α} {i:Nat} {G:Prop} (h:i < l.length) (k:∀ g,l[i]? = some g → G):G:=k _ (List.getElem?_eq_getElem h)
theorem nM {α:Type _} {p:α → Prop} (x:α) (h:x ∈ ([]:List α)):p x:=nomatch h
noncomputable def al1 {α:Type} (f:Bool → α):List α:=[f false,f true]
noncomputable def ar1 {α:Type} (f:Bool → α):List α:=[f false,f true]
noncomputable def al2 {α:Type} (f:Bool → Bool → α):List (List α):=al1 fun x => al1 (f x)
noncomputable def ar2 {α:Type} (f:Bool → Bool → α):List (List α):=ar1 fun x => ar1 (f x)
noncomputable def al3 {α:Type} (f:Bool → Bool → Bool → α):List (List (List α)):=al1 fun x => al2 (f x)
noncomputable def ar3 {α:Type} (f:Bool → Bool → Bool → α):List (List (List α)):=ar1 fun x => ar2 (f x)
noncomputable def al4 {α:Type} (f:Bool → Bool → Bool → Bool → α):List (List (List (List α))):=al1 fun x => al3 (f x)
noncomputable def ar4 {α:Type} (f:Bool → Bool → Bool → Bool → α):List (List (List (List α))):=ar1 fun x => ar3 (f x)
theorem bq1 {α:Type} {f g:Bool → α} (b:Bool) (h:al1 f = ar1 g):f b = g b:=match b with
  | false => (List.cons.inj h).1
  | true => (List.cons.inj (List.cons.inj h).2).1
theorem bq2 {α:Type} {f g:Bool → Bool → α} (a b:Bool) (h:al2 f = ar2 g):f a b = g a b:=bq1 b (bq1 (f:=fun x => al1 (f x)) a h)
theorem bq3 {α:Type} {f g:Bool → Bool → Bool → α} (a b c:Bool) (h:al3 f = ar3 g):f a b c = g a b c:=bq2 b c (bq1 (f:=fun x => al2 (f x)) a h)
theorem bq4 {α:Type} {f g:Bool → Bool → Bool → Bool → α} (a b c d:Bool) (h:al4 f = ar4 g):f a b c d = g a b c d:=bq3 b c d (bq1 (f:=fun x => al3 (f x)) a h)
end Mine
open Lean in
def Mine.mac_alt (n : Name) (t : TSyntax `tactic) : MacroM (TSyntax `tactic) := `(tactic| first | (with_reducible apply $(mkIdent n) <;> first | assumption | decide) | $t:tactic)
open Lean in
def Mine.mac_alts : List Name → TSyntax `tactic → MacroM (TSyntax `tactic)
  | [], t => pure t
  | n :: r, t => do Mine.mac_alts r (← Mine.mac_alt n t)
open Lean in
local macro_rules
  | `(tactic| lia) => do
    let t ← `(tactic| first | lia (config := {}) | omega)
    let t ← Mine.mac_alts [`Nat.le_trans, `Nat.lt_of_le_of_lt, `Nat.lt_of_lt_of_le, `Mine.lt_num, `Mine.lt_pw, `Mine.lt_pow, `Mine.eq_num, `Mine.le_num2, `Mine.le_num1, `Mine.le_num, `Nat.lt_of_not_le, `Nat.le_of_not_lt, `Nat.le_of_lt, `Mine.nat_cs1, `Mine.nat_cs2, `Mine.int_pos1, `Mine.int_sub1, `Mine.add_zero1, `Nat.zero_add, `Nat.le_refl, `Mine.lt_split, `Mine.eq_split] t
    `(tactic| first | with_reducible assumption | decide | $t:tactic)
open Lean in
local macro_rules
  | `(tactic| obtain ⟨$ps:rcasesPatLo,*⟩ := $e:term) => do
    if !e.raw.isIdent then return ← `(tactic| (have h := $e; obtain ⟨$ps,*⟩ := h; try clear h))
    let l := ps.getElems
    if l.size < 2 then Macro.throwUnsupported
    let f (p:TSyntax ``Parser.Tactic.rcasesPatLo):MacroM (Ident × Nat) := do
      let x := p.raw[0][0][0]
      if p.raw[1].getNumArgs != 0 || p.raw[0][0].getNumArgs != 1 then Macro.throwUnsupported
      if x.isOfKind ``Parser.Tactic.rcasesPat.one then
        if x[0].getId == `rfl then return (mkIdent (← Macro.addMacroScope `q), 1) else return (⟨x[0]⟩, 0)
      if x.isOfKind ``Parser.Tactic.rcasesPat.ignore then return (mkIdent (← Macro.addMacroScope `z), 0)
      Macro.throwUnsupported
    let (a, i) ← f l[0]!
    let (b, j) ← if l.size == 2 then f l[1]! else pure (mkIdent (← Macro.addMacroScope `h), 2)
    if i == 1 && j == 1 then Macro.throwUnsupported
    let c ← if (ps.getElems.any fun p => (p.raw.find? fun x => x.isIdent && x.getId == e.raw.getId).isSome) then `(tactic| skip) else `(tactic| try clear $(⟨e.raw⟩):ident)
    let d ← if i + j == 0 || i == 0 && j == 2 then `(tactic| skip) else `(tactic| subst q)
    let r := l.extract 1 l.size
    let g ← if j == 2 then `(tactic| (obtain ⟨$r,*⟩ := $b:ident; try clear $b:ident)) else `(tactic| skip)
    `(tactic| first | ((first | with_reducible refine Exists.elim $e fun $a $b => ?_ | with_reducible refine And.elim (fun $a $b => ?_) $e); $c; $d; $g) | rcases $e:term with ⟨$ps,*⟩)
open List renaming mem_append → NK, mem_map → NL, length_map → NM, mem_singleton → NN, map_append → NO, append_assoc → NP, length_append → NR, mem_of_getElem? → NS, length_cons → NV, getElem?_eq_some_iff → NW, perm_append_comm_assoc → NX, getElem?_eq_getElem → NZ, mem_cons → N0, forall_mem_nil → N3, getElem?_map → N7, length → N9, map_cons → Oa, nodup_cons → Ob, append_nil → Oc, getD_eq_getElem?_getD → Od, replicate → Oe, length_drop → Of, nodup_append → Oh, cons_append → Oi, take_of_length_le → Ol, take_length → Om, getElem?_append_left → Oo, take_append_drop → Ot, sublist_append_right → Ou, length_pos_iff → Ov, length_nil → Ow, flatten_cons → Ox, range → Oy, size_toArray → OC, drop_eq_getElem_cons → OD, sublist_cons_self → OE, mem_filter → OH, length_singleton → OJ, replicate_succ → OK, map_map → OL, extract_eq_take_drop → OM, perm_middle → OQ, length_take → OR, take_add_one → OT, nil_append → OU, mem_iff_getElem? → OV, perm_append_comm → OW, not_mem_nil → OX, flatMap_cons → O0, foldl_cons → O1, drop_append_of_le_length → Pa, flatMap_append → Pc, all_eq_true → Pe, mem_flatMap → Ph, length_filter_le → Pk, flatten_append → Po, map_nil → Pp, find?_eq_none → Ps, append_eq_nil_iff → Pz, getElem?_toArray → PE, foldl_append → PG, drop_drop → PJ, getElem?_append_right → PO, append_cancel_left_eq → PP, findIdx?_eq_none_iff → PR, reverse_append → PS, getElem?_drop → PX, filter_append → P1, length_eq_zero_iff → P2, drop_left → P4, findIdx?_eq_some_iff_getElem → P5, drop_eq_nil_of_le → P7, getElem?_set_self → P8, length_pos_of_mem → P9, getElem_map → Qa, mem_of_mem_drop → Qc, mem_of_mem_take → Qe, mem_erase_of_ne → Qg, map_congr_left → Qk, getElem_of_mem → Ql, head?_map → Qm, length_eraseIdx_of_lt → Qo, map_id → Qp, takeWhile_cons_of_neg → Qq, pairwise_iff_getElem → Qt, length_range → Qu, getElem?_eq_none_iff → Qv, drop_sublist → Qw, mem_of_find?_eq_some → Qx, mem_or_eq_of_mem_set → Qz, length_erase_of_mem → QC, mem_toArray → QG, prefix_iff_eq_take → QN, find?_some → QS, reverse_singleton → QT, getElem_cons_drop → QU, drop_of_length_le → QX, head?_eq_getElem? → QZ, length_replicate → Q2, nodup_nil → Q3, mem_range → Q4
open List.Perm renaming append_left → NQ, of_eq → OG, append_right → Py, trans → Qh, cons → Q5
open Nat renaming le_refl → NT, le_trans → NU, le_of_ble_eq_true → NY, lt_succ_self → Og, lt_of_lt_of_le → Os, le_of_eq → OA, zero_add → OF, zero_le → OI, le_of_lt → ON, lt_of_le_of_ne → OO, add_sub_cancel' → OS, succ_pos → OY, le_of_succ_le → OZ, sub_le → O2, sub_lt → O3, succ_ne_zero → O6, lt_of_le_of_lt → O7, add_sub_cancel_left → Pb, one_le_iff_ne_zero → Pg, le_succ → Pj, le_add_left → Pl, pow_le_pow_right → Pm, add_le_add_left → Pn, add_zero → Pq, lt_or_eq_of_le → Pt, sub_add_cancel → Pv, le_of_sub_eq_zero → PA, le_of_lt_succ → PC, sub_pos_of_lt → PD, add_le_add_right → PK, le_add_right → PL, succ_le_succ → PM, lt_irrefl → PQ, one_pos → PT, min_eq_left → PU, strongRecOn → PV, pos_of_ne_zero → PZ, mul_le_mul → P3, lt_of_succ_lt → P6, sub_le_sub_right → Qb, mul_le_mul_left → Qi, mod_lt → Qj, add_right_comm → Qn, le_succ_of_le → Qs, lt_succ_of_le → Qy, lt_succ_iff_lt_or_eq → QD, not_le → QE, lt_of_not_le → QF, zero_max → QK, succ_mul → QM, not_lt_zero → QV, le_of_succ_le_succ → QW, le_antisymm → QY, le_zero → Q1, not_lt → Q6, add_assoc → Q7, ne_of_lt → Q9, pow_succ → Ra, sub_self → Rb, beq → Rd
open Array renaming getElem?_eq_none_iff → N8, toList_append → Oq, perm_iff_toList_perm → Oz, length_toList → OB, toList_extract → OP, getElem?_toList → O4, getElem?_eq_getElem → O5, toList_push → O9, getElem?_eq_some_iff → PN, size_extract → P0, toList_reverse → Qd, eraseIdxIfInBounds → QA, toList_inj → QH, getElem?_eq_none → QP, size_push → QQ
open Option renaming some → Oj, map_eq_none_iff → Pf, map_eq_some_iff → Pw, map_some → Q0, map → Q8
open Int renaming toNat_natCast → O8, natCast_nonneg → PY, add_zero → QI, eq_ofNat_of_zero_le → QJ
open Bool renaming and_eq_true → Pd, false_eq_true → Pi, false_ne_true → Pr, or_eq_true → QR
open List.Sublist renaming refl → PF, append_left → QB, cons_cons → QO
open Array.Perm renaming trans → Rc
open PySem.Str renaming ofString → Rf
open PySem renaming Expr → Rg
open PySem.W.Fast renaming te10274390034422433532 → Rh, te14364793385576792824 → Ri, te14289696077712309145 → Rj, te15667345088766844465 → Rk, te11892475500146522536 → Rl, te10110043849684766642 → Rn, te1066825118222455980 → Ro, te12563942051412417395 → Rp, tw2965532104302071907 → Rq, tw7228091826238408665 → Rr, tw9652029157277244616 → Rs, tw4359058424727691002 → Rt, tw10540108854288196387 → Ru, tw11925912800584824493 → Rv, tw11913375310210876947 → Rw, tw8596071696976842438 → Rx, tw12456147031677567982 → Ry, te12456147031677567982 → Rz, tw11216187645035866516 → RA, te11216187645035866516 → RB, tw14044960220447912780 → RC, te14044960220447912780 → RD, te14082659384304107361 → RE, te4187177175401517315 → RF
namespace Mine
open PySem
abbrev aK:=List (Addr×Obj)
abbrev aN:=Array Value
abbrev aP:=Shared->Prop
noncomputable abbrev aA:Code->Sem Fin:=PySem.W.Fast.tw11892475500146522536 PySem.W.Fast.tw14364793385576792824
theorem eG:denote table=aA:=by
 rw[table_eq_tree,PySem.W.Fast.te11892475500146522536,PySem.W.Fast.te14364793385576792824]
abbrev bY:=List (Code×(Result->Sem Fin))
structure G where
 t:Sem Fin
 κ:bY
 st:List (Addr×Obj)
 nx:Nat
 tok:Nat
inductive Op where
 | b|a|i|s
 | h (ks:List Nat)
 | x (t:Sem Fin) (ks:List Nat)
 | l (n:Nat)
 | u (n:Nat)
  | c (what:String)
noncomputable abbrev Op.o:Op:=.h []
noncomputable abbrev nc (l:List Op):List Op:=l
noncomputable def cV (den:Code->Sem Fin)(S:Setting):Nat->Sem Fin->bY->Nat->Sem Fin×bY×Nat
 | 0,t,κ,n=>(t,κ,n)
 | f+1,t,κ,n=>match t with
  | .rule _ k=>cV den S f (k ()) κ n
  | .at _ k=>cV den S f (k ()) κ n
  | .point _ k=>cV den S f (k ()) κ n
  | .fresh k=>cV den S f (k n) κ (n+1)
  | .ask k=>cV den S f (k S) κ n
  | .handled false k=>cV den S f (k none) κ n
  | .pure (.done fl)=>match κ with
   | []=>(.pure (.done fl),[],n)
   | (_,k)::κ'=>cV den S f (k (.ok fl)) κ' n
  | .pure (.again c')=>match κ with
   | []=>(.pure (.again c'),[],n)
   | (c₀,k)::κ'=>match c'.quiet with
    | true=>cV den S f (den c') ((c',k)::κ') n
    | false=>(.pure (.again c'),(c₀,k)::κ',n)
  | .raise e=>match κ with
   | []=>(.raise e,[],n)
   | (_,k)::κ'=>cV den S f (k (.error e)) κ' n
  | t=>(t,κ,n)
noncomputable def m9 (l:List (Code×Pos)):Sem Unit:=match PySem.W.Fast.tw15066281185411960212 0 with
 | .stack k=>k l
 | _=>.unsupported "no stack"
noncomputable def cK (what:String)(l:List (Code×Pos)):Sem Unit:=match PySem.W.Fast.tw10648789137845014744 what with
 | .stack k=>k l
 | _=>.unsupported "no stack"
noncomputable def Jw (o:Obj):Sem Fin->Sem Fin
 | .load _ _ k=>k o
 | _=>.unsupported "no load"
structure ir where
 v:Nat->Nat->Value
 dt:Nat:=0
 news:List Obj:=[]
structure Pu where
 c:Code
 o:ir
 st:List (Addr×Obj)
structure Al where
 c:Code
 t:Sem Fin
 st:List (Addr×Obj)
structure bo where
 alts:List Al
 asks:List (Addr×Addr)
 rooms:List ((List (Code×Pos)->Sem Fin)×(List (Code×Pos)->Sem Fin))
 pures:List Pu
 g:G
noncomputable def l9:List (Addr×Obj)->Nat->Option (Addr×Obj)
 | [],_=>none
 | p::r,i=>match i with
  | 0=>some p
  | j+1=>l9 r j
noncomputable def fU (f:Obj->Obj):List (Addr×Obj)->Nat->List (Addr×Obj)
 | [],_=>[]
 | p::r,i=>match i with
  | 0=>(p.1,f p.2)::r
  | j+1=>p::fU f r j
noncomputable def snoc:List (Addr×Obj)->Addr×Obj->List (Addr×Obj)
 | [],x=>[x]
 | p::r,x=>p::snoc r x
def kj:List (Addr×Obj)->Nat->List Obj->List (Addr×Obj)
 | st,_,[]=>st
 | st,n,o::r=>kj (snoc st (n,o)) (n+1) r
noncomputable def uc (c:Code):Bool:=Nat.ble c.weight 4
def ci:bY->Nat->Bool
 | [],_=>true
 | _::_,0=>false
 | p::r,n+1=>match uc p.1 with
  | true=>ci r n
  | false=>false
noncomputable def pick:List Nat->List (Addr×Obj)->List (Addr×Obj)
 | [],_=>[]
 | k::r,l=>match l.drop k with
  | x::l'=>x::pick r l'
  | []=>[]
theorem iu:∀(ks:List Nat) (l:List (Addr×Obj)),(pick ks l).Sublist l
 | [],l=>List.nil_sublist l
 | k::r,l=>by
  unfold pick
  cases h:l.drop k with
  | nil=>exact List.nil_sublist l
  | cons x l' =>
   have e:l=l.take k++x::l':=by rw[<-h,Ot]
   rw[e]
   exact List.Sublist.trans (QO x (iu r l')) (Ou _ _)
noncomputable def cr:bY->Nat->Bool
 | [],_=>true
 | _::_,0=>false
 | _::r,n+1=>cr r n
def Lz (t:Sem Fin)(f:Addr->(Obj->Sem Fin)->Option bo):Option bo:=match t with
 | .load a _ k=>f a k
 | _=>none
def MO (t:Sem Fin)(f:Addr->(Obj->Obj)->(Unit->Sem Fin)->Option bo):Option bo:=match t with
 | .update a _ g k=>f a g k
 | _=>none
def MP (t:Sem Fin)(f:Obj->(Addr->Sem Fin)->Option bo):Option bo:=match t with
 | .alloc o k=>f o k
 | _=>none
def Lg (t:Sem Fin)(f:Code->(Result->Sem Fin)->Option bo):Option bo:=match t with
 | .call c none _ _ k=>f c k
 | _=>none
def LA (t:Sem Fin)(f:(List (Code×Pos)->Sem Fin)->Option bo):Option bo:=match t with
 | .stack k=>f k
 | _=>none
def xB {β:Type}(o:Option β)(f:β->Option bo):Option bo:=match o with
 | some x=>f x
 | none=>none
def Lh (b:Bool)(x:Option bo):Option bo:=match b with
 | true=>x
 | false=>none
def LB (b:Bool)(x:Option bo):Option bo:=match b with
 | true=>none
 | false=>x
def MQ (os:List ir)(f:ir->List ir->Option bo):Option bo:=match os with
 | x::r=>f x r
 | []=>none
noncomputable def Ng (den:Code->Sem Fin)(K:Nat->Option Obj)(nx:List ir->G->Option bo)(os:List ir)(g:G)(t:Sem Fin)(κ:bY)(n:Nat):Op->Option bo
 | .b=>Lz t λa k=>xB (K a) λo=>nx os ⟨k o,κ,g.st,g.nx,n⟩
 | .a=>MP t λo k=>LB o.isFreed (nx os ⟨k g.nx,κ,snoc g.st (g.nx,o),g.nx+1,n⟩)
 | .i=>Lg t λc k=>nx os ⟨den c,(c,k)::κ,g.st,g.nx,n⟩
 | .h ks=>Lg t λc k=>MQ os λx os'=>Lh (cr κ 30) (xB (nx os' ⟨k (.ok (.ret (x.v n g.nx))),κ,kj g.st g.nx x.news,g.nx+x.news.length,n+x.dt⟩) λy=>some {y with pures:=⟨c,x,pick ks g.st⟩::y.pures})
 | .x t' ks=>Lg t λc k=>xB (nx os ⟨t',(c,k)::κ,g.st,g.nx,n⟩) λy=>some {y with alts:=⟨c,t',pick ks g.st⟩::y.alts}
 | .s=>LA t λk=>Lh (ci κ 30) (xB (K 2) λo=>xB (nx os ⟨Jw o (k []),κ,g.st,g.nx,n⟩) λy=>some {y with rooms:=(k,λl=>PySem.W.R.bindR (m9 l) λ_=>Jw o (k []))::y.rooms})
 | .c what=>LA t λk=>Lh (cr κ 30) (xB (nx os ⟨k [],κ,g.st,g.nx,n⟩) λy=>some {y with rooms:=(k,λl=>PySem.W.R.bindR (cK what l) λ_=>k [])::y.rooms})
 | .l i=>Lz t λa k=>xB (l9 g.st i) λp=>xB (nx os ⟨k p.2,κ,g.st,g.nx,n⟩) λy=>some {y with asks:=(a,p.1)::y.asks}
 | .u i=>MO t λa f k=>xB (l9 g.st i) λp=>LB (f p.2).isFreed (xB (nx os ⟨k (),κ,fU f g.st i,g.nx,n⟩) λy=>some {y with asks:=(a,p.1)::y.asks})
noncomputable def go (den:Code->Sem Fin)(S:Setting)(K:Nat->Option Obj)(F:Nat):List Op->List ir->G->Option bo
 | [],_,g=>match cV den S F g.t g.κ g.tok with
  | (t,κ,n)=>some ⟨[],[],[],[],⟨t,κ,g.st,g.nx,n⟩⟩
 | op::r,os,g=>match cV den S F g.t g.κ g.tok with
  | (t,κ,n)=>Ng den K (go den S K F r) os g t κ n op
theorem ns {α:Type}{y:α}{G:Prop}(h:(none:Option α)=some y):G:=nomatch h
theorem xH {t:Sem Fin}{f:Addr->(Obj->Sem Fin)->Option bo}{y:bo}(h:Lz t f=some y){P:Sem Fin->Prop}(k:∀a p k,f a k=some y->P (.load a p k)):P t:=by
 cases t<;>first|exact k _ _ _ h|exact ns h
theorem GH {t:Sem Fin}{f:Addr->(Obj->Obj)->(Unit->Sem Fin)->Option bo}{y:bo}(h:MO t f=some y){P:Sem Fin->Prop}(k:∀a p g k,f a g k=some y->P (.update a p g k)):P t:=by
 cases t<;>first|exact k _ _ _ _ h|exact ns h
theorem GI {t:Sem Fin}{f:Obj->(Addr->Sem Fin)->Option bo}{y:bo}(h:MP t f=some y){P:Sem Fin->Prop}(k:∀o k,f o k=some y->P (.alloc o k)):P t:=by
 cases t<;>first|exact k _ _ h|exact ns h
theorem ri {t:Sem Fin}{f:Code->(Result->Sem Fin)->Option bo}{y:bo}(h:Lg t f=some y){P:Sem Fin->Prop}(k:∀c gd l k,f c k=some y->P (.call c none gd l k)):P t:=by
 cases t
 case call c hd gd l q=>cases hd with
  | none=>exact k _ _ _ _ h
  | some v=>exact ns h
 all_goals exact ns h
theorem xI {t:Sem Fin}{f:(List (Code×Pos)->Sem Fin)->Option bo}{y:bo}(h:LA t f=some y){P:Sem Fin->Prop}(k:∀k,f k=some y->P (.stack k)):P t:=by
 cases t<;>first|exact k _ h|exact ns h
theorem ng {β:Type}{o:Option β}{f:β->Option bo}{y:bo}(h:xB o f=some y){G:Prop}(k:∀x,o=some x->f x=some y->G):G:=by
 cases o with
 | none=>exact ns h
 | some x=>exact k x rfl h
theorem jg {o:Option bo}{f:bo->bo}{y:bo}(h:xB o (λy=>some (f y))=some y){P:bo->Prop}(k:∀x,o=some x->P (f x)):P y:=by
 cases o with
 | none=>exact ns h
 | some x=>exact Oj.inj h▸k x rfl
theorem rj {b:Bool}{x:Option bo}{y:bo}(h:Lh b x=some y){G:Prop}(k:b=true->x=some y->G):G:=by
 cases b with
 | true=>exact k rfl h
 | false=>exact ns h
theorem xJ {b:Bool}{x:Option bo}{y:bo}(h:LB b x=some y){G:Prop}(k:b=false->x=some y->G):G:=by
 cases b with
 | true=>exact ns h
 | false=>exact k rfl h
theorem GJ {os:List ir}{f:ir->List ir->Option bo}{y:bo}(h:MQ os f=some y){G:Prop}(k:∀x r,f x r=some y->G):G:=by
 cases os with
 | nil=>exact ns h
 | cons x r=>exact k x r h
section sound
variable{prog:Program}{w:World}{A:Around}{Q:Fin->Shared->Prop}{E:Value->Shared->Prop}
noncomputable abbrev Mo (prog:Program)(w:World):Model:=model prog w
noncomputable def ar (A:Around):bY->Around
 | []=>A
 | (c,_)::κ=>(ar A κ).under c
def post (prog:Program)(w:World)(A:Around)(Q:Fin->Shared->Prop)(E:Value->Shared->Prop):bY->(Fin->Shared->Prop)×(Value->Shared->Prop)
 | []=>(Q,E)
 | (_,k)::κ=>(λfin s'=>match fin with
   | .done f=>wpAny (Mo prog w) (ar A κ) (k (.ok f)) (post prog w A Q E κ).1 (post prog w A Q E κ).2 s'
   | .again c'=>c'.quiet=true/\codeAny (Mo prog w) (ar A κ) c' (λr s''=>wpAny (Mo prog w) (ar A κ) (k r) (post prog w A Q E κ).1 (post prog w A Q E κ).2 s'') s',
  λe s'=>wpAny (Mo prog w) (ar A κ) (k (.error e)) (post prog w A Q E κ).1 (post prog w A Q E κ).2 s')
def an (prog:Program)(w:World)(A:Around)(Q:Fin->Shared->Prop)(E:Value->Shared->Prop)(κ:bY)(t:Sem Fin)(s:Shared):Prop:=
 wpAny (Mo prog w) (ar A κ) t (post prog w A Q E κ).1 (post prog w A Q E κ).2 s
theorem GK {κ:bY}{tag:String}{k:Unit->Sem Fin}{s:Shared}(h:an prog w A Q E κ (k ()) s):an prog w A Q E κ (.rule tag k) s:=λΓ p hΓ=>h Γ p hΓ
theorem LC {κ:bY}{q:Pos}{k:Unit->Sem Fin}{s:Shared}(h:an prog w A Q E κ (k ()) s):an prog w A Q E κ (.at q k) s:=λΓ _ hΓ=>h Γ q hΓ
theorem BP {κ:bY}{l:List Value}{k:Unit->Sem Fin}{s:Shared}(h:an prog w A Q E κ (k ()) s):an prog w A Q E κ (.point l k) s:=λΓ p hΓ=>h Γ p hΓ
theorem BQ {κ:bY}{k:Tok->Sem Fin}{s:Shared}(h:an prog w A Q E κ (k s.toks) {s with toks:=s.toks+1}):an prog w A Q E κ (.fresh k) s:=λΓ p hΓ=>h Γ p hΓ
theorem Jx {κ:bY}{k:Setting->Sem Fin}{s:Shared}(h:an prog w A Q E κ (k ⟨prog,w.params⟩) s):an prog w A Q E κ (.ask k) s:=λΓ p hΓ=>h Γ p hΓ
theorem GL {κ:bY}{c:Code}{k:Result->Sem Fin}{f:Flow}{s:Shared}(h:an prog w A Q E κ (k (.ok f)) s):an prog w A Q E ((c,k)::κ) (.pure (.done f)) s:=λ_ _ _=>h
theorem BR {κ:bY}{c:Code}{k:Result->Sem Fin}{e:Value}{s:Shared}(h:an prog w A Q E κ (k (.error e)) s):an prog w A Q E ((c,k)::κ) (.raise e) s:=λ_ _ _=>h
theorem rk {κ:bY}{c:Code}{k:Result->Sem Fin}{s:Shared}(h:an prog w A Q E ((c,k)::κ) (denote table c) s) :
  codeAny (Mo prog w) (ar A κ) c (λr s''=>an prog w A Q E κ (k r) s'') s:=codeAny_of_tree h
theorem BS {κ:bY}{c c':Code}{k:Result->Sem Fin}{s:Shared}(hq:c'.quiet=true)(h:an prog w A Q E ((c',k)::κ) (denote table c') s) :
  an prog w A Q E ((c,k)::κ) (.pure (.again c')) s:=λ_ _ _=>⟨hq,rk h⟩
theorem xK {κ:bY}{a:Addr}{part:Option Value}{k:Obj->Sem Fin}{o:Obj}{s:Shared}(ho:s.heap.get? a=some o)(h:an prog w A Q E κ (k o) s):an prog w A Q E κ (.load a part k) s:=
 λΓ p hΓ=>⟨o,ho,h Γ p hΓ⟩
theorem xL {κ:bY}{a:Addr}{part:Option Value}{f:Obj->Obj}{k:Unit->Sem Fin}{o:Obj}{s:Shared}(ho:s.heap.get? a=some o)(h:an prog w A Q E κ (k ()) {s with heap:=s.heap.update a f}) :
  an prog w A Q E κ (.update a part f k) s:=λΓ p hΓ=>⟨by rw[ho];rfl,h Γ p hΓ⟩
theorem BU {κ:bY}{o:Obj}{k:Addr->Sem Fin}{s:Shared}(h:an prog w A Q E κ (k s.heap.objs.size) {s with heap:=s.heap.push o}):an prog w A Q E κ (.alloc o k) s:=λΓ p hΓ=>h Γ p hΓ
theorem nh {κ:bY}{c:Code}{g:Bool}{l:List Value}{k:Result->Sem Fin}{s:Shared}(h:codeAny (Mo prog w) (ar A κ) c (λr s'=>an prog w A Q E κ (k r) s') s) :
  an prog w A Q E κ (.call c none g l k) s:=λΓ p hΓ=>wpCode_mono (λ_ _ x=>x Γ p hΓ) (h _ p rfl (hΓ.enter c none p (by intro x;cases x)))
theorem GM {κ:bY}{c:Code}{g:Bool}{l:List Value}{k:Result->Sem Fin}{s:Shared}(h:an prog w A Q E ((c,k)::κ) (denote table c) s) :
  an prog w A Q E κ (.call c none g l k) s:=nh (rk h)
theorem xM:(enterFrame:Sem Unit)=.stack m9:=by
 unfold m9
 rw[PySem.W.Fast.te15066281185411960212]
 rfl
theorem BV {κ:bY}{k:List (Code×Pos)->Sem Fin}{F:Sem Fin}{s:Shared}(hk:k=λl=>PySem.W.R.bindR (m9 l) λ_=>F)(hl:s.heap.NoLimit)(hd:(ar A κ).depth<recursionLimit)
  (h:an prog w A Q E κ F s):an prog w A Q E κ (.stack k) s:=by
 have e:(.stack k:Sem Fin)=(enterFrame >>= λ_=>F):=by
  rw[hk,xM,<-PySem.W.R.bindR_eq];rfl
 unfold an
 rw[e]
 exact wpAny_bind (wpAny_enterFrame hl hd h)
theorem BW (what:String):(cRoom what:Sem Unit)=.stack (cK what):=by
 unfold cK
 rw[PySem.W.Fast.te10648789137845014744]
 rfl
theorem GN {κ:bY}{k:List (Code×Pos)->Sem Fin}{F:Sem Fin}{what:String}{s:Shared}(hk:k=λl=>PySem.W.R.bindR (cK what l) λ_=>F)(hu:(ar A κ).units<cLine)
  (h:an prog w A Q E κ F s):an prog w A Q E κ (.stack k) s:=by
 have e:(.stack k:Sem Fin)=(cRoom what >>= λ_=>F):=by
  rw[hk,BW,<-PySem.W.R.bindR_eq];rfl
 unfold an
 rw[e]
 exact wpAny_bind (wpAny_cRoom hu h)
theorem g7 (A:Around):∀κ:bY,(ar A κ).handled=A.handled
 | []=>rfl
 | _::κ=>g7 A κ
theorem vI {κ:bY}{k:Option Value->Sem Fin}{s:Shared}(hH:A.handled=none)(h:an prog w A Q E κ (k none) s):an prog w A Q E κ (.handled false k) s:=λΓ p hΓ=>by
 have e:Γ.handled=none:=by rw[hΓ.1,g7,hH]
 show Sem.wp _ Γ (k Γ.handled) _ _ p s
 rw[e];exact h Γ p hΓ
theorem fn {κ:bY}{n:Nat}{s:Shared}{t t':Sem Fin}{κ':bY}{n':Nat}(hn:s.toks=n)(e:(t,κ,n)=(t',κ',n'))(h:an prog w A Q E κ' t' {s with toks:=n'}):an prog w A Q E κ t s:=by
 cases e;subst hn;exact h
theorem bv (hH:A.handled=none):∀(F:Nat) (t:Sem Fin) (κ:bY) (n:Nat) (s:Shared) (t':Sem Fin) (κ':bY) (n':Nat),s.toks=n->cV aA ⟨prog,w.params⟩ F t κ n=(t',κ',n') ->
  an prog w A Q E κ' t' {s with toks:=n'}->an prog w A Q E κ t s
 | 0,t,κ,n,s,t',κ',n',hn,e,h=>fn hn e h
 | F+1,t,κ,n,s,t',κ',n',hn,e,h=>by
  cases t with
  | rule tag k=>exact GK (bv hH F _ _ _ _ _ _ _ hn e h)
  | «at» q k=>exact LC (bv hH F _ _ _ _ _ _ _ hn e h)
  | point l k=>exact BP (bv hH F _ _ _ _ _ _ _ hn e h)
  | fresh k =>
   subst hn
   exact BQ (bv hH F _ _ _ {s with toks:=s.toks+1} _ _ _ rfl e h)
  | ask k=>exact Jx (bv hH F _ _ _ _ _ _ _ hn e h)
  | handled own k =>
   cases own with
   | false=>exact vI hH (bv hH F _ _ _ _ _ _ _ hn e h)
   | true=>exact fn hn e h
  | pure fin =>
   cases fin with
   | done f =>
    cases κ with
    | nil=>exact fn hn e h
    | cons p κ=>exact GL (bv hH F _ _ _ _ _ _ _ hn e h)
   | again c =>
    cases κ with
    | nil=>exact fn hn e h
    | cons p κ =>
     have e:(match c.quiet with|true=>cV aA ⟨prog,w.params⟩ F (aA c) ((c,p.2)::κ) n|false=>(.pure (.again c),(p.1,p.2)::κ,n))=(t',κ',n'):=e
     cases hq:c.quiet with
     | true =>
      rw[hq]at e
      refine BS hq ?_
      rw[eG]
      exact bv hH F _ _ _ _ _ _ _ hn e h
     | false =>
      rw[hq]at e
      exact fn hn e h
  | raise e₀ =>
   cases κ with
   | nil=>exact fn hn e h
   | cons p κ=>exact BR (bv hH F _ _ _ _ _ _ _ hn e h)
  | _=>exact fn hn e h
structure aa (K:Nat->Option Obj)(s:Shared)(st:List (Addr×Obj))(nx tok:Nat):Prop where
 has:∀p∈st,s.heap.get? p.1=some p.2
 nodup:(st.map (·.1)).Nodup
 base:∀a o,K a=some o->s.heap.get? a=some o
 off:∀a o,K a=some o->a∉st.map (·.1)
 nx:s.heap.objs.size=nx
 tok:s.toks=tok
structure bj (ads:List Addr)(s s':Shared):Prop where
 old:∀b o,s.heap.get? b=some o->b∉ads->s'.heap.get? b=some o
 size:s.heap.objs.size<=s'.heap.objs.size
 gens:s'.gens=s.gens
 drawn:s'.drawn=s.drawn
 os:s'.os=s.os
theorem bj.refl {ads:List Addr}{s:Shared}{n:Nat}:bj ads s {s with toks:=n}:=⟨λ_ _ h _=>h,NT _,rfl,rfl,rfl⟩
theorem bj.trans {ads:List Addr}{s s' s'':Shared}(a:bj ads s s')(b:bj ads s' s''):bj ads s s'':=
 ⟨λx o h n=>b.old x o (a.old x o h n) n,NU a.size b.size,b.gens.trans a.gens,b.drawn.trans a.drawn,b.os.trans a.os⟩
theorem bj.transNew {ads ads':List Addr}{s s' s'':Shared}(a:bj ads s s')(b:bj ads' s' s'')(h:∀x,x∈ads'->x∈ads\/s.heap.objs.size<=x):bj ads s s'':=
 ⟨λx o hx n=>b.old x o (a.old x o hx n) (λhm=>(h x hm).elim n (λl=>absurd (Heap.lt_size hx) (Q6.mpr l))),NU a.size b.size,b.gens.trans a.gens,b.drawn.trans a.drawn,b.os.trans a.os⟩
noncomputable def pushAll:Heap->List Obj->Heap
 | h,[]=>h
 | h,o::r=>pushAll (h.push o) r
def ak (prog:Program)(w:World)(K:Nat->Option Obj)(U:Nat)(x:Pu):Prop:=
 (∀o∈x.o.news,o.isFreed=false)/\∀(A:Around) (s:Shared),A.units<=U->(∀p∈x.st,s.heap.get? p.1=some p.2)->(∀a o,K a=some o->s.heap.get? a=some o) ->
  codeAny (Mo prog w) A x.c (λr s'=>r=.ok (.ret (x.o.v s.toks s.heap.objs.size))/\s'={s with heap:=pushAll s.heap x.o.news,toks:=s.toks+x.o.dt}) s
theorem gu (l:List (Addr×Obj))(x:Addr×Obj):snoc l x=l++[x]:=by
 induction l with
 | nil=>rfl
 | cons p r ih=>simp only[snoc,ih,Oi]
theorem fo {l:List (Addr×Obj)}{i:Nat}{p:Addr×Obj}(h:l9 l i=some p):p∈l:=by
 induction l generalizing i with
 | nil=>simp[l9]at h
 | cons q r ih =>
  cases i with
  | zero=>simp only[l9,Oj.injEq]at h;subst h;exact .head _
  | succ j=>exact .tail _ (ih h)
theorem mw (f:Obj->Obj)(l:List (Addr×Obj))(i:Nat):(fU f l i).map (·.1)=l.map (·.1):=by
 induction l generalizing i with
 | nil=>rfl
 | cons q r ih =>
  cases i with
  | zero=>rfl
  | succ j=>simp only[fU,Oa,ih]
theorem vJ {f:Obj->Obj}{l:List (Addr×Obj)}{i:Nat}{p q:Addr×Obj}(h:l9 l i=some p)(hn:(l.map (·.1)).Nodup)(hq:q∈fU f l i):q=(p.1,f p.2)\/(q∈l/\q.1≠p.1):=by
 induction l generalizing i with
 | nil=>simp[l9]at h
 | cons x r ih =>
  simp only[Oa,Ob]at hn
  cases i with
  | zero =>
   simp only[l9,Oj.injEq]at h
   subst h
   simp only[fU,N0]at hq
   rcases hq with rfl|hq
   ·exact .inl rfl
   ·exact .inr ⟨.tail _ hq,λe=>hn.1 (NL.mpr ⟨q,hq,e⟩)⟩
  | succ j =>
   simp only[l9]at h
   simp only[fU,N0]at hq
   rcases hq with rfl|hq
   ·refine .inr ⟨.head _,λe=>hn.1 (NL.mpr ⟨p,fo h,e.symm⟩)⟩
   ·rcases ih h hn.2 hq with e|⟨a,b⟩
    ·exact .inl e
    ·exact .inr ⟨.tail _ a,b⟩
theorem aa.update {K:Nat->Option Obj}{s:Shared}{st:List (Addr×Obj)}{nx tok:Nat}{i:Nat}{p:Addr×Obj}{f:Obj->Obj}(I:aa K s st nx tok)(h:l9 st i=some p)(hf:(f p.2).isFreed=false) :
  aa K {s with heap:=s.heap.update p.1 f} (fU f st i) nx tok:=by
 have hs:Heap.SameBut p.1 s.heap (s.heap.update p.1 f):=Heap.SameBut.update ..
 refine⟨λq hq=>?_,by rw[mw];exact I.nodup,λa o ha=>?_,λa o ha=>by rw[mw];exact I.off a o ha,hs.1.trans I.nx,I.tok⟩
 ·rcases vJ h I.nodup hq with rfl|⟨a,b⟩
  ·exact Heap.get?_update_self f (I.has p (fo h)) hf
  ·exact(hs.2 _ b).trans (I.has q a)
 ·exact(hs.2 a λe=>I.off a o ha (NL.mpr ⟨p,fo h,e.symm⟩)).trans (I.base a o ha)
theorem aa.push {K:Nat->Option Obj}{s:Shared}{st:List (Addr×Obj)}{nx tok:Nat}{o:Obj}(I:aa K s st nx tok)(hf:o.isFreed=false) :
  aa K {s with heap:=s.heap.push o} (snoc st (nx,o)) (nx+1) tok:=by
 have hlt:∀q∈st,q.1<nx:=λq hq=>I.nx▸Heap.lt_size (I.has q hq)
 rw[gu]
 refine⟨λq hq=>?_,?_,λa o' ha=>Heap.get?_push_of_some _ (I.base a o' ha),λa o' ha hm=>?_,by rw[Heap.size_push,I.nx],I.tok⟩
 ·rcases NK.mp hq with hq|hq
  ·exact Heap.get?_push_of_some _ (I.has q hq)
  ·rw[NN.mp hq,<-I.nx];exact Heap.get?_push_size _ hf
 ·rw[NO,Oh]
  refine⟨I.nodup,by simp,λa ha b hb=>?_⟩
  obtain⟨q,hq,rfl⟩:=NL.mp ha
  simp only[Oa,Pp,NN]at hb
  subst hb
  exact Q9 (hlt q hq)
 ·rw[NO,NK]at hm
  rcases hm with hm|hm
  ·exact I.off a o' ha hm
  ·simp only[Oa,Pp,NN]at hm
   have:=Heap.lt_size (I.base a o' ha)
   rw[I.nx,hm]at this
   exact absurd this (PQ _)
theorem aa.pushAll {K:Nat->Option Obj}:∀{news:List Obj} {s:Shared} {st:List (Addr×Obj)} {nx tok:Nat},aa K s st nx tok->(∀o∈news,o.isFreed=false) ->
  aa K {s with heap:=pushAll s.heap news} (kj st nx news) (nx+news.length) tok
 | [],s,st,nx,tok,I,_=>I
 | o::r,s,st,nx,tok,I,hf=>by
  have:=aa.pushAll (I.push (hf o (.head _))) (λx hx=>hf x (.tail _ hx))
  rw[NV,show nx+(r.length+1)=nx+1+r.length by lia]
  exact this
theorem aa.toks {K:Nat->Option Obj}{s:Shared}{st:List (Addr×Obj)}{nx tok n:Nat}(I:aa K s st nx tok):aa K {s with toks:=n} st nx n:=⟨I.has,I.nodup,I.base,I.off,I.nx,rfl⟩
theorem jH {b:Addr}{o:Obj}:∀{news:List Obj} {h:Heap},h.get? b=some o->(Mine.pushAll h news).get? b=some o
 | [],_,e=>e
 | x::r,h,e=>by
  show(Mine.pushAll (h.push x) r).get? b=some o
  exact jH (Heap.get?_push_of_some x e)
theorem iv:∀(news:List Obj) (h:Heap),(Mine.pushAll h news).objs.size=h.objs.size+news.length
 | [],_=>rfl
 | o::r,h=>by
  show(Mine.pushAll (h.push o) r).objs.size=_
  rw[iv r,Heap.size_push,NV];lia
theorem Nh {c:Prop}{_:Decidable c}{n:Nat}{x:c->Nat}{y:¬c->Nat}(hx:∀h,x h<=n)(hy:∀h,y h<=n):dite c x y<=n:=by
 by_cases h:c
 ·rw[dif_pos h];exact hx h
 ·rw[dif_neg h];exact hy h
theorem ue {c:Bool}:(if c=true then 1 else 0)<=3:=by cases c<;>decide
theorem vK (c:Code):c.cUnits<=10:=by
 have h3:c.frames<=3:=by
  cases c with
  | builtin id a =>
   unfold Code.frames
   delta Code.frames.match_1
   dsimp only
   repeat' refine Nh (λh=>?_) λh=>?_
   all_goals first|(subst h;decide)|exact ue
  | _=>delta Code.frames;exact ue
 cases c with
 | builtin id a=>exact Pn (Qi 3 h3) 1
 | call=>exact Pl 1 9
 | _=>exact Qs (Qi 3 h3)
theorem iw (A:Around):∀κ:bY,(ar A κ).units<=A.units+10*κ.length
 | []=>NT _
 | (c,k)::κ=>by
  have:=iw A κ
  have:=vK c
  show(ar A κ).units+c.cUnits<=_
  rw[NV];lia
theorem km (A:Around):∀(κ:bY) (n:Nat),ci κ n=true->(ar A κ).depth<=A.depth+4*n
 | [],n,_=>PL _ _
 | (c,k)::κ,0,h=>by simp[ci]at h
 | (c,k)::κ,n+1,h=>by
  unfold ci at h
  cases hl:uc c with
  | false=>rw[hl]at h;cases h
  | true =>
   rw[hl]at h
   have:=km A κ n h
   have hw:c.weight<=4:=NY hl
   show(ar A κ).depth+c.weight<=_
   lia
def a9 (prog:Program)(w:World)(K:Nat->Option Obj)(x:Al):Prop:=
 ∀(A:Around) (R:Result->Shared->Prop) (s:Shared),(∀p∈x.st,s.heap.get? p.1=some p.2)->(∀a o,K a=some o->s.heap.get? a=some o) ->
  wpAny (Mo prog w) (A.under x.c) x.t (λfin s'=>match fin with|.done f=>R (.ok f) s'|.again c'=>c'.quiet=true/\codeAny (Mo prog w) A c' R s') (λe s'=>R (.error e) s') s->codeAny (Mo prog w) A x.c R s
structure LD (prog:Program)(w:World)(K:Nat->Option Obj)(U:Nat)(y:bo):Prop where
 alts:∀x∈y.alts,a9 prog w K x
 asks:y.asks.map (·.1)=y.asks.map (·.2)
 rooms:y.rooms.map (·.1)=y.rooms.map (·.2)
 pures:∀x∈y.pures,ak prog w K U x
noncomputable def ro:List Op->List Nat
 | []=>[]
 | op::r=>match op with
  | .u n=>n::ro r
  | _=>ro r
def eP (st:List (Addr×Obj)):List Nat->List Addr
 | []=>[]
 | i::r=>match l9 st i with
  | some p=>p.1::eP st r
  | none=>eP st r
theorem ma (f:Obj->Obj)(l:List (Addr×Obj))(i j:Nat):(l9 (fU f l j) i).map (·.1)=(l9 l i).map (·.1):=by
 induction l generalizing i j with
 | nil=>rfl
 | cons q r ih =>
  cases j with
  | zero =>
   cases i with
   | zero=>rfl
   | succ i=>rfl
  | succ j =>
   cases i with
   | zero=>rfl
   | succ i=>exact ih i j
theorem ni {l:List (Addr×Obj)}{z:Addr}{us:List Nat}(h:z∈eP l us):∃i p,i∈us/\l9 l i=some p/\p.1=z:=by
 induction us with
 | nil=>exact nomatch h
 | cons i r ih =>
  unfold eP at h
  cases e:l9 l i with
  | none =>
   rw[e]at h
   obtain⟨j,p,a,b⟩:=ih h
   exact⟨j,p,.tail _ a,b⟩
  | some q =>
   rw[e]at h
   rcases N0.mp h with h|h
   ·exact⟨i,q,.head _,e,h.symm⟩
   ·obtain⟨j,p,a,b⟩:=ih h
    exact⟨j,p,.tail _ a,b⟩
theorem uf {l:List (Addr×Obj)}{i:Nat}{p:Addr×Obj}{us:List Nat}(hi:i∈us)(h:l9 l i=some p):p.1∈eP l us:=by
 induction us with
 | nil=>exact nomatch hi
 | cons j r ih =>
  unfold eP
  rcases N0.mp hi with e|hi
  ·rw[<-e,h];exact .head _
  ·cases l9 l j with
   | none=>exact ih hi
   | some q=>exact .tail _ (ih hi)
theorem rp {f:Obj->Obj}{l:List (Addr×Obj)}{j:Nat}{us:List Nat}{z:Addr}(h:z∈eP (fU f l j) us):z∈eP l us:=by
 obtain⟨i,p,a,b,c⟩:=ni h
 have e:=ma f l i j
 rw[b]at e
 cases q:l9 l i with
 | none=>rw[q]at e;exact nomatch e
 | some p' =>
  rw[q]at e
  have e2:p.1=p'.1:=Oj.inj e
  rw[<-c,e2]
  exact uf a q
theorem xN {l:List (Addr×Obj)}{us:List Nat}{z:Addr}(h:z∈eP l us):z∈l.map (·.1):=by
 obtain⟨i,p,_,b,c⟩:=ni h
 exact NL.mpr ⟨p,fo b,c⟩
theorem bj.ofU {l:List (Addr×Obj)}{us:List Nat}{s s':Shared}(k:bj (eP l us) s s'):bj (l.map (·.1)) s s':=⟨λb o hb hn=>k.old b o hb λq=>hn (xN q),k.size,k.gens,k.drawn,k.os⟩
theorem rr {l m:List (Addr×Obj)}{i:Nat}{p:Addr×Obj}(h:l9 (l++m) i=some p):l9 l i=some p\/p∈m:=by
 induction l generalizing i with
 | nil=>exact .inr (fo h)
 | cons q r ih =>
  cases i with
  | zero=>exact .inl h
  | succ j=>exact ih h
theorem pg {l m:List (Addr×Obj)}{us:List Nat}{z:Addr}(h:z∈eP (l++m) us):z∈eP l us\/z∈m.map (·.1):=by
 obtain⟨i,p,a,b,c⟩:=ni h
 exact(rr b).imp (λq=>c▸uf a q) λq=>NL.mpr ⟨p,q,c⟩
theorem mx:∀(news:List Obj) (st:List (Addr×Obj)) (n:Nat),∃m,kj st n news=st++m/\∀p∈m,n<=p.1
 | [],st,_=>⟨[],(Oc _).symm,λ_ h=>nomatch h⟩
 | o::r,st,n=>by
  obtain⟨m,e,h⟩:=mx r (snoc st (n,o)) (n+1)
  refine⟨(n,o)::m,?_,λp hp=>?_⟩
  ·rw[kj,e,gu,NP];rfl
  ·rcases N0.mp hp with q|q
   ·rw[q];exact NT _
   ·exact OZ (h p q)
theorem rt {st:List (Addr×Obj)}{n:Nat}{news:List Obj}{us:List Nat}{z:Addr}(h:z∈eP (kj st n news) us):z∈eP st us\/n<=z:=by
 obtain⟨m,e,hm⟩:=mx news st n
 rw[e]at h
 refine(pg h).imp id λq=>?_
 obtain⟨p,hp,rfl⟩:=NL.mp q
 exact hm p hp
theorem gv:∀(κ:bY) (n:Nat),cr κ n=true->κ.length<=n
 | [],_,_=>OI _
 | _::_,0,h=>by simp[cr]at h
 | _::κ,n+1,h=>PM (gv κ n h)
theorem ix {K B:Nat->Option Obj}{F U:Nat}(hB:∀a o,K a=some o->B a=some o)(hK:∀h:Heap,(∀a o,K a=some o->h.get? a=some o)->h.NoLimit)(hD:A.depth+120<recursionLimit)(hU:A.units+300<=U)(hU':U<=9000)(hH:A.handled=none) :
  ∀(ops:List Op) (os:List ir) (g:G) (y:bo) (s:Shared),go aA ⟨prog,w.params⟩ K F ops os g=some y->LD prog w K U y->aa B s g.st g.nx g.tok ->
   (∀s',aa B s' y.g.st y.g.nx y.g.tok->bj (eP g.st (ro ops)) s s'->an prog w A Q E y.g.κ y.g.t s')->an prog w A Q E g.κ g.t s
 | [],os,g,y,s,e,fine,I,h=>by
  unfold go at e
  rcases hz:cV aA ⟨prog,w.params⟩ F g.t g.κ g.tok with⟨t,κ,n⟩
  rw[hz]at e
  simp only[Oj.injEq]at e
  subst e
  exact bv hH F _ _ _ _ _ _ _ I.tok hz (h _ I.toks .refl)
 | op::r,os,g,y,s,e,fine,I,h=>by
  unfold go at e
  rcases hz:cV aA ⟨prog,w.params⟩ F g.t g.κ g.tok with⟨t,κ,n⟩
  rw[hz]at e
  refine bv hH F _ _ _ _ _ _ _ I.tok hz ?_
  have I0:aa B {s with toks:=n} g.st g.nx n:=I.toks
  have hb0:∀a o,K a=some o->s.heap.get? a=some o:=λa o h=>I0.base a o (hB a o h)
  have R:=ix (F:=F) hB hK hD hU hU' hH r
  cases op with
  | b =>
   apply xH e;intro a p k e
   with_reducible refine ng e λo ho e=>?_
   exact xK (I0.base a o (hB a o ho)) (R os _ y _ e fine I0 λs' I' k'=>h s' I' (bj.refl.trans k'))
  | a =>
   apply GI e;intro o k e
   with_reducible refine xJ e λhf e=>?_
   have e2:s.heap.objs.size=g.nx:=I.nx
   refine BU ?_
   have I1:=I0.push hf
   have:=R os _ y _ e fine I1 λs' I' k'=>h s' I' (bj.transNew (s':={s with heap:=s.heap.push o,toks:=n}) ⟨λb o' hb _=>Heap.get?_push_of_some _ hb,by show s.heap.objs.size<=(s.heap.push o).objs.size;rw[Heap.size_push];exact Pj _,rfl,rfl,rfl⟩ k' λx hx=>by
    rw[gu]at hx
    refine(pg hx).imp id λhx=>?_
    have:x=g.nx:=by simpa using hx
    exact OA (e2.trans this.symm))
   dsimp only at this ⊢
   rw[e2]
   exact this
  | i =>
   apply ri e;intro c gd l k e
   refine GM ?_
   rw[eG]
   exact R os _ y _ e fine I0 λs' I' k'=>h s' I' (bj.refl.trans k')
  | h ks =>
   apply ri e;intro c gd l k e
   with_reducible refine GJ e λx os' e=>?_
   with_reducible refine rj e λhs e=>?_
   revert fine h
   apply jg e;intro y' hy fine h
   obtain⟨nf,spec⟩:=fine.pures _ (.head _)
   have hu:(ar A κ).units<=U:=by
    have:=iw A κ
    have:=gv κ 30 hs
    lia
   refine nh (codeAny_mono (spec (ar A κ) {s with toks:=n} hu (λp hp=>I0.has p ((iu ks g.st).subset hp)) hb0) ?_)
   rintro res s2 ⟨rfl,rfl⟩
   have e2:s.heap.objs.size=g.nx:=I.nx
   dsimp only at nf ⊢
   rw[e2]
   have I1:aa B {s with heap:=pushAll s.heap x.news,toks:=n+x.dt} (kj g.st g.nx x.news) (g.nx+x.news.length) (n+x.dt):=(I0.pushAll nf).toks
   refine R os' _ y' _ hy ⟨fine.alts,fine.asks,fine.rooms,λz hz=>fine.pures z (.tail _ hz)⟩ I1 λs' I' k'=>h s' I' ?_
   refine bj.transNew (s':={s with heap:=pushAll s.heap x.news,toks:=n+x.dt}) ⟨λb o' hb _=>jH hb,by show s.heap.objs.size<=(pushAll s.heap x.news).objs.size;rw[iv];exact PL _ _,rfl,rfl,rfl⟩ k' λz hz=>?_
   exact(rt hz).imp id λq=>by rw[e2];exact q
  | x t' ks =>
   apply ri e;intro c gd l k e
   revert fine h
   apply jg e;intro y' hy fine h
   have al:=fine.alts _ (.head _)
   refine nh (al (ar A κ) _ {s with toks:=n} (λp hp=>I0.has p ((iu ks g.st).subset hp)) hb0 ?_)
   exact R os _ y' _ hy ⟨λz hz=>fine.alts z (.tail _ hz),fine.asks,fine.rooms,fine.pures⟩ I0 λs' I' k'=>h s' I' (bj.refl.trans k')
  | s =>
   apply xI e;intro k e
   with_reducible refine rj e λhs e=>?_
   with_reducible refine ng e λo ho e=>?_
   revert fine h
   apply jg e;intro y' hy fine h
   have fr:=List.cons.inj fine.rooms
   refine BV fr.1 (hK _ hb0) (by have:=km A κ 30 hs;lia) ?_
   exact R os _ y' _ hy ⟨fine.alts,fine.asks,fr.2,fine.pures⟩ I0 λs' I' k'=>h s' I' (bj.refl.trans k')
  | c what =>
   apply xI e;intro k e
   with_reducible refine rj e λhs e=>?_
   revert fine h
   apply jg e;intro y' hy fine h
   have fr:=List.cons.inj fine.rooms
   have hu:(ar A κ).units<cLine:=by
    have:=iw A κ
    have:=gv κ 30 hs
    show _<9900
    lia
   refine GN fr.1 hu ?_
   exact R os _ y' _ hy ⟨fine.alts,fine.asks,fr.2,fine.pures⟩ I0 λs' I' k'=>h s' I' (bj.refl.trans k')
  | l i =>
   apply xH e;intro a p0 k e
   with_reducible refine ng e λp ho e=>?_
   revert fine h
   apply jg e;intro y' hy fine h
   have fa:=List.cons.inj fine.asks
   refine xK (o:=p.2) (by rw[show a=p.1 from fa.1];exact I0.has p (fo ho)) ?_
   exact R os _ y' _ hy ⟨fine.alts,fa.2,fine.rooms,fine.pures⟩ I0 λs' I' k'=>h s' I' (bj.refl.trans k')
  | u i =>
   apply GH e;intro a p0 f k e
   with_reducible refine ng e λp ho e=>?_
   with_reducible refine xJ e λhf e=>?_
   revert fine h
   apply jg e;intro y' hy fine h
   have fa:=List.cons.inj fine.asks
   have ea:a=p.1:=fa.1
   subst ea
   refine xL (I0.has p (fo ho)) ?_
   refine R os _ y' _ hy ⟨fine.alts,fa.2,fine.rooms,fine.pures⟩ (I0.update ho hf) λs' I' k'=>h s' I' ?_
   have hu:eP g.st (ro (Op.u i::r))=p.1::eP g.st (ro r):=by
    show eP g.st (i::ro r)=_
    rw[eP,ho]
   have k2:bj (eP g.st (ro r)) {s with heap:=s.heap.update p.1 f,toks:=n} s':=by
    exact⟨λb o hb hn=>k'.old b o hb λq=>hn (rp q),k'.size,k'.gens,k'.drawn,k'.os⟩
   rw[hu]
   refine bj.trans (s':={s with heap:=s.heap.update p.1 f,toks:=n}) ⟨λb o' hb hn=>?_,OA (Heap.SameBut.update s.heap p.1 f).1.symm,rfl,rfl,rfl⟩ ⟨λb o' hb hn=>k2.old b o' hb λq=>hn (.tail _ q),k2.size,k2.gens,k2.drawn,k2.os⟩
   exact((Heap.SameBut.update s.heap p.1 f).2 b λq=>hn (by rw[q];exact .head _)).trans hb
end sound
abbrev ac:Op:=.l 0
abbrev az:Op:=.l 1
abbrev aQ:Op:=.l 10
abbrev cP:Op:=.l 11
abbrev bb:Op:=.l 12
abbrev jU:Op:=.l 13
abbrev vL:Op:=.l 14
abbrev LE:Op:=.l 15
abbrev g8:Op:=.l 16
abbrev g9:Op:=.l 17
abbrev xO:Op:=.l 19
abbrev au:Op:=.l 2
abbrev Jy:Op:=.l 20
abbrev ph:Op:=.l 21
abbrev d7:Op:=.l 22
abbrev ru:Op:=.l 23
abbrev bf:Op:=.l 3
abbrev b7:Op:=.l 4
abbrev b6:Op:=.l 5
abbrev iy:Op:=.l 6
abbrev hE:Op:=.l 7
abbrev bx:Op:=.l 8
abbrev jV:Op:=.l 9
abbrev bi:Op:=.u 0
abbrev jI:Op:=.u 1
abbrev dG:Op:=.u 10
abbrev GO:Op:=.u 11
abbrev rv:Op:=.u 12
abbrev BX:Op:=.u 13
abbrev Jz:Op:=.u 14
abbrev vM:Op:=.u 16
abbrev vN:Op:=.u 17
abbrev LF:Op:=.u 19
abbrev fV:Op:=.u 2
abbrev LG:Op:=.u 20
abbrev BY:Op:=.u 21
abbrev JA:Op:=.u 23
abbrev j0:Op:=.u 3
abbrev xC:Op:=.u 4
abbrev xP:Op:=.u 5
abbrev MR:Op:=.u 6
abbrev MS:Op:=.u 7
abbrev Ni:Op:=.u 8
abbrev Li:Op:=.u 9
noncomputable def BZ:List Op:=[bb,.i,bb,bb,bb,cP,.b,.i,cP,.b,.b,.a,jU,BX,.s,jU,bx,.b,.b,.b,.i,bx,.b,.b,.b,bx,bx,.b,hE,b6,b6,b6,b6,.i,b6,b6,b6,b6,iy,b7,.i,b7,bf,.a,vL,Jz,.s,ac,az,au,au,au,.i,au,au,az,au,au,au,.i,au,au,vL,.i,.a,.h [15],vL,Jz,az,au,au,au,.i,au,au,.b,.b,vL,.i,.i,.i,az,au,au,.i,au,au,au,fV,vL,jU,BX,jU,.o,jU]
noncomputable def MT:List Op:=[ac,az,az,az,.h [1],ac,au,au,au,.h [2],.o,.b,.b,ac,.b,.b,ac,.h [1],.b,.b,ac,.h [2],.o,.i,.a,bf,bf,.i,bf,.a,b7,.a,b6,b7,.i,b7,b7,b7,bf,b7,xC,b6,xP,b6,b6,b7,.i,b7,b7,b7,bf,b7,xC,.o,b6]
noncomputable def MU:List Op:=[.a,ac,bi,.b,.b,.b,.b,.b,.b,ac,.h [1],.i,.a,bf,bf,.i,bf,.a,b7,.a,b6,b7,.i,b7,b7,b7,bf,b7,xC,b6,xP,b6,b6,b7,.i,b7,b7,b7,bf,b7,xC,.o,b6]
abbrev bc (f:String)(l:List Value):Code:=.call (.builtin f) ⟨l,[]⟩
abbrev aL (l:Int):ir:={v:=λt _=>.int l (t+1),dt:=2}
abbrev aR (o:Obj):ir:={v:=λ_ nx=>.ref nx,news:=[o]}
noncomputable abbrev ab (items:Array Value)(n:Nat):Obj:=⟨.type "list",none,.seq items n,#[]⟩
noncomputable abbrev j1 (es:Array DictEntry)(e:Nat):Obj:=⟨.type "dict",none,.dict es e,#[]⟩
noncomputable abbrev ba (a:Nat)(i:Int):Obj:=⟨.type "list_iterator",none,.fields #[.ref a,.int i 0],#[]⟩
noncomputable abbrev bL (i left step:Int):Obj:=⟨.type "range_iterator",none,.fields #[.int i 0,.int left 0,.int step 0],#[]⟩
noncomputable abbrev bq (l u st:Value):Obj:=⟨.type "slice",none,.fields #[l,u,st],#[]⟩
noncomputable abbrev bQ (v:Value):Obj:=⟨.type "cell",none,.cell (some v),#[]⟩
theorem fc {α:Type _}{p:α->Prop}{a:α}{l:List α}(h:p a/\∀x,x∈l->p x):∀x,x∈a::l->p x:=List.forall_mem_cons.mpr h
theorem bu {α:Type _}{p:α->Prop}:∀x,x∈([]:List α)->p x:=N3 p
theorem nP {α:Type _}{p:α->Prop}:∀x,x∈([]:List α)->p x:=λ_ h=>nomatch h
abbrev pL (x:Nat)(v:Array Value)(n:Nat):Addr×Obj:=(x+200,ab v n)
abbrev pI (x a:Nat)(i:Int):Addr×Obj:=(x+200,ba a i)
abbrev pC (x:Nat)(v:Value):Addr×Obj:=(x+200,bQ v)
abbrev pD (x:Nat)(v:Array DictEntry)(n:Nat):Addr×Obj:=(x+200,j1 v n)
abbrev pR (x:Nat)(i l t:Int):Addr×Obj:=(x+200,bL i l t)
abbrev pn:=List (Code×Pos)->Sem Fin
def nj (ks:List Nat):Option bo->Option (List Addr×List pn×List Pu×List Al×G)
 | none=>none
 | some y=>some (y.asks.map (·.1),y.rooms.map (·.1),y.pures,y.alts,{y.g with st:=pick ks y.g.st})
noncomputable def nk (pu:List Pu)(g':G)(al:List Al:=[]):Option bo->Option (List Addr×List pn×List Pu×List Al×G)
 | none=>some ([],[],pu,al,g')
 | some y=>some (y.asks.map (·.2),y.rooms.map (·.2),pu,al,g')
noncomputable def FE:Sem Fin->Option Code
 | .call c none _ _ _=>some c
 | _=>none
theorem po {t:Sem Fin}{c:Code}(e:FE t=some c){P:Sem Fin->Prop}(k:∀gd l q,P (.call c none gd l q)):P t:=by
 cases t
 case call c0 hd gd l q=>cases hd with
  | none=>exact Oj.inj e▸k gd l q
  | some v=>exact ns e
 all_goals exact ns e
noncomputable def dH:Sem Fin->Result->Sem Fin
 | .call _ none _ _ k=>k
 | _=>λ_=>.unsupported "no call"
noncomputable def fR:Option bo->Sem Fin
 | some y=>y.g.t
 | none=>.unsupported "no run"
noncomputable def bH:Option bo->bY
 | some y=>y.g.κ
 | none=>[]
def mc (ks:List Nat):Option bo->Option (List Addr×List pn×List Pu×List Al×Option Code×aK×Nat×Nat)
 | none=>none
 | some y=>some (y.asks.map (·.1),y.rooms.map (·.1),y.pures,y.alts,FE y.g.t,pick ks y.g.st,y.g.nx,y.g.tok)
noncomputable def md (pu:List Pu)(c:Code)(st:aK)(nx tok:Nat)(al:List Al:=[]):Option bo->Option (List Addr×List pn×List Pu×List Al×Option Code×aK×Nat×Nat)
 | none=>some ([],[],pu,al,some c,st,nx,tok)
 | some y=>some (y.asks.map (·.2),y.rooms.map (·.2),pu,al,some c,st,nx,tok)
theorem aa.pick {K:Nat->Option Obj}{s:Shared}{st:aK}{nx tok:Nat}(I:aa K s st nx tok)(ks:List Nat):aa K s (pick ks st) nx tok:=by
 have h:=iu ks st
 refine⟨λp hp=>I.has p (h.subset hp),(h.map _).nodup I.nodup,I.base,λa o ha hm=>I.off a o ha ((h.map _).subset hm),I.nx,I.tok⟩
section
variable{prog:Program}{w:World}{A:Around}{Q:Fin->aP}{E:Value->aP}{K B:Nat->Option Obj}{F:Nat}{ops:List Op}{os:List ir}{g:G}{s:Shared}{pu:List Pu}{al:List Al}{ks:List Nat}
theorem run {g':G}(hK:∀h:Heap,(∀a o,K a=some o->h.get? a=some o)->h.NoLimit)(hD:A.depth+120<recursionLimit)(hU:A.units+300<=9000)(hH:A.handled=none)
  (seg:nj ks (go aA ⟨prog,w.params⟩ K F ops os g)=nk pu g' al (go aA ⟨prog,w.params⟩ K F ops os g)) (hp:∀x∈pu,ak prog w K 9000 x) (ha:∀x∈al,a9 prog w K x) (I:aa B s g.st g.nx g.tok)
  (h:∀s',aa B s' g'.st g'.nx g'.tok->bj (g.st.map (·.1)) s s'->an prog w A Q E g'.κ g'.t s') (hB:∀a o,K a=some o->B a=some o:=by exact λ_ _ h=>h):an prog w A Q E g.κ g.t s:=by
 rcases hy:go aA ⟨prog,w.params⟩ K F ops os g with _|y
 ·rw[hy]at seg;exact nomatch seg
 ·rw[hy]at seg
  simp only[nj,nk,Oj.injEq,Prod.mk.injEq]at seg
  obtain⟨e1,e2,e3,e3',e4⟩:=seg
  subst e3 e3'
  refine ix hB hK hD hU (NT _) hH ops os g y s hy ⟨ha,e1,e2,hp⟩ I λs' I' k=>?_
  subst e4
  exact h s' (I'.pick ks) k.ofU
theorem rx {c:Code}{st:aK}{nx tok:Nat}(hK:∀h:Heap,(∀a o,K a=some o->h.get? a=some o)->h.NoLimit)(hD:A.depth+120<recursionLimit)(hU:A.units+300<=9000)(hH:A.handled=none)
  (seg:mc ks (go aA ⟨prog,w.params⟩ K F ops os g)=md pu c st nx tok al (go aA ⟨prog,w.params⟩ K F ops os g)) (hp:∀x∈pu,ak prog w K 9000 x) (ha:∀x∈al,a9 prog w K x) (I:aa B s g.st g.nx g.tok)
  (h:∀s',aa B s' st nx tok->bj (g.st.map (·.1)) s s' ->
   codeAny (Mo prog w) (ar A (bH (go aA ⟨prog,w.params⟩ K F ops os g))) c (λr s''=>an prog w A Q E (bH (go aA ⟨prog,w.params⟩ K F ops os g)) (dH (fR (go aA ⟨prog,w.params⟩ K F ops os g)) r) s'') s') (hB:∀a o,K a=some o->B a=some o:=by exact λ_ _ h=>h) :
  an prog w A Q E g.κ g.t s:=by
 rcases hy:go aA ⟨prog,w.params⟩ K F ops os g with _|y
 ·rw[hy]at seg;exact nomatch seg
 ·rw[hy]at seg h
  simp only[mc,md,Oj.injEq,Prod.mk.injEq]at seg
  obtain⟨e1,e2,e3,e3',e4,e5,e6,e7⟩:=seg
  subst e3 e3'
  refine ix hB hK hD hU (NT _) hH ops os g y s hy ⟨ha,e1,e2,hp⟩ I λs' I' k=>?_
  have h':=h s' (by rw[<-e5,<-e6,<-e7];exact I'.pick ks) k.ofU
  dsimp only[bH,fR]at h'
  generalize y.g.t=t at e4 h' ⊢
  revert h'
  apply po e4;intro gd l k0 h'
  exact nh h'
theorem pp {rn:Option bo}(hr:rn=go aA ⟨prog,w.params⟩ K F ops os g){c:Code}{st:aK}{nx tok:Nat}(hK:∀h:Heap,(∀a o,K a=some o->h.get? a=some o)->h.NoLimit)(hD:A.depth+120<recursionLimit)(hU:A.units+300<=9000)(hH:A.handled=none)
  (seg:mc ks rn=md pu c st nx tok al rn) (hp:∀x∈pu,ak prog w K 9000 x) (ha:∀x∈al,a9 prog w K x) (I:aa B s g.st g.nx g.tok)
  (h:∀s',aa B s' st nx tok->bj (g.st.map (·.1)) s s'->codeAny (Mo prog w) (ar A (bH rn)) c (λr s''=>an prog w A Q E (bH rn) (dH (fR rn) r) s'') s') (hB:∀a o,K a=some o->B a=some o:=by exact λ_ _ h=>h) :
  an prog w A Q E g.κ g.t s:=by
 subst hr;exact rx hK hD hU hH seg hp ha I h hB
theorem iA {t t':Sem Fin}{κ κ':bY}{st st':aK}{nx nx' tok tok':Nat}(hK:∀h:Heap,(∀a o,K a=some o->h.get? a=some o)->h.NoLimit)(hD:A.depth+120<recursionLimit)(hU:A.units+300<=9000)(hH:A.handled=none)
  (seg:nj ks (go aA ⟨prog,w.params⟩ K F ops os ⟨t,κ,st,nx,tok⟩)=nk pu ⟨t',κ',st',nx',tok'⟩ al (go aA ⟨prog,w.params⟩ K F ops os ⟨t,κ,st,nx,tok⟩)) (hp:∀x∈pu,ak prog w K 9000 x) (ha:∀x∈al,a9 prog w K x) (I:aa B s st nx tok)
  (h:∀s',aa B s' st' nx' tok'->bj (st.map (·.1)) s s'->an prog w A Q E κ' t' s') (hB:∀a o,K a=some o->B a=some o:=by exact λ_ _ h=>h):an prog w A Q E κ t s:=run hK hD hU hH seg hp ha I h hB
noncomputable def kr:Result->Sem Fin
 | .ok f=>.pure (.done f)
 | .error e=>.raise e
def Qr (R:Result->aP):Fin->aP
 | .done f,s=>R (.ok f) s
 | .again _,_=>False
def Er (R:Result->aP):Value->aP:=λe s=>R (.error e) s
theorem dz {c:Code}{R:Result->aP}(h:an prog w A (Qr R) (Er R) [(c,kr)] (aA c) s):codeAny (Mo prog w) A c R s:=by
 have:=rk (κ:=[]) (k:=kr) (c:=c) (A:=A) (s:=s) (Q:=Qr R) (E:=Er R) (prog:=prog) (w:=w) (by rw[eG];exact h)
 intro Γ p hc hΓ
 have hin:(Γ.goto (.block [] default)).In A:=by
  refine⟨hΓ.1,?_,λl hl=>?_,λg hg=>?_,?_⟩
  ·show frameCount Γ.below+0<=A.depth
   exact hΓ.2.1
  ·show []++envsOf Γ.below=l
   exact hΓ.2.2.1 l hl
  ·show []++guardsOf Γ.below=g
   exact hΓ.2.2.2.1 g hg
  ·show 0+unitsOf Γ.below<=A.units
   rw[OF];exact hΓ.2.2.2.2
 refine wpCode_mono (λr s' hr=>?_) (this Γ p hc hΓ)
 cases r with
 | ok f=>exact hr _ default hin
 | error e=>exact hr _ default hin
end
abbrev aY (o:Option bo):Prop:=ci (bH o) 7=true/\cr (bH o) 7=true
def GP (o:Option bo):Bool:=ci (bH o) 7&&cr (bH o) 7
theorem af {o:Option bo}(h:GP o=true):aY o:=(Bool.and_eq_true_iff (x:=ci (bH o) 7)).mp h
abbrev gC (r:Option bo)(x:Result)(st:List (Addr×Obj))(nx tok:Nat):G:=⟨dH (fR r) x,bH r,st,nx,tok⟩
abbrev LH (ks:List Nat)(x:Option bo)(pu:List Pu)(g':G)(al:List Al:=[]):Prop:=nj ks x=nk pu g' al x
abbrev jW (ks:List Nat)(x:Option bo)(pu:List Pu)(c:Code)(st:aK)(nx tok:Nat)(al:List Al:=[]):Prop:=mc ks x=md pu c st nx tok al x
structure ad (d:Nat)(A:Around):Prop where
 dep:A.depth<=301+30*d
 uni:A.units<=100*(d+1)
 handled:A.handled=none
 lev:d<=15
theorem ad.depth {d:Nat}{A:Around}(h:ad d A):A.depth+120<recursionLimit:=by
 have:=h.dep;have:=h.lev
 show A.depth+120<1000;lia
theorem ad.units {d:Nat}{A:Around}(h:ad d A):A.units+300<=9000:=by
 have:=h.uni;have:=h.lev;lia
theorem ad.up {d:Nat}{A:Around}{κ:bY}(h:ad d A)(hd:d<=14)(hl:ci κ 7=true)(hs:cr κ 7=true):ad (d+1) (ar A κ):=by
 have h1:=km A κ 7 hl
 have h2:=iw A κ
 have h3:=gv κ 7 hs
 have:=h.dep;have:=h.uni
 exact⟨by lia,by lia,(g7 A κ).trans h.handled,by lia⟩
theorem ad.in1 {d:Nat}{A:Around}(h:ad d A)(hd:d<=14):ad (d+1) A.in1:=by
 have:=h.dep;have:=h.uni
 exact⟨by show A.depth<=_;lia,by show A.units+1<=_;lia,h.handled,by lia⟩
theorem ad.uq {d:Nat}{A:Around}{o:Option bo}(h:ad d A)(l:aY o)(hd:d<=14:=by lia):ad (d+1) (ar A (bH o)):=h.up hd l.1 l.2
theorem aa.carry {K:Nat->Option Obj}{s s':Shared}{st st':aK}{nx tok nx' tok':Nat}{ads:List Addr}(I:aa K s st nx tok)(k:bj ads s s')(I':aa K s' st' nx' tok')(hd:∀p∈st,p.1∉ads):aa K s' st nx' tok':=
 ⟨λp hp=>k.old _ _ (I.has p hp) (hd p hp),I.nodup,I'.base,I.off,I'.nx,I'.tok⟩
theorem aa.perm {K:Nat->Option Obj}{s:Shared}{st st':aK}{nx tok:Nat}(I:aa K s st nx tok)(h:st.Perm st'):aa K s st' nx tok:=
 ⟨λp hp=>I.has p (h.mem_iff.mpr hp),(h.map _).nodup_iff.mp I.nodup,I.base,λa o ha hm=>I.off a o ha ((h.map _).mem_iff.mpr hm),I.nx,I.tok⟩
theorem aa.sub {K:Nat->Option Obj}{s:Shared}{st st':aK}{nx tok:Nat}(I:aa K s st nx tok)(h:st'.Sublist st):aa K s st' nx tok:=
 ⟨λp hp=>I.has p (h.subset hp),(h.map _).nodup I.nodup,I.base,λa o ha hm=>I.off a o ha ((h.map _).subset hm),I.nx,I.tok⟩
theorem aa.lt {K:Nat->Option Obj}{s:Shared}{st:aK}{nx tok:Nat}(I:aa K s st nx tok){p:Addr×Obj}(hp:p∈st):p.1<nx:=I.nx▸Heap.lt_size (I.has p hp)
theorem aa.join {K:Nat->Option Obj}{s s':Shared}{B C:aK}{nx tok nx' tok':Nat}{ads:List Addr}(I:aa K s B nx tok)(I':aa K s' C nx' tok')(k:bj ads s s')(hB:∀x∈B.map (·.1),x∉ads)(hC:∀x∈C.map (·.1),x∈ads\/nx<=x) :
  aa K s' (B++C) nx' tok':=by
 refine⟨λp hp=>?_,?_,I'.base,λa o ha hm=>?_,I'.nx,I'.tok⟩
 ·rcases NK.mp hp with h|h
  ·exact k.old _ _ (I.has p h) (hB _ (NL.mpr ⟨p,h,rfl⟩))
  ·exact I'.has p h
 ·rw[NO,Oh]
  refine⟨I.nodup,I'.nodup,λa ha c hc h=>?_⟩
  subst h
  rcases hC a hc with q|q
  ·exact hB a ha q
  ·obtain⟨p,hp,rfl⟩:=NL.mp ha
   exact absurd q (QE.mpr (I.lt hp))
 ·rw[NO,NK]at hm
  rcases hm with h|h
  ·exact I.off a o ha h
  ·exact I'.off a o ha h
noncomputable def sel (l:aK):List Nat->aK
 | []=>[]
 | i::r=>match l[i]? with
  | some x=>x::sel l r
  | none=>sel l r
theorem iB {l:aK}{is:List Nat}{x:Addr×Obj}(h:x∈sel l is):∃i,i∈is/\l[i]?=some x:=by
 induction is with
 | nil=>exact nomatch h
 | cons i r ih =>
  rw[sel]at h
  cases e:l[i]? with
  | none=>rw[e]at h;obtain⟨j,hj,q⟩:=ih h;exact⟨j,.tail _ hj,q⟩
  | some y =>
   rw[e]at h
   rcases N0.mp h with h|h
   ·exact⟨i,.head _,by rw[h];exact e⟩
   ·obtain⟨j,hj,q⟩:=ih h;exact⟨j,.tail _ hj,q⟩
theorem pq {l:aK}(h:(l.map (·.1)).Nodup){i j:Nat}{x y:Addr×Obj}(hi:l[i]?=some x)(hj:l[j]?=some y)(e:x.1=y.1):i=j:=by
 have hp:=Qt.mp h
 obtain⟨li,ei⟩:=NW.mp hi
 obtain⟨lj,ej⟩:=NW.mp hj
 rcases Nat.lt_trichotomy i j with q|q|q
 ·exact absurd (by rw[Qa,Qa,ei,ej];exact e) (hp i j (by simpa using li) (by simpa using lj) q)
 ·exact q
 ·exact absurd (by rw[Qa,Qa,ei,ej];exact e.symm) (hp j i (by simpa using lj) (by simpa using li) q)
theorem my {l:aK}(h:(l.map (·.1)).Nodup){is:List Nat}(hn:is.Nodup):((sel l is).map (·.1)).Nodup:=by
 induction is with
 | nil=>exact Q3
 | cons i r ih =>
  have ⟨h1,h2⟩:=Ob.mp hn
  rw[sel]
  cases e:l[i]? with
  | none=>exact ih h2
  | some y =>
   refine Ob.mpr ⟨λq=>?_,ih h2⟩
   obtain⟨p,hp,q⟩:=NL.mp q
   obtain⟨j,hj,e'⟩:=iB hp
   exact h1 (pq h e e' q.symm▸hj)
theorem aa.sel {K:Nat->Option Obj}{s:Shared}{st:aK}{nx tok:Nat}(I:aa K s st nx tok)(is:List Nat)(h:is.Nodup):aa K s (Mine.sel st is) nx tok:=
 ⟨λp hp=>by obtain⟨i,_,e⟩:=iB hp;exact I.has p (NS e),my I.nodup h,I.base,λa o ha hm=>by
  obtain⟨p,hp,e⟩:=NL.mp hm
  obtain⟨i,_,e'⟩:=iB hp
  exact I.off a o ha (NL.mpr ⟨p,NS e',e⟩),I.nx,I.tok⟩
theorem ry (l:aK)(a b:List Nat):sel l (a++b)=sel l a++sel l b:=by
 induction a with
 | nil=>rfl
 | cons i r ih =>
  rw[Oi,sel,sel]
  cases l[i]? with
  | none=>exact ih
  | some x=>exact congrArg (x::·) ih
theorem aa.step {K:Nat->Option Obj}{s s':Shared}{all M':aK}{nx tok nx' tok':Nat}(rest ms:List Nat)(hd:(rest++ms).Nodup)(I:aa K s all nx tok)(I':aa K s' M' nx' tok')(k:bj ((Mine.sel all ms).map (·.1)) s s')
  (hC:∀x∈M'.map (·.1),x∈(Mine.sel all ms).map (·.1)\/nx<=x):aa K s' (Mine.sel all rest++M') nx' tok':=by
 have J:=I.sel (rest++ms) hd
 rw[ry]at J
 have nd:=J.nodup
 rw[NO,Oh]at nd
 exact aa.join (J.sub (List.sublist_append_left _ _)) I' k (λx hx q=>nd.2.2 x hx x q rfl) hC
section
variable{prog:Program}{w:World}{A:Around}{Q:Fin->aP}{E:Value->aP}{K B:Nat->Option Obj}{F:Nat}{ops:List Op}{os:List ir}{g:G}{s:Shared}{pu:List Pu}{al:List Al}{ks:List Nat}
end
structure Bx (K:Nat->Option Obj) where
 f:Nat->Option Obj
 ext:∀a o,K a=some o->f a=some o
theorem pt:∀{l:aK} {a:Addr} {o:Obj},l.lookup a=some o->(a,o)∈l
 | [],_,_,h=>by simp at h
 | (x,y)::r,a,o,h=>by
  unfold List.lookup at h
  cases e:a==x with
  | true=>rw[e]at h;simp only[Oj.injEq]at h;rw[eq_of_beq e,h];exact .head _
  | false=>rw[e]at h;exact .tail _ (pt h)
theorem B0 {l:aK}{a:Addr}{o:Obj}(hn:(l.map (·.1)).Nodup)(h:(a,o)∈l):l.lookup a=some o:=by
 induction l with
 | nil=>exact nomatch h
 | cons p r ih =>
  have h12:=Ob.mp hn
  rcases N0.mp h with q|q
  ·subst q
   rw[List.lookup_cons_self]
  ·obtain⟨x,y⟩:=p
   have ne:(a==x)=false:=by
    cases e:a==x with
    | false=>rfl
    | true=>exact absurd (NL.mpr ⟨(a,o),q,eq_of_beq e⟩) h12.1
   rw[List.lookup_cons,ne]
   exact ih h12.2 q
section
variable{K:Nat->Option Obj}{B:Bx K}
noncomputable def Bx.more (B:Bx K)(R:aK):Bx K:=⟨λa=>match B.f a with|some o=>some o|none=>R.lookup a,λa o h=>by rw[B.ext a o h]⟩
theorem Bx.more_of {R:aK}{a:Addr}{o:Obj}(h:(B.more R).f a=some o):B.f a=some o\/(B.f a=none/\(a,o)∈R):=by
 have h':(match B.f a with|some o=>some o|none=>R.lookup a)=some o:=h
 cases e:B.f a with
 | some x=>rw[e]at h';exact .inl h'
 | none=>rw[e]at h';exact .inr ⟨rfl,pt h'⟩
theorem Bx.more_b {R:aK}{a:Addr}{o:Obj}(h:B.f a=some o):(B.more R).f a=some o:=by
 show(match B.f a with|some o=>some o|none=>R.lookup a)=some o
 rw[h]
theorem aa.fr {s:Shared}{M R:aK}{nx tok:Nat}(I:aa B.f s (M++R) nx tok):aa (B.more R).f s M nx tok:=by
 have nd:=I.nodup
 rw[NO,Oh]at nd
 refine⟨λp hp=>I.has p (NK.mpr (.inl hp)),nd.1,λa o h=>?_,λa o h hm=>?_,I.nx,I.tok⟩
 ·rcases Bx.more_of h with q|⟨_,q⟩
  ·exact I.base a o q
  ·exact I.has (a,o) (NK.mpr (.inr q))
 ·rcases Bx.more_of h with q|⟨_,q⟩
  ·exact I.off a o q (by rw[NO];exact NK.mpr (.inl hm))
  ·exact nd.2.2 a hm a (NL.mpr ⟨_,q,rfl⟩) rfl
theorem aa.un {s s':Shared}{M R M':aK}{nx tok nx' tok':Nat}(I:aa B.f s (M++R) nx tok)(J:aa (B.more R).f s' M' nx' tok'):aa B.f s' (M'++R) nx' tok':=by
 have nd:=I.nodup
 rw[NO,Oh]at nd
 have hR:∀p∈R,(B.more R).f p.1=some p.2:=λp hp=>by
  show(match B.f p.1 with|some o=>some o|none=>R.lookup p.1)=some p.2
  cases e:B.f p.1 with
  | some x=>exact absurd (by rw[NO];exact NK.mpr (.inr (NL.mpr ⟨p,hp,rfl⟩))) (I.off p.1 x e)
  | none=>exact B0 nd.2.1 hp
 refine⟨λp hp=>?_,?_,λa o h=>J.base a o (Bx.more_b h),λa o h hm=>?_,J.nx,J.tok⟩
 ·rcases NK.mp hp with q|q
  ·exact J.has p q
  ·exact J.base _ _ (hR p q)
 ·rw[NO,Oh]
  refine⟨J.nodup,nd.2.1,λa ha c hc e=>?_⟩
  subst e
  obtain⟨p,hp,rfl⟩:=NL.mp hc
  exact J.off _ _ (hR p hp) ha
 ·rw[NO]at hm
  rcases NK.mp hm with q|q
  ·exact J.off a o (Bx.more_b h) q
  ·exact I.off a o h (by rw[NO];exact NK.mpr (.inr q))
end
structure bZ (s s':Shared):Prop where
 gens:s'.gens=s.gens
 drawn:s'.drawn=s.drawn
 os:s'.os=s.os
theorem bZ.rfl' {s:Shared}:bZ s s:=⟨rfl,rfl,rfl⟩
theorem bZ.trans {s s' s'':Shared}(a:bZ s s')(b:bZ s' s''):bZ s s'':=⟨b.gens.trans a.gens,b.drawn.trans a.drawn,b.os.trans a.os⟩
theorem bj.sm {ads:List Addr}{s s':Shared}(k:bj ads s s'):bZ s s':=⟨k.gens,k.drawn,k.os⟩
noncomputable def br {α:Type}(i:Nat)(l:List α):List α:=match l.drop i with
 | x::r=>x::(l.take i++r)
 | []=>l
theorem B1 {α:Type}(i:Nat)(l:List α):l.Perm (br i l):=by
 unfold br
 cases h:l.drop i with
 | nil=>exact .refl _
 | cons x r =>
  have e:l=l.take i++x::r:=by rw[<-h,Ot]
  exact(OG e).trans OQ
def bra {α:Type}:List Nat->List α->List α
 | [],l=>l
 | i::r,l=>br (i+(r.filter λj=>Nat.blt i j).length) (bra r l)
theorem pv {α:Type}:∀(is:List Nat) (l:List α),l.Perm (bra is l)
 | [],_=>.refl _
 | i::r,l=>(pv r l).trans (B1 _ _)
theorem aa.bra {K:Nat->Option Obj}{s:Shared}{l:aK}{nx tok:Nat}(I:aa K s l nx tok)(is:List Nat):aa K s (Mine.bra is l) nx tok:=I.perm (pv is l)
section
variable{prog:Program}{w:World}{A:Around}{Q:Fin->aP}{E:Value->aP}{K:Nat->Option Obj}{B:Bx K}{F:Nat}{ops:List Op}{os:List ir}{s:Shared}{pu:List Pu}{al:List Al}{ks:List Nat}
theorem GQ {t t':Sem Fin}{κ κ':bY}{st st' R:aK}{nx nx' tok tok':Nat}(hK:∀h:Heap,(∀a o,K a=some o->h.get? a=some o)->h.NoLimit)(hD:A.depth+120<recursionLimit)(hU:A.units+300<=9000)(hH:A.handled=none)
  (seg:nj ks (go aA ⟨prog,w.params⟩ K F ops os ⟨t,κ,st,nx,tok⟩)=nk pu ⟨t',κ',st',nx',tok'⟩ al (go aA ⟨prog,w.params⟩ K F ops os ⟨t,κ,st,nx,tok⟩)) (hp:∀x∈pu,ak prog w K 9000 x) (ha:∀x∈al,a9 prog w K x) (I:aa B.f s (st++R) nx tok)
  (h:∀s',aa B.f s' (st'++R) nx' tok'->bZ s s'->an prog w A Q E κ' t' s'):an prog w A Q E κ t s:=
 iA (B:=(B.more R).f) hK hD hU hH seg hp ha I.fr (λs' I' k'=>h s' (I.un I') k'.sm) (hB:=(B.more R).ext)
theorem JB {rn:Option bo}{t:Sem Fin}{κ:bY}{st₀ R:aK}{nx₀ tok₀:Nat}(hr:rn=go aA ⟨prog,w.params⟩ K F ops os ⟨t,κ,st₀,nx₀,tok₀⟩){c:Code}{st:aK}{nx tok:Nat}(hK:∀h:Heap,(∀a o,K a=some o->h.get? a=some o)->h.NoLimit)(hD:A.depth+120<recursionLimit)(hU:A.units+300<=9000)(hH:A.handled=none)
  (seg:mc ks rn=md pu c st nx tok al rn) (hp:∀x∈pu,ak prog w K 9000 x) (ha:∀x∈al,a9 prog w K x) (I:aa B.f s (st₀++R) nx₀ tok₀)
  (h:∀s',aa B.f s' (st++R) nx tok->bZ s s'->codeAny (Mo prog w) (ar A (bH rn)) c (λr s''=>an prog w A Q E (bH rn) (dH (fR rn) r) s'') s') :
  an prog w A Q E κ t s:=
 pp (g:=⟨t,κ,st₀,nx₀,tok₀⟩) (B:=(B.more R).f) hr hK hD hU hH seg hp ha I.fr (λs' I' k'=>h s' (I.un I') k'.sm) (hB:=(B.more R).ext)
end
noncomputable abbrev PW:=PySem.Challenge.pw_qu0046_02
noncomputable abbrev vS (s:String)(t:Nat):Value:=.str (Rf s) t
noncomputable abbrev eS (P:Params)(k:String)(t:Nat)(v:Value):DictEntry:=⟨PyData.keyHash P (Rf k),.str (Rf k) t,v⟩
def cA (i:Nat):Arguments×List Stmt×Scope:=match PW.main.body[i]? with
 | some (.FunctionDef _ a b _ _ _ sc _ _ _)=>(a,b,sc)
 | _=>default
def eH (i j:Nat):Arguments×List Stmt×Scope:=match PW.main.body[i]? with
 | some (.ClassDef _ _ _ b _ _ _ _ _ _ _)=>(match b[j]? with
  | some (.FunctionDef _ a b _ _ _ sc _ _ _)=>(a,b,sc)
  | _=>default)
 | _=>default
def iZ (l:List Int):aN:=(l.map (.int · 0)).toArray
def iL:Nat->List Int->List Value
 | _,[]=>[]
 | t,i::r=>.int i t::iL (t+1) r
def iT (t:Nat)(l:List Int):aN:=(iL t l).toArray
def MV:Nat->List String->List Value
 | _,[]=>[]
 | t,i::r=>vS i t::MV (t+1) r
def tO (t:Nat)(l:List String):Obj:=⟨.type "tuple",none,.seq (MV t l).toArray 0,#[]⟩
def cO (n q:String)(a:Nat)(l k:Int)(r:Nat)(x y:Value)(z t:Nat):Obj:=⟨.type "code",none,.fields #[vS n a,vS q (a+1),vS "/claim/cut.py" (a+2),.int l 0,.int k 0,.int 0 0,.int 0 0,.int 3 0,.ref r,.bool true,.int 276 0,.ref (r+1),.none,x,y,.ref z,.int t 0,.int l 0,vS "/claim/cut.py" (t+1)],#[]⟩
def fO (n q:String)(s:Arguments×List Stmt×Scope):Obj:=⟨.none,none,.func {name:=Rf n,qualname:=Rf q,params:=s.1,body:=.stmts s.2.1,scope:=s.2.2,globals:=0,closure:=[],defaults:=.none,kwdefaults:=.none,doc:=.none,pyModule:=.none,annotations:=none,code:=.none,closureTuple:=.none,builtins:=0},#[]⟩
def sP (k:Int)(t:Nat):Int×Value:=(k,.int k t)
def gO (n q:String)(s:Arguments×List Stmt×Scope)(m:Value)(c:Nat):Obj:=⟨.type "function",none,.func {name:=Rf n,qualname:=Rf q,params:=s.1,body:=.stmts s.2.1,scope:=s.2.2,globals:=3,closure:=[],defaults:=.none,kwdefaults:=.none,doc:=.none,pyModule:=m,annotations:=none,code:=.ref c,closureTuple:=.none,builtins:=0},#[]⟩
def MW (P:Params):Obj:=⟨.type "dict",none,.dict #[eS P "__name__" 1 (vS "builtins" 160),eS P "__doc__" 2 (.builtin "builtins.__doc__:str#opaque"),eS P "__package__" 3 (.builtin "builtins.__package__:str#opaque"),eS P "__loader__" 4 (.builtin "builtins.__loader__:shared#opaque"),eS P "__spec__" 5 (.builtin "builtins.__spec__#opaque"),eS P "__build_class__" 6 (.builtin "__build_class__"),eS P "__import__" 7 (.builtin "__import__"),eS P "abs" 8 (.builtin "abs"),eS P "all" 9 (.builtin "all"),eS P "any" 10 (.builtin "any"),eS P "ascii" 11 (.builtin "ascii"),eS P "bin" 12 (.builtin "bin"),eS P "breakpoint" 13 (.builtin "breakpoint"),eS P "callable" 14 (.builtin "callable"),eS P "chr" 15 (.builtin "chr"),eS P "compile" 16 (.builtin "compile"),eS P "delattr" 17 (.builtin "delattr"),eS P "dir" 18 (.builtin "dir"),eS P "divmod" 19 (.builtin "divmod"),eS P "eval" 20 (.builtin "eval"),eS P "exec" 21 (.builtin "exec"),eS P "format" 22 (.builtin "format"),eS P "getattr" 23 (.builtin "getattr"),eS P "globals" 24 (.builtin "globals"),eS P "hasattr" 25 (.builtin "hasattr"),eS P "hash" 26 (.builtin "hash"),eS P "hex" 27 (.builtin "hex"),eS P "id" 28 (.builtin "id"),eS P "input" 29 (.builtin "input"),eS P "isinstance" 30 (.builtin "isinstance"),eS P "issubclass" 31 (.builtin "issubclass"),eS P "iter" 32 (.builtin "iter"),eS P "aiter" 33 (.builtin "aiter"),eS P "len" 34 (.builtin "len"),eS P "locals" 35 (.builtin "locals"),eS P "max" 36 (.builtin "max"),eS P "min" 37 (.builtin "min"),eS P "next" 38 (.builtin "next"),eS P "anext" 39 (.builtin "anext"),eS P "oct" 40 (.builtin "oct"),eS P "ord" 41 (.builtin "ord"),eS P "pow" 42 (.builtin "pow"),eS P "print" 43 (.builtin "print"),eS P "repr" 44 (.builtin "repr"),eS P "round" 45 (.builtin "round"),eS P "setattr" 46 (.builtin "setattr"),eS P "sorted" 47 (.builtin "sorted"),eS P "sum" 48 (.builtin "sum"),eS P "vars" 49 (.builtin "vars"),eS P "None" 50 .none,eS P "Ellipsis" 51 .ellipsis,eS P "NotImplemented" 52 .notImplemented,eS P "False" 53 (.bool false),eS P "True" 54 (.bool true),eS P "bool" 55 (.type "bool"),eS P "memoryview" 56 (.type "memoryview"),eS P "bytearray" 57 (.type "bytearray"),eS P "bytes" 58 (.type "bytes"),eS P "classmethod" 59 (.type "classmethod"),eS P "complex" 60 (.type "complex"),eS P "dict" 61 (.type "dict"),eS P "enumerate" 62 (.type "enumerate"),eS P "filter" 63 (.type "filter"),eS P "float" 64 (.type "float"),eS P "frozenset" 65 (.type "frozenset"),eS P "property" 66 (.type "property"),eS P "int" 67 (.type "int"),eS P "list" 68 (.type "list"),eS P "map" 69 (.type "map"),eS P "object" 70 (.type "object"),eS P "range" 71 (.type "range"),eS P "reversed" 72 (.type "reversed"),eS P "set" 73 (.type "set"),eS P "slice" 74 (.type "slice"),eS P "staticmethod" 75 (.type "staticmethod"),eS P "str" 76 (.type "str"),eS P "super" 77 (.type "super"),eS P "tuple" 78 (.type "tuple"),eS P "type" 79 (.type "type"),eS P "zip" 80 (.type "zip"),eS P "__debug__" 81 (.bool true),eS P "BaseException" 82 (.type "BaseException"),eS P "BaseExceptionGroup" 83 (.type "BaseExceptionGroup"),eS P "Exception" 84 (.type "Exception"),eS P "GeneratorExit" 85 (.type "GeneratorExit"),eS P "KeyboardInterrupt" 86 (.type "KeyboardInterrupt"),eS P "SystemExit" 87 (.type "SystemExit"),eS P "ArithmeticError" 88 (.type "ArithmeticError"),eS P "AssertionError" 89 (.type "AssertionError"),eS P "AttributeError" 90 (.type "AttributeError"),eS P "BufferError" 91 (.type "BufferError"),eS P "EOFError" 92 (.type "EOFError"),eS P "ImportError" 93 (.type "ImportError"),eS P "LookupError" 94 (.type "LookupError"),eS P "MemoryError" 95 (.type "MemoryError"),eS P "NameError" 96 (.type "NameError"),eS P "OSError" 97 (.type "OSError"),eS P "ReferenceError" 98 (.type "ReferenceError"),eS P "RuntimeError" 99 (.type "RuntimeError"),eS P "StopAsyncIteration" 100 (.type "StopAsyncIteration"),eS P "StopIteration" 101 (.type "StopIteration"),eS P "SyntaxError" 102 (.type "SyntaxError"),eS P "SystemError" 103 (.type "SystemError"),eS P "TypeError" 104 (.type "TypeError"),eS P "ValueError" 105 (.type "ValueError"),eS P "Warning" 106 (.type "Warning"),eS P "FloatingPointError" 107 (.type "FloatingPointError"),eS P "OverflowError" 108 (.type "OverflowError"),eS P "ZeroDivisionError" 109 (.type "ZeroDivisionError"),eS P "BytesWarning" 110 (.type "BytesWarning"),eS P "DeprecationWarning" 111 (.type "DeprecationWarning"),eS P "EncodingWarning" 112 (.type "EncodingWarning"),eS P "FutureWarning" 113 (.type "FutureWarning"),eS P "ImportWarning" 114 (.type "ImportWarning"),eS P "PendingDeprecationWarning" 115 (.type "PendingDeprecationWarning"),eS P "ResourceWarning" 116 (.type "ResourceWarning"),eS P "RuntimeWarning" 117 (.type "RuntimeWarning"),eS P "SyntaxWarning" 118 (.type "SyntaxWarning"),eS P "UnicodeWarning" 119 (.type "UnicodeWarning"),eS P "UserWarning" 120 (.type "UserWarning"),eS P "BlockingIOError" 121 (.type "BlockingIOError"),eS P "ChildProcessError" 122 (.type "ChildProcessError"),eS P "ConnectionError" 123 (.type "ConnectionError"),eS P "FileExistsError" 124 (.type "FileExistsError"),eS P "FileNotFoundError" 125 (.type "FileNotFoundError"),eS P "InterruptedError" 126 (.type "InterruptedError"),eS P "IsADirectoryError" 127 (.type "IsADirectoryError"),eS P "NotADirectoryError" 128 (.type "NotADirectoryError"),eS P "PermissionError" 129 (.type "PermissionError"),eS P "ProcessLookupError" 130 (.type "ProcessLookupError"),eS P "TimeoutError" 131 (.type "TimeoutError"),eS P "IndentationError" 132 (.type "IndentationError"),eS P "_IncompleteInputError" 133 (.type "_IncompleteInputError"),eS P "IndexError" 134 (.type "IndexError"),eS P "KeyError" 135 (.type "KeyError"),eS P "ModuleNotFoundError" 136 (.type "ModuleNotFoundError"),eS P "NotImplementedError" 137 (.type "NotImplementedError"),eS P "PythonFinalizationError" 138 (.type "PythonFinalizationError"),eS P "RecursionError" 139 (.type "RecursionError"),eS P "UnboundLocalError" 140 (.type "UnboundLocalError"),eS P "UnicodeError" 141 (.type "UnicodeError"),eS P "BrokenPipeError" 142 (.type "BrokenPipeError"),eS P "ConnectionAbortedError" 143 (.type "ConnectionAbortedError"),eS P "ConnectionRefusedError" 144 (.type "ConnectionRefusedError"),eS P "ConnectionResetError" 145 (.type "ConnectionResetError"),eS P "TabError" 146 (.type "TabError"),eS P "UnicodeDecodeError" 147 (.type "UnicodeDecodeError"),eS P "UnicodeEncodeError" 148 (.type "UnicodeEncodeError"),eS P "UnicodeTranslateError" 149 (.type "UnicodeTranslateError"),eS P "ExceptionGroup" 150 (.type "ExceptionGroup"),eS P "EnvironmentError" 151 (.type "OSError"),eS P "IOError" 152 (.type "OSError"),eS P "open" 153 (.builtin "open"),eS P "quit" 154 (.builtin "builtins.quit#opaque"),eS P "exit" 155 (.builtin "builtins.exit#opaque"),eS P "copyright" 156 (.builtin "builtins.copyright#opaque"),eS P "credits" 157 (.builtin "builtins.credits#opaque"),eS P "license" 158 (.builtin "builtins.license#opaque"),eS P "help" 159 (.builtin "builtins.help#opaque")] 159,#[]⟩
def Lj (P:Params):Obj:=⟨.none,none,.dict #[eS P "\x69mport.loaded._sre" 183 (.bool true),eS P "class._frozen_importlib.BuiltinImporter" 185 (.ref 14),eS P "watched.\x69mport" 206 (.ref 18),eS P "class._frozen_importlib.ModuleSpec" 216 (.ref 22),eS P "sys.modules.booked-epoch" 245 (.int 3 0),eS P "\x69mport.later-laid._sre" 270 (.bool true),eS P "watched.library" 272 (.ref 27),eS P "watched.library-objects" 0 (.str ⟨#[12]⟩ 0),eS P "watched.library-deep._sre" 273 (.str ⟨#[4,0,0,11,4,0,0,11,4,0,0,3,4,0,0,11,8,4,100,105,99,116,2]⟩ 0)] 9,#[]⟩
def GR (P:Params):Obj:=⟨.type "dict",none,.dict #[eS P "__name__" 165 (vS "law_qu0046_02" 2439),eS P "__doc__" 166 .none,eS P "__package__" 167 .none,eS P "__loader__" 168 (.builtin "__main__.__loader__#opaque"),eS P "__spec__" 169 .none,eS P "__annotations__" 170 (.ref 6),eS P "__builtins__" 171 (.ref 4),eS P "__file__" 173 (vS "/claim/cut.py" 172),eS P "__cached__" 174 .none,eS P "_sre" 275 (.ref 12),eS P "b1_set" 343 (.ref 39),eS P "in_table_b1" 350 (.ref 49),eS P "b3_exceptions" 2301 (.ref 50),eS P "map_table_b3" 2309 (.ref 95),eS P "_netrclex" 2369 (.ref 133),eS P "_twin_re_1" 2387 (.ref 142),eS P "_twin_re_2" 2429 (.ref 147),eS P "CRLF" 2431 (.str ⟨#[13,10]⟩ 2430),eS P "quotedata" 2438 (.ref 154),eS P "_law_lexer" 2451 (.ref 161),eS P "_law_prepared" 2460 (.ref 168),eS P "_law_spelled" 2466 (.ref 173),eS P "_law_texts_fewer" 2472 (.ref 178),eS P "_law_least_short" 2478 (.ref 183),eS P "law" 2484 (.ref 188)] 25,#[]⟩
noncomputable def MX (P:Params):Obj:={cls:=.type "module",dict:=(some 0),data:=.plain,slots:=#[]}
noncomputable def GS (P:Params):Obj:=⟨.type "set",none,.set #[sP 65024 300,sP 65025 301,sP 65026 302,sP 65027 303,sP 65028 304,sP 65029 305,sP 6150 286,sP 65030 306,sP 65031 307,sP 65032 308,sP 65033 309,sP 6155 287,sP 6156 288,sP 6157 289,sP 8203 290,sP 8204 291,sP 8205 292,sP 65034 310,sP 65035 311,sP 65036 312,sP 65037 313,sP 65038 314,sP 65039 315,sP 173 284,sP 847 285,sP 8288 293,sP 65279 294] 29 ⟨127,#[0,1,2,3,4,5,6,7,8,9,10,11,12,13,14,15,16,17,18,19,20,21,22,45,79,96,127],#[],0,!P.followText "set-order",2,true⟩,#[]⟩
def JC (P:Params):Obj:=cO "in_table_b1" "in_table_b1" 344 4 1 43 (.ref 45) (.ref 46) 47 348
def JD (P:Params):Obj:=gO "in_table_b1" "in_table_b1" (cA 3) (vS "cpy313.stringprep" 282) 48
def j2:List (Rg×Rg):=match(PW.main.body:List Stmt)[(4:Nat)]? with
 | some (.Assign _ (.Dict ks vs _) _)=>(ks.filterMap id).zip vs
 | _=>[]
noncomputable def ug (kt vt:Nat)(x:Rg×Rg):DictEntry:=match x with
 | (.Constant (.int i) _ _,.Constant (.str v) _ _)=>⟨i,.int i kt,.str v vt⟩
 | _=>default
def jh:Nat->Nat->List (Rg×Rg)->List DictEntry
 | _,_,[]=>[]
 | t,0,x::r=>ug t (t+1) x::jh (t+2) 0 r
 | t,n+1,x::r=>ug t (t+1) x::jh (t+3) n r
def GT (P:Params):Obj:=⟨.type "dict",none,.dict (jh 351 646 j2).toArray 650,#[]⟩
def JE (P:Params):Obj:=cO "map_table_b3" "map_table_b3" 2302 7 1 89 (.ref 91) (.ref 92) 93 2307
def JF (P:Params):Obj:=gO "map_table_b3" "map_table_b3" (cA 5) (vS "cpy313.stringprep" 282) 94
def FF (P:Params):Obj:=cO "__init__" "_netrclex.__init__" 2324 15 2 103 (.ref 105) (.ref 106) 107 2329
def FG (P:Params):Obj:=gO "__init__" "_netrclex.__init__" (eH 7 0) (vS "cpy313.netrc" 2310) 108
def FH (P:Params):Obj:=cO "_read_char" "_netrclex._read_char" 2332 21 1 110 (.ref 112) (.ref 113) 114 2337
def FJ (P:Params):Obj:=gO "_read_char" "_netrclex._read_char" (eH 7 1) (vS "cpy313.netrc" 2310) 115
def FK (P:Params):Obj:=cO "get_token" "_netrclex.get_token" 2340 27 1 117 (.ref 119) (.ref 120) 121 2347
def FL (P:Params):Obj:=gO "get_token" "_netrclex.get_token" (eH 7 2) (vS "cpy313.netrc" 2310) 122
def FM (P:Params):Obj:=cO "push_token" "_netrclex.push_token" 2350 54 2 124 (.ref 126) (.ref 127) 128 2355
def FO (P:Params):Obj:=gO "push_token" "_netrclex.push_token" (eH 7 3) (vS "cpy313.netrc" 2310) 129
def FP (P:Params):Obj:=⟨.type "dict",none,.dict #[eS P "__module__" 2319 (vS "cpy313.netrc" 2310),eS P "__firstlineno__" 2323 (.int 13 2322),eS P "__init__" 2331 (.ref 109),eS P "_read_char" 2339 (.ref 116),eS P "get_token" 2349 (.ref 123),eS P "push_token" 2357 (.ref 130),eS P "__static_attributes__" 2362 (.ref 131),eS P "__dict__" 2364 (.ref 134),eS P "__weakref__" 2366 (.ref 135),eS P "__doc__" 2367 .none] 4,#[]⟩
def FQ (P:Params):Obj:={cls:=.type "type",dict:=none,data:=(.cls {name:=Rf "_netrclex",bases:=[.type "object"],mro:=[.ref 133,.type "object"],ns:=132,qualname:=Rf "_netrclex",hasDict:=true,slotNames:=[],subclasses:=[],abstract:=false,collection:=none,hasDel:=false}),slots:=#[none,none,some (vS "_netrclex" 2312),some (vS "_netrclex" 2320),some (.builtin "object.__new__"),some (.bool true)]}
def xQ (P:Params):Obj:=⟨.type "re.Pattern",none,.fields #[vS "(?m)^\\." 2373,.int 40 2386,.int 0 0,.none,.none,.ref 141,.int 0 0],#[]⟩
def xR (P:Params):Obj:=⟨.type "re.Pattern",none,.fields #[vS "(?:\\r\\n|\\n|\\r(?!\\n))" 2389,.int 32 2428,.int 0 0,.none,.none,.ref 146,.int 0 0],#[]⟩
def FR (P:Params):Obj:=cO "quotedata" "quotedata" 2432 60 1 148 (.ref 150) (.ref 151) 152 2436
def FS (P:Params):Obj:=gO "quotedata" "quotedata" (cA 12) (vS "cpy313.smtplib" 2370) 153
def pw (P:Params):Obj:=cO "_law_lexer" "_law_lexer" 2441 63 1 155 (.ref 157) (.ref 158) 159 2449
def FT (P:Params):Obj:=gO "_law_lexer" "_law_lexer" (cA 14) (vS "law_qu0046_02" 2439) 160
def FU (P:Params):Obj:=cO "_law_prepared" "_law_prepared" 2452 73 1 162 (.ref 164) (.ref 165) 166 2458
def FV (P:Params):Obj:=gO "_law_prepared" "_law_prepared" (cA 15) (vS "law_qu0046_02" 2439) 167
def FW (P:Params):Obj:=cO "_law_spelled" "_law_spelled" 2461 79 2 169 .none .none 171 2464
def FX (P:Params):Obj:=gO "_law_spelled" "_law_spelled" (cA 16) (vS "law_qu0046_02" 2439) 172
def FY (P:Params):Obj:=cO "_law_texts_fewer" "_law_texts_fewer" 2467 89 2 174 .none .none 176 2470
def FZ (P:Params):Obj:=gO "_law_texts_fewer" "_law_texts_fewer" (cA 17) (vS "law_qu0046_02" 2439) 177
def F3 (P:Params):Obj:=cO "_law_least_short" "_law_least_short" 2473 97 1 179 .none .none 181 2476
def F4 (P:Params):Obj:=gO "_law_least_short" "_law_least_short" (cA 18) (vS "law_qu0046_02" 2439) 182
def F5 (P:Params):Obj:=cO "law" "law" 2479 111 1 184 .none .none 186 2482
def F6 (P:Params):Obj:=gO "law" "law" (cA 19) (vS "law_qu0046_02" 2439) 187
noncomputable def xS (P:Params):Obj:=⟨.type "tuple",none,.seq (iZ [14,4,0,1,1,6,1,16,46,1]) 0,#[]⟩
noncomputable def xT (P:Params):Obj:=⟨.type "tuple",none,.seq (iZ [14,9,4,1,2,16,10,16,13,0,7,7,16,13,16,10,15,18,5,16,10,15,13,11,16,13,5,5,0,16,10,1,15,2,0,1]) 0,#[]⟩
noncomputable def gw:List Nat:=[0,2,3,4,39,48,49,50,94,95,108,109,115,116,122,123,129,130,132,133,142,147,153,154,160,161,167,168,172,173,177,178,182,183,187,188,141,146]
def KB (P:Params):List (Nat×Obj):=[(0,MW P),(2,Lj P),(3,GR P),(4,MX P),(39,GS P),(48,JC P),(49,JD P),(50,GT P),(94,JE P),(95,JF P),(108,FF P),(109,FG P),(115,FH P),(116,FJ P),(122,FK P),(123,FL P),(129,FM P),(130,FO P),(132,FP P),(133,FQ P),(142,xQ P),(147,xR P),(153,FR P),(154,FS P),(160,pw P),(161,FT P),(167,FU P),(168,FV P),(172,FW P),(173,FX P),(177,FY P),(178,FZ P),(182,F3 P),(183,F4 P),(187,F5 P),(188,F6 P),(141,xS P),(146,xT P)]
noncomputable def kn:Nat:=189
noncomputable def ko:Nat:=2485
noncomputable abbrev WB (b:Bool)(w:World):World:=w.withFollow "special-get-raises" b
def KL (P:Params)(a:Nat):Option Obj:=(KB P).lookup a
abbrev SB (b:Bool)(w:World):Setting:=⟨PW,(WB b w).params⟩
abbrev PB (b:Bool)(w:World):Params:=(WB b w).params
abbrev SO (b:Bool)(w:World)(ks:List Nat)(ops:List Op)(os:List ir)(g:G)(pu:List Pu)(g':G)(al:List Al):Prop:=nj ks (go aA (SB b w) (KL (PB b w)) 300 ops os g)=nk pu g' al (go aA (SB b w) (KL (PB b w)) 300 ops os g)
structure SD where
 ks:List Nat
 ops:List Op
 os:List ir
 g:G
 pu:List Pu
 h:G
 al:List Al
structure SC where
 ks:List Nat
 ops:List Op
 os:List ir
 g:G
 pu:List Pu
 c:Code
 st:List (Addr×Obj)
 nx:Nat
 tok:Nat
 al:List Al
def SD.l (b:Bool)(w:World)(D:SD):Option (List Addr×List pn×List Pu×List Al×G):=nj D.ks (go aA (SB b w) (KL (PB b w)) 300 D.ops D.os D.g)
def SD.r (b:Bool)(w:World)(D:SD):Option (List Addr×List pn×List Pu×List Al×G):=nk D.pu D.h D.al (go aA (SB b w) (KL (PB b w)) 300 D.ops D.os D.g)
abbrev SK (b:Bool)(w:World)(D:SD):Prop:=D.l b w=D.r b w
def dR (b:Bool)(w:World)(D:SC):Option bo:=go aA (SB b w) (KL (PB b w)) 300 D.ops D.os D.g
def SC.l (D:SC)(r:Option bo):Option (List Addr×List pn×List Pu×List Al×Option Code×List (Addr×Obj)×Nat×Nat):=mc D.ks r
def SC.r (D:SC)(r:Option bo):Option (List Addr×List pn×List Pu×List Al×Option Code×List (Addr×Obj)×Nat×Nat):=md D.pu D.c D.st D.nx D.tok D.al r
abbrev SQ (D:SC)(r:Option bo):Prop:=D.l r=D.r r
noncomputable abbrev eT (P:Params)(k:String)(t:Nat)(v:Value):DictEntry:=⟨PyData.keyHash P (Rf k),.str (Rf k) t,v⟩
noncomputable abbrev dA (vs:List Value)(e:Nat:=0):Obj:=⟨.type "list",none,.seq vs.toArray e,#[]⟩
noncomputable abbrev cy (es:List DictEntry)(n:Nat):Obj:=⟨.type "dict",none,.dict es.toArray n,#[]⟩
noncomputable abbrev jX (vs:List Value):Obj:=⟨.none,none,.fields vs.toArray,#[]⟩
def uh:List Stmt:=(cA 14).2.1
def np:Arguments×List Stmt×Scope:=match uh[(1:Nat)]? with
 | some (.FunctionDef _ a b _ _ _ sc _ _ _)=>(a,b,sc)
 | _=>default
def ku:Arguments×Rg×Scope:=match uh[(2:Nat)]? with
 | some (.Assign _ (.Lambda a b sc _) _)=>(a,b,sc)
 | _=>default
noncomputable abbrev jJ (n tk:Nat):Obj:=⟨.type "code",none,.fields #[.str (Rf "_law_read_on") (tk+1),.str (Rf "_law_lexer.<locals>._law_read_on") (tk+2),.str (Rf "/claim/cut.py") (tk+3),.int 66 0,.int 1 0,.int 0 0,.int 0 0,.int 19 0,.ref (n+5),.bool true,.int 276 0,.ref (n+6),.none,.ref (n+7),.ref (n+8),.ref (n+9),.int ((tk+8:Nat):Int) 0,.int 66 0,.str (Rf "/claim/cut.py") (tk+9)],#[]⟩
abbrev mz (c1 c2 cd ct:Nat):Obj:=⟨.type "function",none,.func ⟨Rf "_law_read_on",Rf "_law_lexer.<locals>._law_read_on",np.1,.stmts np.2.1,np.2.2,3,[(Rf "text",c1),(Rf "at",c2)],.none,.none,.none,.str (Rf "law_qu0046_02") 2439,none,.ref cd,.ref ct,0⟩,#[]⟩
abbrev gy (dst cd:Nat):Obj:=⟨.type "function",some dst,.func ⟨Rf "<lambda>",Rf "_law_lexer.<locals>.<lambda>",ku.1,.expr ku.2.1,ku.2.2,3,[],.none,.none,.none,.str (Rf "law_qu0046_02") 2439,none,.ref cd,.none,0⟩,#[]⟩
noncomputable abbrev jK (dx:Nat):Obj:=⟨.ref 133,some dx,.plain,#[]⟩
noncomputable abbrev iC:Str:=Rf "\n\t\r "
abbrev fW (P:Params)(k1 k2 k3 k4:Nat)(ln:Int)(t1 t3:Nat)(st pb:Nat):Obj:=cy [eT P "lineno" k1 (.int ln t1),eT P "instream" k2 (.ref st),eT P "whitespace" k3 (.str iC t3),eT P "pushback" k4 (.ref pb)] 4
noncomputable abbrev gz (text:Str)(u:Nat):Code:=.call (.ref 161) ⟨[.str text u],[]⟩
noncomputable abbrev LI (n tk u:Nat)(text:Str):G:=⟨aA (gz text u),[(gz text u,kr)],[(156,jX [])],n+200,tk⟩
noncomputable abbrev JG (P:Params)(n tk u:Nat)(text:Str):G:=⟨.pure (.done (.ret (.ref (n+200+21)))),[],
 [(156,jX [.int 66 0,.int 4 0,.ref (n+200+10),.int 70 0,.int 13 0,.ref (n+200+17)]),(n+200+1,bQ (.str text u)),(n+200+2,bQ (.ref (n+200+3))),(n+200+3,dA [.int 0 tk]),(n+200+10,jJ (n+200) tk),
  (n+200+11,mz (n+200+1) (n+200+2) (n+200+10) (n+200+4)),(n+200+18,gy (n+200+19) (n+200+17)),(n+200+19,cy [eT P "read" (tk+18) (.ref (n+200+11))] 1),
  (n+200+20,fW P (tk+23) (tk+25) (tk+28) (tk+30) 1 (tk+21) (tk+26) (n+200+18) (n+200+23)),(n+200+21,jK (n+200+20)),(n+200+23,dA [])],n+200+24,tk+31⟩
noncomputable def B2:List Op:=[.b,.b,.a,.a,.a,au,fV,.s,.a,bf,j0,.a,.b,ac,.a,.a,.a,.a,.a,.a,ac,bi,ac,.b,.b,.b,.a,az,jI,.b,ac,.a,.a,.a,.a,.a,.a,ac,bi,ac,.b,.b,.b,.a,az,jI,az,az,xO,.i,xO,xO,xO,xO,.a,LF,Jy,LG,Jy,.b,az,.b,.b,.i,.b,.b,.b,.b,.b,.b,.i,.b,.b,.b,.b,.b,.b,.b,.b,.b,.b,.b,.b,.b,.b,.b,.b,.b,.b,.b,.a,.a,.b,d7,.b,d7,.b,.b,.b,.b,.i,.b,.b,.a,ru,JA,ru,JA,.s,ru,d7,.b,.b,.b,.i,d7,.b,d7,.b,d7,.b,.b,.b,d7,.b,ph,BY,ph,ru,ru,d7,.b,.b,.b,.i,d7,.b,d7,.b,d7,.b,.b,.b,d7,.b,ph,BY,ph,ru,d7,.b,.b,.b,.i,d7,.b,d7,.b,d7,.b,.b,.b,d7,.b,ph,BY,ph,.a,ru,d7,.b,.b,.b,.i,d7,.b,d7,.b,d7,.b,.b,.b,d7,.b,ph,BY,ph]
theorem xU (b:Bool)(w:World)(n tk u:Nat)(text:Str):LH [0,1,0,0,6,0,6,0,0,0,1] (go aA (SB b w) (KL (PB b w)) 200 B2 [] (LI n tk u text))
 [] (JG (PB b w) n tk u text) []:=by apply bq1 b;kernel_rfl
end Mine

namespace Mine
open PySem PySem.Builtin
noncomputable abbrev one (v:Nat):Str:=⟨#[v+1]⟩
noncomputable abbrev aS (x:Str):ir:={v:=λt _=>.str x t,dt:=1}
noncomputable abbrev aI (i:Int):ir:={v:=λt _=>.int i t,dt:=1}
noncomputable abbrev aB (x:Bool):ir:={v:=λ_ _=>.bool x}
noncomputable abbrev aV (x:Value):ir:={v:=λ_ _=>x}
section
variable{prog:Program}{w:World}{K:Nat->Option Obj}{U:Nat}
theorem ag {id T:String}{name:Str}{B:Builtin}{self:Value}{rest:List Value}{o:ir}{st:aK}
  (slot:Slot T name id) (hT:∀s:Shared,(∀p∈st,s.heap.get? p.1=some p.2)->(∀a o,K a=some o->s.heap.get? a=some o)->s.TypeIs self T) (entry:entryFor table id=some B) (args:argsOk id ⟨self::rest,[]⟩)
  (g:∀(A:Around) (R:Result->aP) (s:Shared),(∀p∈st,s.heap.get? p.1=some p.2)->(∀a o,K a=some o->s.heap.get? a=some o)->R (.ok (.ret (o.v s.toks s.heap.objs.size))) {s with heap:=pushAll s.heap o.news,toks:=s.toks+o.dt} ->
   wpAny (model prog w) A.in1 (B ⟨self::rest,[]⟩) (λfin s'=>match fin with|.done f=>R (.ok f) s'|.again c'=>c'.quiet=true/\codeAny (model prog w) A c' R s') (λe s'=>R (.error e) s') s)
  (nf:∀x∈o.news,x.isFreed=false):ak prog w K U ⟨.call (.builtin id) ⟨self::rest,[]⟩,o,st⟩:=
 ⟨nf,λA s _ hs hb=>codeAny_call_builtin slot.plain entry (slot.check _ _ _ _ _ _ _ _ (hT s hs hb) args (g A (λr s'=>r=.ok (.ret (o.v s.toks s.heap.objs.size))/\s'={s with heap:=pushAll s.heap o.news,toks:=s.toks+o.dt}) s hs hb ⟨rfl,rfl⟩))⟩
theorem bA {x y:Str}{t u:Tok}{r:Bool}(h:(x.cps.toList==y.cps.toList)=r):ak prog w K U ⟨bc "str.__eq__" [.str x t,.str y u],aB r,[]⟩:=
 ag F.slot_str_eq (λs _ _=>typeIs_str s x t) F.entry_str_eq (F.args_str_eq_2 _ _) (λA R s _ _ hR=>gives_str_eq x y t u prog w A R s (by subst h;exact hR)) nM
theorem hJ {x y:Str}{t u:Tok}{r:Bool}(h:(!(PySem.Builtin.Str.occurrences x y 0 x.length 1).isEmpty)=r):ak prog w K U ⟨bc "str.__contains__" [.str x t,.str y u],aB r,[]⟩:=
 ag F.slot_str_contains (λs _ _=>typeIs_str s x t) F.entry_str_contains (F.args_str_contains_2 _ _) (λA R s _ _ hR=>gives_str_contains x y t u prog w A R s (by subst h;exact hR)) nM
theorem gU {x y:Str}{t u:Tok}(hx:x.length≠0)(hy:y.length≠0)(hl:(x++y).length<=sizeLine):ak prog w K U ⟨bc "str.__add__" [.str x t,.str y u],aS (x++y),[]⟩:=by
 refine ag F.slot_str_add (λs _ _=>typeIs_str s x t) F.entry_str_add (F.args_str_add_2 _ _) (λA R s _ _ hR=>gives_str_add x y t u prog w A R s ?_) nM
 rw[if_neg (by simpa using hx),if_neg (by simpa using hy)]
 exact⟨hl,hR⟩
theorem c7 {x y:Str}{t u:Tok}(hx:x.length=0):ak prog w K U ⟨bc "str.__add__" [.str x t,.str y u],aV (.str y u),[]⟩:=by
 refine ag F.slot_str_add (λs _ _=>typeIs_str s x t) F.entry_str_add (F.args_str_add_2 _ _) (λA R s _ _ hR=>gives_str_add x y t u prog w A R s ?_) nM
 rw[if_pos (by simpa using hx)]
 exact hR
theorem fM {x y:Str}{t a:Nat}{i j:Int}{ti tj:Nat}(h:((slicePicked x (some (i,ti)) (some (j,tj)) none).filterMap (x.cps[·]?)).toArray=y.cps)(hn:(slicePicked x (some (i,ti)) (some (j,tj)) none).length≠x.length)(hl:y.length<=sizeLine) :
  ak prog w K U ⟨bc "str.__getitem__" [.str x t,.ref a],aS y,[(a,bq (.int i ti) (.int j tj) .none)]⟩:=by
 refine ag F.slot_str_getitem (λs _ _=>typeIs_str s x t) F.entry_str_getitem (F.args_str_getitem_2 _ _) (λA R s hs _ hR=>?_) nM
 refine meets_str_getitem_slice x t a (some (i,ti)) (some (j,tj)) none rfl prog w A R s ⟨⟨_,hs _ (.head _),rfl,rfl⟩,?_⟩
 unfold sliceMade
 rw[if_neg (by simpa using hn),h]
 exact⟨hl,hR⟩
end
noncomputable def GU (t:Sem Value):Sem Fin:=t.bind λv=>.pure (.done (.ret v))
section
variable{prog:Program}{w:World}{A:Around}{Q:Value->aP}{E:Value->aP}{s:Shared}
theorem B3 {t:Sem Value}(h:an prog w A (λfin s'=>match fin with|.done (.ret v)=>Q v s'|_=>False) E [] (GU t) s):wpAny (Mo prog w) A t Q E s:=by
 intro Γ p hΓ
 have:=h Γ p hΓ
 unfold GU at this
 have e:=Sem.wp_bind' (Mo prog w) Γ t (λv=>(.pure (.done (.ret v)):Sem Fin)) (λa _ s'=>(match a with|.done (.ret v)=>Q v s'|_=>False)) (λe _ s'=>E e s') p s
 exact e.mp this
end
noncomputable def nq (self:Value):Sem Unit:=do
 slotLetsGo "callable_iterator.__next__" (<-field self 0) fun|.builtin "callable_iterator.__next__" x=>x.pos.head?==some self|_=>false
 setField self 0 .none;setField self 1 .none;setField self 2 (.bool true)
def ui (self:Value):Sem Fin:=do
 rule "callable_iterator.__next__.sentinel";nq self;PySem.Builtin.SmallTypes.stopIteration
end Mine

namespace Mine
open PySem
structure Lx where
 (c1 c2 at_ cd rd st dst dx x pb ct cd2:Nat)
 (tx kr1 k1 k2 k3 k4 t3 nn tt:Nat)
 text:Str
 pe:Nat:=0
noncomputable abbrev bg (P:Params)(L:Lx)(i:Int)(ti:Nat)(lin:Int)(tl:Nat):aK:=
 [(L.c1+200,bQ (.str L.text L.tx)),(L.c2+200,bQ (.ref (L.at_+200))),(L.at_+200,dA [.int i ti]),(L.cd+200,jJ L.nn L.tt),(L.rd+200,mz (L.c1+200) (L.c2+200) (L.cd+200) L.ct),
  (L.st+200,gy (L.dst+200) L.cd2),(L.dst+200,cy [eT P "read" L.kr1 (.ref (L.rd+200))] 1),
  (L.dx+200,fW P L.k1 L.k2 L.k3 L.k4 lin tl L.t3 (L.st+200) (L.pb+200)),(L.x+200,jK (L.dx+200)),(L.pb+200,dA [] L.pe)]
noncomputable abbrev bO (es:List DictEntry)(n:Nat):Obj:=⟨.type "frame",none,.dict es.toArray n,#[]⟩
noncomputable abbrev px (f self:Nat):Obj:=⟨.type "method",none,.fields #[.ref f,.ref self],#[]⟩
noncomputable abbrev hO (m t:Nat):Obj:=⟨.type "callable_iterator",none,.fields #[.ref m,.str (Rf "") t,.bool false],#[]⟩
def GV:List Stmt:=(eH 7 2).2.1
noncomputable def xV:Option Stmt->Rg×Rg×List Stmt×List Stmt
 | some (.For t i b o _)=>(t,i,b,o)
 | _=>default
noncomputable def LJ:Option Stmt->Rg×List Stmt×List Stmt
 | some (.If t b o _)=>(t,b,o)
 | _=>default
def hV:=xV GV[(3:Nat)]?
def rz:=xV (LJ (hV.2.2.1)[(1:Nat)]?).2.2[(2:Nat)]?
abbrev py (F:Nat):Env:={scope:=(eH 7 2).2.2,locals:=F+200,globals:=3,cells:=[],qual:=Rf "_netrclex.get_token.<locals>.",func:=some 123,code:=.ref 122,frame:=some (F+200),builtins:=0}
abbrev ed (F it:Nat):Code:=.forLoop rz.1 (.ref (it+200)) rz.2.2.1 rz.2.2.2 (py F)
abbrev cS (F it:Nat):Code:=.forLoop hV.1 (.ref (it+200)) hV.2.2.1 hV.2.2.2 (py F)
structure Fx where
 (F mt it k1 k2 k3 k4 ti:Nat)
noncomputable abbrev b0 (P:Params)(L:Lx)(X:Fx)(i:Int)(ti:Nat)(lin:Int)(tl:Nat)(tok:Str)(tt:Nat)(ch:Str)(tc:Nat):aK:=
 bg P L i ti lin tl++[(X.F+200,bO [eT P "self" X.k1 (.ref (L.x+200)),eT P "token" X.k2 (.str tok tt),eT P "fiter" X.k3 (.ref (X.it+200)),eT P "ch" X.k4 (.str ch tc)] 4),
  (X.mt+200,px 116 (L.x+200)),(X.it+200,hO (X.mt+200) X.ti)]
noncomputable abbrev B4 (P:Params)(L:Lx)(X:Fx)(n tk:Nat)(i:Int)(ti:Nat)(lin:Int)(tl:Nat)(tok:Str)(tt:Nat)(ch:Str)(tc:Nat):G:=
 ⟨aA (ed X.F X.it),[],b0 P L X i ti lin tl tok tt ch tc,n+200,tk⟩
noncomputable abbrev c8 (P:Params)(L:Lx)(X:Fx)(i:Int)(ti:Nat)(lin:Int)(tl:Nat)(tt:Nat):aK:=
 bg P L i ti lin tl++[(X.F+200,bO [eT P "self" X.k1 (.ref (L.x+200)),eT P "token" X.k2 (.str (Rf "") tt),eT P "fiter" X.k3 (.ref (X.it+200))] 3),
  (X.mt+200,px 116 (L.x+200)),(X.it+200,hO (X.mt+200) X.ti)]
noncomputable abbrev kw (P:Params)(L:Lx)(X:Fx)(n tk:Nat)(i:Int)(ti:Nat)(lin:Int)(tl:Nat)(tt:Nat):G:=
 ⟨aA (cS X.F X.it),[],c8 P L X i ti lin tl tt,n+200,tk⟩
noncomputable abbrev mA (P:Params)(L:Lx)(X:Fx)(n tk:Nat)(i:Int)(ti:Nat)(lin:Int)(tl:Nat)(tt:Nat)(ch:Str)(tc:Nat):G:=
 ⟨aA (cS X.F X.it),[],b0 P L X i ti lin tl (Rf "") tt ch tc,n+200,tk⟩
noncomputable abbrev fp (x:Nat):Code:=.call (.ref 123) ⟨[.ref (x+200)],[]⟩
noncomputable abbrev LK (P:Params)(L:Lx)(n tk:Nat)(i:Int)(ti:Nat)(lin:Int)(tl:Nat):G:=
 ⟨aA (fp L.x),[(fp L.x,kr)],bg P L i ti lin tl,n+200,tk⟩
noncomputable abbrev mB (P:Params)(L:Lx)(X:Fx)(i:Int)(ti:Nat)(lin:Int)(tl:Nat)(tt:Nat):aK:=
 bg P L i ti lin tl++[(X.F+200,bO [eT P "self" X.k1 (.ref (L.x+200)),eT P "token" X.k2 (.str (Rf "") tt),eT P "fiter" X.k3 (.ref (X.it+200))] 3)]
noncomputable abbrev mC (P:Params)(L:Lx)(X:Fx)(i:Int)(ti:Nat)(lin:Int)(tl:Nat)(tt:Nat)(ch:Str)(tc:Nat):aK:=
 bg P L i ti lin tl++[(X.F+200,bO [eT P "self" X.k1 (.ref (L.x+200)),eT P "token" X.k2 (.str (Rf "") tt),eT P "fiter" X.k3 (.ref (X.it+200)),eT P "ch" X.k4 (.str ch tc)] 4)]
noncomputable abbrev vO (n tk:Nat):Fx:={F:=n,mt:=n+1,it:=n+2,k1:=tk,k2:=tk+5,k3:=tk+8,k4:=0,ti:=tk+7}
noncomputable abbrev eQ (it:Nat):Code:=.call (.builtin "callable_iterator.__next__") ⟨[.ref (it+200)],[]⟩
noncomputable abbrev ee (P:Params)(L:Lx)(X:Fx)(i:Int)(ti:Nat)(lin:Int)(tl:Nat):aK:=
 bg P L i ti lin tl++[(X.mt+200,px 116 (L.x+200)),(X.it+200,hO (X.mt+200) X.ti)]
noncomputable abbrev mE (a:Nat):Obj:=⟨.type "StopIteration",none,.fields #[.ref a,.none,.none,.none,.bool false,.none],#[]⟩
abbrev jb (L:Lx):Addr×Obj:=(L.x+200,jK (L.dx+200))
abbrev jc (P:Params)(L:Lx)(l:Int)(t:Nat):Addr×Obj:=(L.dx+200,fW P L.k1 L.k2 L.k3 L.k4 l t L.t3 (L.st+200) (L.pb+200))
theorem xW (b:Bool)(w:World)(L:Lx)(X:Fx)(n tk:Nat)(i:Int)(ti:Nat)(lin:Int)(tl:Nat)(tok:Str)(tt:Nat)(ch:Str)(tc v:Nat):SO b w [0,0,0,0,0,0,0,0,0,0,0,0,0] (BZ++[bb,bb,.o,aQ,dG,aQ,aQ,bx,.b,.b,.b,.i,bx,.b,.b,.b,bx,bx,.b,hE,.o,aQ,.o,aQ,aQ,.o,aQ,dG]) [aS (one v),aB false,aB false,aB false,aB false,aS (tok++one v)] (B4 (PB b w) L X n tk i ti lin tl tok tt ch tc)
 [⟨bc "str.__getitem__" [.str L.text L.13,.ref (n+202)],aS (one v),[((n+202),bq (.int i ti) (.int (i+1) (tk+7)) .none)]⟩,⟨bc "str.__eq__" [.str (one v) (tk+8),.str (Rf "\n") (tk+16)],aB false,[]⟩,⟨bc "str.__eq__" [.str (Rf "") X.8,.str (one v) (tk+8)],aB false,[]⟩,⟨bc "str.__contains__" [.str (Rf "\n\t\x0d ") L.19,.str (one v) (tk+8)],aB false,[]⟩,⟨bc "str.__eq__" [.str (one v) (tk+8),.str (Rf "\\") (tk+19)],aB false,[]⟩,⟨bc "str.__add__" [.str tok tt,.str (one v) (tk+8)],aS (tok++one v),[]⟩] ⟨.pure (.again (ed X.F X.it)),[],b0 (PB b w) L X (i+1) (tk+13) lin tl (tok++one v) (tk+20) (one v) (tk+8),n+203,tk+22⟩ []:=by apply bq1 b;kernel_rfl
theorem xX (b:Bool)(w:World)(L:Lx)(X:Fx)(n tk:Nat)(i:Int)(ti:Nat)(lin:Int)(tl:Nat)(tok:Str)(tt:Nat)(ch:Str)(tc v:Nat):SO b w [0,0,0,0,0,0,0,0,0,0,0,0,0] (BZ++[bb,bb,.o,aQ,dG,aQ,aQ,bx,.b,.b,.b,.i,bx,.b,.b,.b,bx,bx,.b,hE,.o,aQ]) [aS (one v),aB false,aB false,aB true] (B4 (PB b w) L X n tk i ti lin tl tok tt ch tc)
 [⟨bc "str.__getitem__" [.str L.text L.13,.ref (n+202)],aS (one v),[((n+202),bq (.int i ti) (.int (i+1) (tk+7)) .none)]⟩,⟨bc "str.__eq__" [.str (one v) (tk+8),.str (Rf "\n") (tk+16)],aB false,[]⟩,⟨bc "str.__eq__" [.str (Rf "") X.8,.str (one v) (tk+8)],aB false,[]⟩,⟨bc "str.__contains__" [.str (Rf "\n\t\x0d ") L.19,.str (one v) (tk+8)],aB true,[]⟩] ⟨.pure (.done (.ret (.str tok tt))),[],b0 (PB b w) L X (i+1) (tk+13) lin tl tok tt (one v) (tk+8),n+203,tk+19⟩ []:=by apply bq1 b;kernel_rfl
theorem xY (b:Bool)(w:World)(L:Lx)(X:Fx)(n tk:Nat)(i:Int)(ti:Nat)(lin:Int)(tl:Nat)(tok:Str)(tt:Nat)(ch:Str)(tc v:Nat):SO b w [0,0,0,0,0,0,0,0,0,0,0,0,0] (BZ++[bx,.b,.b,.b,.i,bx,.b,.b,.b,bx,bx,.b,hE,.i,bx,.b,.b,.b,.i,bx,.b,bx,.b,bx,.b,.b,.b,bx,.b,hE,MS,hE,jU,bb,bb,.o,aQ,dG,aQ,aQ,bx,.b,.b,.b,.i,bx,.b,.b,.b,bx,bx,.b,hE,.o,aQ]) [aS (one v),aB true,aB false,aB true] (B4 (PB b w) L X n tk i ti lin tl tok tt ch tc)
 [⟨bc "str.__getitem__" [.str L.text L.13,.ref (n+202)],aS (one v),[((n+202),bq (.int i ti) (.int (i+1) (tk+7)) .none)]⟩,⟨bc "str.__eq__" [.str (one v) (tk+8),.str (Rf "\n") (tk+16)],aB true,[]⟩,⟨bc "str.__eq__" [.str (Rf "") X.8,.str (one v) (tk+8)],aB false,[]⟩,⟨bc "str.__contains__" [.str (Rf "\n\t\x0d ") L.19,.str (one v) (tk+8)],aB true,[]⟩] ⟨.pure (.done (.ret (.str tok tt))),[],b0 (PB b w) L X (i+1) (tk+13) (lin+1) (tk+19) tok tt (one v) (tk+8),n+203,tk+24⟩ []:=by apply bq1 b;kernel_rfl
theorem xZ (b:Bool)(w:World)(L:Lx)(X:Fx)(n tk:Nat)(i:Int)(ti:Nat)(lin:Int)(tl:Nat)(tok:Str)(tt:Nat)(ch:Str)(tc v:Nat)(u:Nat):SO b w [0,0,0,0,0,0,0,0,0,0,0,0,0] (BZ++[bb,bb,.o,aQ,dG,aQ,aQ,bx,.b,.b,.b,.i,bx,.b,.b,.b,bx,bx,.b,hE,.o,aQ,.o,aQ,bx,.b,.b,.b,bx,.b,.b,.b,bx,.b,.b,.b,.b,bx,hE,.b,.i,.b,.b,.a,g8,vM,.s,g8,bx,.b,.b,.b,.i,bx,.b,.b,.b,bx,bx,.b,hE,b6,b6,b6,b6,.i,b6,b6,b6,b6,iy,b7,.i,b7,bf,.a,g9,vN,.s,ac,az,au,au,au,.i,au,au,az,au,au,au,.i,au,au,g9,.i,.a,.h [18],g9,vN,az,au,au,au,.i,au,au,.b,.b,g9,.i,.i,.i,az,au,au,.i,au,au,au,fV,g9,g8,vM,g8,.o,g8,aQ,dG,aQ,aQ,.o,aQ,dG]) [aS (one v),aB false,aB false,aB false,aB true,aS (one u),aB false,aS (tok++one u)] (B4 (PB b w) L X n tk i ti lin tl tok tt ch tc)
 [⟨bc "str.__getitem__" [.str L.text L.13,.ref (n+202)],aS (one v),[((n+202),bq (.int i ti) (.int (i+1) (tk+7)) .none)]⟩,⟨bc "str.__eq__" [.str (one v) (tk+8),.str (Rf "\n") (tk+16)],aB false,[]⟩,⟨bc "str.__eq__" [.str (Rf "") X.8,.str (one v) (tk+8)],aB false,[]⟩,⟨bc "str.__contains__" [.str (Rf "\n\t\x0d ") L.19,.str (one v) (tk+8)],aB false,[]⟩,⟨bc "str.__eq__" [.str (one v) (tk+8),.str (Rf "\\") (tk+19)],aB true,[]⟩,⟨bc "str.__getitem__" [.str L.text L.13,.ref (n+205)],aS (one u),[((n+205),bq (.int (i+↑(one v).length) (tk+13)) (.int (i+↑(one v).length+1) (tk+27)) .none)]⟩,⟨bc "str.__eq__" [.str (one u) (tk+28),.str (Rf "\n") (tk+36)],aB false,[]⟩,⟨bc "str.__add__" [.str tok tt,.str (one u) (tk+28)],aS (tok++one u),[]⟩] ⟨.pure (.again (ed X.F X.it)),[],b0 (PB b w) L X (i+1+1) (tk+33) lin tl (tok++one u) (tk+38) (one u) (tk+28),n+206,tk+40⟩ []:=by apply bq1 b;kernel_rfl
theorem vP (b:Bool)(w:World)(L:Lx)(X:Fx)(n tk:Nat)(i:Int)(ti:Nat)(lin:Int)(tl:Nat)(tt:Nat)(v:Nat):SO b w [0,0,0,0,0,0,0,0,0,0,0,0,0] (BZ++[bx,.b,.b,.b,.i,bx,.b,.b,.b,bx,bx,.b,hE,.i,bx,.b,.b,.b,.i,bx,.b,bx,.b,bx,.b,.b,.b,bx,.b,hE,MS,hE,jU,bb,bb,.o,aQ,dG,aQ,aQ,bx,.b,.b,.b,.i,bx,.b,.b,.b,bx,bx,.b,hE,.o]) [aS (one v),aB true,aB false,aB true] (kw (PB b w) L X n tk i ti lin tl tt)
 [⟨bc "str.__getitem__" [.str L.text L.13,.ref (n+202)],aS (one v),[((n+202),bq (.int i ti) (.int (i+1) (tk+7)) .none)]⟩,⟨bc "str.__eq__" [.str (one v) (tk+8),.str (Rf "\n") (tk+16)],aB true,[]⟩,⟨bc "str.__eq__" [.str (Rf "") X.8,.str (one v) (tk+8)],aB false,[]⟩,⟨bc "str.__contains__" [.str (Rf "\n\t\x0d ") L.19,.str (one v) (tk+8)],aB true,[]⟩] ⟨.pure (.again (cS X.F X.it)),[],b0 (PB b w) L {X with k4:=tk+22} (i+1) (tk+13) (lin+1) (tk+19) (Rf "") tt (one v) (tk+8),n+203,tk+24⟩ []:=by apply bq1 b;kernel_rfl
def mF:List Op:=nc (BZ++[bb,bb,.o,aQ,dG,aQ,aQ,bx,.b,.b,.b,.i,bx,.b,.b,.b,bx,bx,.b,hE,.o,aQ,.o,aQ,.o,aQ,aQ,.o,aQ,dG,aQ,bb,bb,.i,bb,bb])
theorem vQ (b:Bool)(w:World)(L:Lx)(X:Fx)(n tk:Nat)(i:Int)(ti:Nat)(lin:Int)(tl:Nat)(tt:Nat)(v:Nat):jW [0,0,0,0,0,0,0,0,0,0,0,0,0] (go aA (SB b w) (KL (PB b w)) 300 mF [aS (one v),aB false,aB false,aB false,aB false,aB false,aV (.str (one v) (tk+8))] (kw (PB b w) L X n tk i ti lin tl tt))
 [⟨bc "str.__getitem__" [.str L.text L.13,.ref (n+202)],aS (one v),[((n+202),bq (.int i ti) (.int (i+1) (tk+7)) .none)]⟩,⟨bc "str.__eq__" [.str (one v) (tk+8),.str (Rf "\n") (tk+16)],aB false,[]⟩,⟨bc "str.__eq__" [.str (Rf "") X.8,.str (one v) (tk+8)],aB false,[]⟩,⟨bc "str.__contains__" [.str (Rf "\n\t\x0d ") L.19,.str (one v) (tk+8)],aB false,[]⟩,⟨bc "str.__eq__" [.str (one v) (tk+8),.str (Rf "\"") (tk+19)],aB false,[]⟩,⟨bc "str.__eq__" [.str (one v) (tk+8),.str (Rf "\\") (tk+20)],aB false,[]⟩,⟨bc "str.__add__" [.str (Rf "") tt,.str (one v) (tk+8)],aV (.str (one v) (tk+8)),[]⟩] (ed X.F X.it) (b0 (PB b w) L {X with k4:=tk+17} (i+1) (tk+13) lin tl (one v) (tk+8) (one v) (tk+8)) (n+203) (tk+22) []:=by apply bq1 b;kernel_rfl
def mG:List Op:=nc (BZ++[bb,bb,.o,aQ,dG,aQ,aQ,bx,.b,.b,.b,.i,bx,.b,.b,.b,bx,bx,.b,hE,.o,aQ,.o,aQ,.o,aQ,aQ,.o,aQ,dG,aQ,bb,bb,.i,bb,bb])
theorem vR (b:Bool)(w:World)(L:Lx)(X:Fx)(n tk:Nat)(i:Int)(ti:Nat)(lin:Int)(tl:Nat)(tt:Nat)(ch:Str)(tc v:Nat):jW [0,0,0,0,0,0,0,0,0,0,0,0,0] (go aA (SB b w) (KL (PB b w)) 300 mG [aS (one v),aB false,aB false,aB false,aB false,aB false,aV (.str (one v) (tk+8))] (mA (PB b w) L X n tk i ti lin tl tt ch tc))
 [⟨bc "str.__getitem__" [.str L.text L.13,.ref (n+202)],aS (one v),[((n+202),bq (.int i ti) (.int (i+1) (tk+7)) .none)]⟩,⟨bc "str.__eq__" [.str (one v) (tk+8),.str (Rf "\n") (tk+16)],aB false,[]⟩,⟨bc "str.__eq__" [.str (Rf "") X.8,.str (one v) (tk+8)],aB false,[]⟩,⟨bc "str.__contains__" [.str (Rf "\n\t\x0d ") L.19,.str (one v) (tk+8)],aB false,[]⟩,⟨bc "str.__eq__" [.str (one v) (tk+8),.str (Rf "\"") (tk+19)],aB false,[]⟩,⟨bc "str.__eq__" [.str (one v) (tk+8),.str (Rf "\\") (tk+20)],aB false,[]⟩,⟨bc "str.__add__" [.str (Rf "") tt,.str (one v) (tk+8)],aV (.str (one v) (tk+8)),[]⟩] (ed X.F X.it) (b0 (PB b w) L X (i+1) (tk+13) lin tl (one v) (tk+8) (one v) (tk+8)) (n+203) (tk+22) []:=by apply bq1 b;kernel_rfl
def mH:List Op:=nc (BZ++[bb,bb,.o,aQ,dG,aQ,aQ,bx,.b,.b,.b,.i,bx,.b,.b,.b,bx,bx,.b,hE,.o,aQ,.o,aQ,.o,aQ,bx,.b,.b,.b,bx,.b,.b,.b,bx,.b,.b,.b,.b,bx,hE,.b,.i,.b,.b,.a,g8,vM,.s,g8,bx,.b,.b,.b,.i,bx,.b,.b,.b,bx,bx,.b,hE,b6,b6,b6,b6,.i,b6,b6,b6,b6,iy,b7,.i,b7,bf,.a,g9,vN,.s,ac,az,au,au,au,.i,au,au,az,au,au,au,.i,au,au,g9,.i,.a,.h [18],g9,vN,az,au,au,au,.i,au,au,.b,.b,g9,.i,.i,.i,az,au,au,.i,au,au,au,fV,g9,g8,vM,g8,.o,g8,aQ,dG,aQ,aQ,.o,aQ,dG,aQ,bb,bb,.i,bb,bb])
theorem vT (b:Bool)(w:World)(L:Lx)(X:Fx)(n tk:Nat)(i:Int)(ti:Nat)(lin:Int)(tl:Nat)(tt:Nat)(v:Nat)(u:Nat):jW [0,0,0,0,0,0,0,0,0,0,0,0,0] (go aA (SB b w) (KL (PB b w)) 300 mH [aS (one v),aB false,aB false,aB false,aB false,aB true,aS (one u),aB false,aV (.str (one u) (tk+29))] (kw (PB b w) L X n tk i ti lin tl tt))
 [⟨bc "str.__getitem__" [.str L.text L.13,.ref (n+202)],aS (one v),[((n+202),bq (.int i ti) (.int (i+1) (tk+7)) .none)]⟩,⟨bc "str.__eq__" [.str (one v) (tk+8),.str (Rf "\n") (tk+16)],aB false,[]⟩,⟨bc "str.__eq__" [.str (Rf "") X.8,.str (one v) (tk+8)],aB false,[]⟩,⟨bc "str.__contains__" [.str (Rf "\n\t\x0d ") L.19,.str (one v) (tk+8)],aB false,[]⟩,⟨bc "str.__eq__" [.str (one v) (tk+8),.str (Rf "\"") (tk+19)],aB false,[]⟩,⟨bc "str.__eq__" [.str (one v) (tk+8),.str (Rf "\\") (tk+20)],aB true,[]⟩,⟨bc "str.__getitem__" [.str L.text L.13,.ref (n+205)],aS (one u),[((n+205),bq (.int (i+↑(one v).length) (tk+13)) (.int (i+↑(one v).length+1) (tk+28)) .none)]⟩,⟨bc "str.__eq__" [.str (one u) (tk+29),.str (Rf "\n") (tk+37)],aB false,[]⟩,⟨bc "str.__add__" [.str (Rf "") tt,.str (one u) (tk+29)],aV (.str (one u) (tk+29)),[]⟩] (ed X.F X.it) (b0 (PB b w) L {X with k4:=tk+17} (i+1+1) (tk+34) lin tl (one u) (tk+29) (one u) (tk+29)) (n+206) (tk+40) []:=by apply bq1 b;kernel_rfl
noncomputable def dU (b:Bool)(w:World)(L:Lx)(n tk:Nat)(i:Int)(ti:Nat)(lin:Int)(tl:Nat):Option bo:=(go aA (SB b w) (KL (PB b w)) 300 [.b,.b,.a,aQ,dG,.s,aQ,bx,.b,.b,.b,.i,bx,.b,.b,.b,bx,bx,.b,hE,jV,jV,.i,jV,.i,jV,jV,aQ,dG,.b,.b,aQ,bx,.b,.b,.b,.i,bx,.b,.b,.b,.b,.b,.b,bx,bx,.b,hE,.b,.b,.b,.i,.b,.a,.i,cP,.a,aQ,dG,aQ,bb,bb,.i,bb,bb] [] (LK (PB b w) L n tk i ti lin tl))
theorem x4 (b:Bool)(w:World)(L:Lx)(n tk:Nat)(i:Int)(ti:Nat)(lin:Int)(tl:Nat):jW [0,0,0,0,0,0,0,0,0,0,0,0,0] (dU b w L n tk i ti lin tl)
 [] (cS n (n+2)) (c8 (PB b w) L (vO n tk) i ti lin tl (tk+4)) (n+203) (tk+9) []:=by apply bq1 b;kernel_rfl
def mI:List Op:=nc (BZ++[bb,bb,.o,aQ,dG,aQ,aQ,bx,.b,.b,.b,.i,bx,.b,.b,.b,bx,bx,.b,hE,.o,aQ,.o,aQ,.o,aQ,bx,.b,.b,.b,bx,.b,.b,.b,bx,.b,.b,.b,.b,bx,hE,.b,.i,.b,.b,.a,g8,vM,.s,g8,bx,.b,.b,.b,.i,bx,.b,.b,.b,bx,bx,.b,hE,b6,b6,b6,b6,.i,b6,b6,b6,b6,iy,b7,.i,b7,bf,.a,g9,vN,.s,ac,az,au,au,au,.i,au,au,az,au,au,au,.i,au,au,g9,.i,.a,.h [18],g9,vN,az,au,au,au,.i,au,au,.b,.b,g9,.i,.i,.i,az,au,au,.i,au,au,au,fV,g9,g8,vM,g8,.o,g8,aQ,dG,aQ,aQ,.o,aQ,dG,aQ,bb,bb,.i,bb,bb])
theorem vU (b:Bool)(w:World)(L:Lx)(X:Fx)(n tk:Nat)(i:Int)(ti:Nat)(lin:Int)(tl:Nat)(tt:Nat)(ch:Str)(tc v:Nat)(u:Nat):jW [0,0,0,0,0,0,0,0,0,0,0,0,0] (go aA (SB b w) (KL (PB b w)) 300 mI [aS (one v),aB false,aB false,aB false,aB false,aB true,aS (one u),aB false,aV (.str (one u) (tk+29))] (mA (PB b w) L X n tk i ti lin tl tt ch tc))
 [⟨bc "str.__getitem__" [.str L.text L.13,.ref (n+202)],aS (one v),[((n+202),bq (.int i ti) (.int (i+1) (tk+7)) .none)]⟩,⟨bc "str.__eq__" [.str (one v) (tk+8),.str (Rf "\n") (tk+16)],aB false,[]⟩,⟨bc "str.__eq__" [.str (Rf "") X.8,.str (one v) (tk+8)],aB false,[]⟩,⟨bc "str.__contains__" [.str (Rf "\n\t\x0d ") L.19,.str (one v) (tk+8)],aB false,[]⟩,⟨bc "str.__eq__" [.str (one v) (tk+8),.str (Rf "\"") (tk+19)],aB false,[]⟩,⟨bc "str.__eq__" [.str (one v) (tk+8),.str (Rf "\\") (tk+20)],aB true,[]⟩,⟨bc "str.__getitem__" [.str L.text L.13,.ref (n+205)],aS (one u),[((n+205),bq (.int (i+↑(one v).length) (tk+13)) (.int (i+↑(one v).length+1) (tk+28)) .none)]⟩,⟨bc "str.__eq__" [.str (one u) (tk+29),.str (Rf "\n") (tk+37)],aB false,[]⟩,⟨bc "str.__add__" [.str (Rf "") tt,.str (one u) (tk+29)],aV (.str (one u) (tk+29)),[]⟩] (ed X.F X.it) (b0 (PB b w) L X (i+1+1) (tk+34) lin tl (one u) (tk+29) (one u) (tk+29)) (n+206) (tk+40) []:=by apply bq1 b;kernel_rfl
noncomputable abbrev ji (b:Bool)(w:World)(L:Lx)(X:Fx)(n tk:Nat)(i:Int)(ti:Nat)(lin:Int)(tl:Nat)(tt:Nat)(v:Nat):Option bo:=(go aA (SB b w) (KL (PB b w)) 300 mF [aS (one v),aB false,aB false,aB false,aB false,aB false,aV (.str (one v) (tk+8))] (kw (PB b w) L X n tk i ti lin tl tt))
theorem rA (b:Bool)(w:World)(L:Lx)(X:Fx)(n tk:Nat)(i:Int)(ti:Nat)(lin:Int)(tl:Nat)(tt:Nat)(v:Nat)(s:Str)(t n2 tk2:Nat):SO b w [] [] [] (gC (ji b w L X n tk i ti lin tl tt v) (.ok (.ret (.str s t))) [] (n2+200) tk2)
 [] ⟨.pure (.done (.ret (.str s t))),[],[],n2+200,tk2⟩ []:=by apply bq1 b;kernel_rfl
noncomputable abbrev jj (b:Bool)(w:World)(L:Lx)(X:Fx)(n tk:Nat)(i:Int)(ti:Nat)(lin:Int)(tl:Nat)(tt:Nat)(ch:Str)(tc v:Nat):Option bo:=(go aA (SB b w) (KL (PB b w)) 300 mG [aS (one v),aB false,aB false,aB false,aB false,aB false,aV (.str (one v) (tk+8))] (mA (PB b w) L X n tk i ti lin tl tt ch tc))
theorem rB (b:Bool)(w:World)(L:Lx)(X:Fx)(n tk:Nat)(i:Int)(ti:Nat)(lin:Int)(tl:Nat)(tt:Nat)(ch:Str)(tc v:Nat)(s:Str)(t n2 tk2:Nat):SO b w [] [] [] (gC (jj b w L X n tk i ti lin tl tt ch tc v) (.ok (.ret (.str s t))) [] (n2+200) tk2)
 [] ⟨.pure (.done (.ret (.str s t))),[],[],n2+200,tk2⟩ []:=by apply bq1 b;kernel_rfl
noncomputable abbrev jk (b:Bool)(w:World)(L:Lx)(X:Fx)(n tk:Nat)(i:Int)(ti:Nat)(lin:Int)(tl:Nat)(tt:Nat)(v:Nat)(u:Nat):Option bo:=(go aA (SB b w) (KL (PB b w)) 300 mH [aS (one v),aB false,aB false,aB false,aB false,aB true,aS (one u),aB false,aV (.str (one u) (tk+29))] (kw (PB b w) L X n tk i ti lin tl tt))
theorem rC (b:Bool)(w:World)(L:Lx)(X:Fx)(n tk:Nat)(i:Int)(ti:Nat)(lin:Int)(tl:Nat)(tt:Nat)(v:Nat)(u:Nat)(s:Str)(t n2 tk2:Nat):SO b w [] [] [] (gC (jk b w L X n tk i ti lin tl tt v u) (.ok (.ret (.str s t))) [] (n2+200) tk2)
 [] ⟨.pure (.done (.ret (.str s t))),[],[],n2+200,tk2⟩ []:=by apply bq1 b;kernel_rfl
noncomputable abbrev jl (b:Bool)(w:World)(L:Lx)(X:Fx)(n tk:Nat)(i:Int)(ti:Nat)(lin:Int)(tl:Nat)(tt:Nat)(ch:Str)(tc v:Nat)(u:Nat):Option bo:=(go aA (SB b w) (KL (PB b w)) 300 mI [aS (one v),aB false,aB false,aB false,aB false,aB true,aS (one u),aB false,aV (.str (one u) (tk+29))] (mA (PB b w) L X n tk i ti lin tl tt ch tc))
theorem rD (b:Bool)(w:World)(L:Lx)(X:Fx)(n tk:Nat)(i:Int)(ti:Nat)(lin:Int)(tl:Nat)(tt:Nat)(ch:Str)(tc v:Nat)(u:Nat)(s:Str)(t n2 tk2:Nat):SO b w [] [] [] (gC (jl b w L X n tk i ti lin tl tt ch tc v u) (.ok (.ret (.str s t))) [] (n2+200) tk2)
 [] ⟨.pure (.done (.ret (.str s t))),[],[],n2+200,tk2⟩ []:=by apply bq1 b;kernel_rfl
theorem x5 (b:Bool)(w:World)(L:Lx)(n tk:Nat)(i:Int)(ti:Nat)(lin:Int)(tl:Nat)(s:Str)(t n2 tk2:Nat):SO b w [] [] [] (gC (dU b w L n tk i ti lin tl) (.ok (.ret (.str s t))) [] (n2+200) tk2)
 [] ⟨.pure (.done (.ret (.str s t))),[],[],n2+200,tk2⟩ []:=by apply bq1 b;kernel_rfl
theorem vV (b:Bool)(w:World)(L:Lx)(n tk:Nat)(i:Int)(ti:Nat)(lin:Int)(tl:Nat)(i2:Int)(ti2:Nat)(lin2:Int)(tl2 tt2 k4:Nat)(ch2:Str)(tc2 n2 tk2:Nat):SO b w [0,0,0,0,0,0,0,0,0,0] [aQ] [] (gC (dU b w L n tk i ti lin tl) (.ok .next) (mB (PB b w) L (vO n tk) i2 ti2 lin2 tl2 tt2) (n2+200) tk2)
 [] ⟨.pure (.done (.ret (.str (Rf "") tt2))),[],bg (PB b w) L i2 ti2 lin2 tl2,n2+200,tk2⟩ []:=by apply bq1 b;kernel_rfl
theorem vW (b:Bool)(w:World)(L:Lx)(n tk:Nat)(i:Int)(ti:Nat)(lin:Int)(tl:Nat)(i2:Int)(ti2:Nat)(lin2:Int)(tl2 tt2 k4:Nat)(ch2:Str)(tc2 n2 tk2:Nat):SO b w [0,0,0,0,0,0,0,0,0,0] [aQ] [] (gC (dU b w L n tk i ti lin tl) (.ok .next) (mC (PB b w) L {vO n tk with k4:=k4} i2 ti2 lin2 tl2 tt2 ch2 tc2) (n2+200) tk2)
 [] ⟨.pure (.done (.ret (.str (Rf "") tt2))),[],bg (PB b w) L i2 ti2 lin2 tl2,n2+200,tk2⟩ []:=by apply bq1 b;kernel_rfl
def mJ:List Op:=nc [bb]
theorem vX (b:Bool)(w:World)(L:Lx)(X:Fx)(n tk:Nat)(i:Int)(ti:Nat)(lin:Int)(tl:Nat)(tt:Nat)(v:Nat):jW [0,0,0,0,0,0,0,0,0,0,0,0,0] (go aA (SB b w) (KL (PB b w)) 300 mJ [] (kw (PB b w) L X n tk i ti lin tl tt))
 [] (eQ X.it) (c8 (PB b w) L X i ti lin tl tt) (n+200) tk []:=by apply bq1 b;kernel_rfl
def mK:List Op:=nc [bb]
theorem vY (b:Bool)(w:World)(L:Lx)(X:Fx)(n tk:Nat)(i:Int)(ti:Nat)(lin:Int)(tl:Nat)(tt:Nat)(ch:Str)(tc v:Nat):jW [0,0,0,0,0,0,0,0,0,0,0,0,0] (go aA (SB b w) (KL (PB b w)) 300 mK [] (mA (PB b w) L X n tk i ti lin tl tt ch tc))
 [] (eQ X.it) (b0 (PB b w) L X i ti lin tl (Rf "") tt ch tc) (n+200) tk []:=by apply bq1 b;kernel_rfl
theorem x6 (b:Bool)(w:World)(L:Lx)(X:Fx)(n tk:Nat)(i:Int)(ti:Nat)(lin:Int)(tl:Nat):SO b w [0,0,0,0,0,0,0,0,0,0,0,0] [cP] [] ⟨aA (eQ X.it),[],ee (PB b w) L X i ti lin tl,n+200,tk⟩
 [] ⟨.pure (.again (.builtin "callable_iterator.__next__" ⟨[.ref (X.it+200)],[]⟩)),[],ee (PB b w) L X i ti lin tl,n+200,tk⟩ []:=by apply bq1 b;kernel_rfl
theorem x7 (b:Bool)(w:World)(L:Lx)(X:Fx)(n tk:Nat)(i:Int)(ti:Nat)(lin:Int)(tl:Nat):SO b w [0,0,0,0,0,0,0,0,0,0,0,0] [aQ,.b,.i,aQ,.b,.b,.a,bb,rv,.s,bb,bx,.b,.b,.b,.i,bx,.b,.b,.b,bx,bx,.b,hE,b6,b6,b6,b6,.i,b6,b6,b6,b6,iy,b7,.i,b7,bf,.a,jU,BX,.s,ac,az,au,au,au,.i,au,au,az,au,au,au,.i,au,au,jU,.i,.a,.h [14],jU,BX,az,au,au,au,.i,au,au,.b,.b,jU,.i,.i,.i,az,au,au,.i,au,au,au,fV,jU,bb,rv,bb,.o,bb] [aS (Rf ""),aB false] ⟨GU (callOutOfASlot (.ref (X.mt+200))),[],ee (PB b w) L X i ti lin tl,n+200,tk⟩
 [⟨bc "str.__getitem__" [.str L.text L.13,.ref (n+202)],aS (Rf ""),[((n+202),bq (.int i ti) (.int (i+1) (tk+7)) .none)]⟩,⟨bc "str.__eq__" [.str (Rf "") (tk+8),.str (Rf "\n") (tk+16)],aB false,[]⟩] ⟨.pure (.done (.ret (.str (Rf "") (tk+8)))),[],ee (PB b w) L X (i+0) (tk+13) lin tl,n+203,tk+17⟩ []:=by apply bq1 b;kernel_rfl
theorem x8 (b:Bool)(w:World)(L:Lx)(X:Fx)(n tk:Nat)(i:Int)(ti:Nat)(lin:Int)(tl:Nat):SO b w [0,0,0,0,0,0,0,0,0,0,3] [cP,aQ,.b,cP,GO,cP,GO,cP,GO,.a,.a] [] ⟨ui (.ref (X.it+200)),[],ee (PB b w) L X i ti lin tl,n+200,tk⟩
 [] ⟨.raise (.ref (n+201)),[],bg (PB b w) L i ti lin tl++[(n+1+200,mE (n+200))],n+202,tk⟩ []:=by apply bq1 b;kernel_rfl
noncomputable abbrev jm (b:Bool)(w:World)(L:Lx)(X:Fx)(n tk:Nat)(i:Int)(ti:Nat)(lin:Int)(tl:Nat)(tt:Nat)(v:Nat):Option bo:=(go aA (SB b w) (KL (PB b w)) 300 mJ [] (kw (PB b w) L X n tk i ti lin tl tt))
noncomputable abbrev jo (b:Bool)(w:World)(L:Lx)(X:Fx)(n tk:Nat)(i:Int)(ti:Nat)(lin:Int)(tl:Nat)(tt:Nat)(ch:Str)(tc v:Nat):Option bo:=(go aA (SB b w) (KL (PB b w)) 300 mK [] (mA (PB b w) L X n tk i ti lin tl tt ch tc))
theorem vZ (b:Bool)(w:World)(L:Lx)(X:Fx)(n tk:Nat)(i:Int)(ti:Nat)(lin:Int)(tl:Nat)(tt:Nat)(v:Nat)(i2:Int)(ti2 e a n2 tk2:Nat):SO b w [0,0,0,0,0,0,0,0,0,0,0] [cP] [] (gC (jm b w L X n tk i ti lin tl tt v) (.error (.ref (e+200))) (mB (PB b w) L X i2 ti2 lin tl tt++[(e+200,mE a)]) (n2+200) tk2)
 [] ⟨.pure (.again (.block hV.2.2.2 (py X.F))),[],mB (PB b w) L X i2 ti2 lin tl tt,n2+200,tk2⟩ []:=by apply bq1 b;kernel_rfl
theorem v0 (b:Bool)(w:World)(L:Lx)(X:Fx)(n tk:Nat)(i:Int)(ti:Nat)(lin:Int)(tl:Nat)(tt:Nat)(ch:Str)(tc v:Nat)(i2:Int)(ti2 e a n2 tk2:Nat):SO b w [0,0,0,0,0,0,0,0,0,0,0] [cP] [] (gC (jo b w L X n tk i ti lin tl tt ch tc v) (.error (.ref (e+200))) (mC (PB b w) L X i2 ti2 lin tl tt ch tc++[(e+200,mE a)]) (n2+200) tk2)
 [] ⟨.pure (.again (.block hV.2.2.2 (py X.F))),[],mC (PB b w) L X i2 ti2 lin tl tt ch tc,n2+200,tk2⟩ []:=by apply bq1 b;kernel_rfl
end Mine

namespace Mine
open PySem PySem.Builtin PySem.Builtin.Str
theorem rE {i len:Nat}(h:i<len):strSliceIndices (some (i:Int)) (some ((i:Int)+1)) 1 len=[i]:=by
 have:=StrLaws.strSliceIndices_plain (a:=i) (b:=i+1) (len:=len) (by lia) (by lia)
 rw[show(((i+1:Nat):Int))=(i:Int)+1 by lia]at this
 rw[this];simp[List.range_succ]
theorem rG {len:Nat}:strSliceIndices (some (len:Int)) (some ((len:Int)+1)) 1 len=[]:=by
 unfold strSliceIndices sliceRange
 have h1:¬((len:Int)<0):=by lia
 have h2:¬((len:Int)+1<0):=by lia
 simp only[h1,h2,if_false]
 simp
 lia
section
variable{prog:Program}{w:World}{K:Nat->Option Obj}{U:Nat}
theorem bP {x:Str}{t a i v:Nat}{ti tj:Nat}(h:x.cps.toList[i]?=some (v+1))(hl:2<=x.length) :
  ak prog w K U ⟨bc "str.__getitem__" [.str x t,.ref a],aS (one v),[(a,bq (.int (i:Int) ti) (.int ((i:Int)+1) tj) .none)]⟩:=by
 have hi:i<x.length:=by
  have:=(NW.mp h).1
  simpa[Str.length]using this
 have e:slicePicked x (some ((i:Int),ti)) (some ((i:Int)+1,tj)) none=[i]:=rE hi
 refine fM ?_ ?_ ?_
 ·rw[e]
  have:x.cps[i]?=some (v+1):=by rw[<-O4];exact h
  simp[this]
 ·rw[e];simp only[OJ];lia
 ·show 1<=sizeLine;decide
theorem nr {x:Str}{t a:Nat}{ti tj:Nat}(hl:2<=x.length) :
  ak prog w K U ⟨bc "str.__getitem__" [.str x t,.ref a],aS (Rf ""),[(a,bq (.int (x.length:Int) ti) (.int ((x.length:Int)+1) tj) .none)]⟩:=by
 have e:slicePicked x (some ((x.length:Int),ti)) (some ((x.length:Int)+1,tj)) none=[]:=rG
 refine fM ?_ ?_ ?_
 ·rw[e];rfl
 ·rw[e];simp only[Ow];lia
 ·show 0<=sizeLine;exact OI _
theorem aW {v c:Nat}{y:Str}{t u:Tok}{r:Bool}(hy:y.cps.toList=[c])(h:decide (v+1=c)=r):ak prog w K U ⟨bc "str.__eq__" [.str (one v) t,.str y u],aB r,[]⟩:=by
 refine bA ?_
 rw[hy,<-h]
 by_cases q:v+1=c<;>simp[q]
theorem cF {v:Nat}{y:Str}{t u:Tok}(hy:y.cps.toList=[]):ak prog w K U ⟨bc "str.__eq__" [.str y t,.str (one v) u],aB false,[]⟩:=by
 refine bA ?_
 rw[hy];rfl
theorem c9 {x:Str}{v:Nat}{t u:Tok}{r:Bool}(h:decide (v+1∈x.cps.toList)=r):ak prog w K U ⟨bc "str.__contains__" [.str x t,.str (one v) u],aB r,[]⟩:=
 hJ (by rw[StrLaws.found_one,h])
end
end Mine

namespace Mine
open PySem
theorem pz (P:Params)(h:Heap)(e:h.get? 2=some (Lj P)):h.NoLimit:=by
 have hn:h.isNs cStatics=true:=by
  show h.isNs 2=true
  unfold Heap.isNs
  rw[e]
  kernel_rfl
 refine⟨_,Heap.Ns.of_isNs hn,?_⟩
 show h.nsMap 2 _=none
 unfold Heap.nsMap
 rw[e]
 kernel_rfl
theorem GW (P:Params):KL P 2=some (Lj P):=by kernel_rfl
theorem ax (P:Params):∀h:Heap,(∀a o,KL P a=some o->h.get? a=some o)->h.NoLimit:=λh e=>pz P h (e 2 _ (GW P))
section
variable{b:Bool}{w:World}{B:Bx (KL (PB b w))}{A:Around}{s:Shared}{R:Result->aP}
def QL (prog:Program)(w:World)(A:Around)(R:Result->aP):Fin->aP:=λfin s'=>match fin with
 | .done f=>R (.ok f) s'
 | .again c'=>c'.quiet=true/\codeAny (Mo prog w) A c' R s'
theorem aF {prog:Program}{c:Code}(hc:A.under c=A)(h:an prog w A (QL prog w A R) (λe s'=>R (.error e) s') [] (aA c) s):codeAny (Mo prog w) A c R s:=by
 refine codeAny_of_tree ?_
 rw[hc]
 show wpAny _ A (denote table c) _ _ s
 rw[eG]
 exact h
end
theorem iD (acc:List Nat)(c:Nat):(⟨acc.toArray⟩:Str)++(⟨#[c]⟩:Str)=⟨(acc++[c]).toArray⟩:=by
 apply Str.ext'
 rw[Str.cps_append]
 simp
inductive uj:List Nat->List Nat->List Nat->List Nat->Nat->Prop
 | white {acc:List Nat} {c:Nat} {r:List Nat}:c+1∈iC.cps.toList->uj acc ((c+1)::r) acc r (if c+1=10 then 1 else 0)
 | esc {acc:List Nat} {d:Nat} {r tok r':List Nat} {k:Nat}:d+1≠10->uj (acc++[d+1]) r tok r' k->uj acc (92::(d+1)::r) tok r' k
 | plain {acc:List Nat} {c:Nat} {r tok r':List Nat} {k:Nat}:c+1∉iC.cps.toList->c+1≠92->uj (acc++[c+1]) r tok r' k->uj acc ((c+1)::r) tok r' k
theorem bS {l:List Nat}{i c:Nat}{r:List Nat}(h:l.drop i=c::r):l[i]?=some c/\l.drop (i+1)=r:=by
 constructor
 ·have:=PX (xs:=l) (i:=i) (j:=0)
  rw[h]at this
  simpa using this.symm
 ·rw[<-PJ,h];rfl
theorem nt {x:Str}{i c:Nat}(h:x.cps.toList[i]?=some c):i+1<=x.length:=by
 have:=(NW.mp h).1
 have e:x.cps.toList.length=x.length:=by simp[Str.length]
 lia
theorem bI {A:Around}{t:Rg}{it:Value}{bd o:List Stmt}{env:Env}:A.under (.forLoop t it bd o env)=A:=Around.under_of_weight (by rfl) (by rfl)
section
variable{b:Bool}{w:World}{B:Bx (KL (PB b w))}{A:Around}{L:Lx}{X:Fx}
inductive GX (b:Bool)(w:World)(B:Bx (KL (PB b w)))(L:Lx)(ads:List Addr)(s:Shared)(tok rest:List Nat)(lin:Int)(r:Result)(s':Shared):Prop
 | mk (i' ti' tl' n' tk' tt':Nat) (h0:r=.ok (.ret (.str ⟨tok.toArray⟩ tt'))) (h1:aa B.f s' (bg (PB b w) L (i':Int) ti' lin tl') (n'+200) tk') (h2:L.text.cps.toList.drop i'=rest) (h3:i'<=L.text.length) (h4:bj ads s s')
theorem iE (hl:2<=L.text.length){d:Nat}(hA:ad d A):∀{acc rest tok rest':List Nat} {k:Nat},uj acc rest tok rest' k->∀{i n tk ti:Nat} {lin:Int} {tl tt:Nat} {ch:Str} {tc:Nat} {s:Shared},
  L.text.cps.toList.drop i=rest->acc≠[]->acc.length+rest.length<=sizeLine->aa B.f s (b0 (PB b w) L X (i:Int) ti lin tl ⟨acc.toArray⟩ tt ch tc) (n+200) tk ->
  codeAny (Mo PW (WB b w)) A (ed X.F X.it) (GX b w B L ((b0 (PB b w) L X (i:Int) ti lin tl ⟨acc.toArray⟩ tt ch tc).map (·.1)) s tok rest' (lin+(k:Int))) s:=by
 intro acc rest tok rest' k h
 induction h with
 | @white acc c r hc =>
  intro i n tk ti lin tl tt ch tc s hd hacc cQ I
  obtain⟨h1,h2⟩:=bS hd
  refine aF bI ?_
  by_cases h10:c+1=10
  ·rw[if_pos h10]
   refine run (hB:=B.ext) (ax _) hA.depth hA.units hA.handled (xY b w L X n tk (i:Int) ti lin tl ⟨acc.toArray⟩ tt ch tc c) ?_ nM I λs' I' k'=>?_
   ·refine fc ⟨bP h1 hl,fc ⟨aW (c:=10) rfl (by simp[h10]),fc ⟨cF rfl,fc ⟨c9 (by simpa using hc),N3 _⟩⟩⟩⟩
   ·exact λ_ _ _=>⟨i+1,tk+13,tk+19,n+3,tk+24,tt,rfl,I'.pick [0,0,0,0,0,0,0,0,0,0],h2,nt h1,k'⟩
  ·rw[if_neg h10]
   refine run (hB:=B.ext) (ax _) hA.depth hA.units hA.handled (xX b w L X n tk (i:Int) ti lin tl ⟨acc.toArray⟩ tt ch tc c) ?_ nM I λs' I' k'=>?_
   ·refine fc ⟨bP h1 hl,fc ⟨aW (c:=10) rfl (by simp[h10]),fc ⟨cF rfl,fc ⟨c9 (by simpa using hc),N3 _⟩⟩⟩⟩
   ·exact λ_ _ _=>⟨i+1,tk+13,tl,n+3,tk+19,tt,rfl,by rw[show lin+((0:Nat):Int)=lin from QI _];exact I'.pick [0,0,0,0,0,0,0,0,0,0],h2,nt h1,k'⟩
 | @esc acc d r tok r' k hd10 hin ih =>
  intro i n tk ti lin tl tt ch tc s hd hacc cQ I
  obtain⟨h1,h2⟩:=bS hd
  obtain⟨h3,h4⟩:=bS h2
  refine aF bI ?_
  refine run (hB:=B.ext) (ax _) hA.depth hA.units hA.handled (xZ b w L X n tk (i:Int) ti lin tl ⟨acc.toArray⟩ tt ch tc 91 d) ?_ nM I λs' I' k'=>?_
  ·refine fc ⟨bP h1 hl,fc ⟨aW (c:=10) rfl rfl,fc ⟨cF rfl,fc ⟨c9 (by decide),fc ⟨aW (c:=92) rfl rfl,fc ⟨bP (i:=i+1) h3 hl,fc ⟨aW (c:=10) rfl (by simp[hd10]),fc ⟨gU (by simpa[Str.length]using hacc) (by simp[Str.length]) ?_,N3 _⟩⟩⟩⟩⟩⟩⟩⟩
   rw[iD];simp only[Str.length,OC,NR,NV,Ow]at cQ ⊢;lia
  ·refine λ_ _ _=>⟨by rfl,?_⟩
   have I2:aa B.f s' (b0 (PB b w) L X ((i+1+1:Nat):Int) (tk+33) lin tl ⟨(acc++[d+1]).toArray⟩ (tk+38) (one d) (tk+28)) (n+6+200) (tk+40):=by
    rw[<-iD];exact I'
   refine codeAny_mono (ih h4 (by simp) (by simp only[NR,NV,Ow]at cQ ⊢;lia) I2) ?_
   rintro r2 s2 ⟨i',ti',tl',n',tk',tt',a1,a2,a3,a5,a4⟩
   exact⟨i',ti',tl',n',tk',tt',a1,a2,a3,a5,k'.trans a4⟩
 | @plain acc c r tok r' k hws h92 hin ih =>
  intro i n tk ti lin tl tt ch tc s hd hacc cQ I
  obtain⟨h1,h2⟩:=bS hd
  have h10:c+1≠10:=λe=>hws (by rw[e];decide)
  refine aF bI ?_
  refine run (hB:=B.ext) (ax _) hA.depth hA.units hA.handled (xW b w L X n tk (i:Int) ti lin tl ⟨acc.toArray⟩ tt ch tc c) ?_ nM I λs' I' k'=>?_
  ·refine fc ⟨bP h1 hl,fc ⟨aW (c:=10) rfl (by simp[h10]),fc ⟨cF rfl,fc ⟨c9 (by simpa using hws),fc ⟨aW (c:=92) rfl (by simp[h92]),fc ⟨gU (by simpa[Str.length]using hacc) (by simp[Str.length]) ?_,N3 _⟩⟩⟩⟩⟩⟩
   rw[iD];simp only[Str.length,OC,NR,NV,Ow]at cQ ⊢;lia
  ·refine λ_ _ _=>⟨by rfl,?_⟩
   have I2:aa B.f s' (b0 (PB b w) L X ((i+1:Nat):Int) (tk+13) lin tl ⟨(acc++[c+1]).toArray⟩ (tk+20) (one c) (tk+8)) (n+3+200) (tk+22):=by
    rw[<-iD];exact I'
   refine codeAny_mono (ih h2 (by simp) (by simp only[NR,NV,Ow]at cQ ⊢;lia) I2) ?_
   rintro r2 s2 ⟨i',ti',tl',n',tk',tt',a1,a2,a3,a5,a4⟩
   exact⟨i',ti',tl',n',tk',tt',a1,a2,a3,a5,k'.trans a4⟩
theorem rH:entryFor table "callable_iterator.__next__" = some PySem.Builtin.«callable_iterator.__next__»:=entryFor_of_tree (by kernel_rfl)
theorem v1 {id:String}{args:Args}{b:Builtin}(h:entryFor table id=some b):denote table (.builtin id args)=b args:=by
 simp only[denote,h]
theorem pA (hl:2<=L.text.length){d:Nat}(hA:ad d A)(hd:d<=14){n tk ti:Nat}{lin:Int}{tl:Nat}{s:Shared}(I:aa B.f s (ee (PB b w) L X (L.text.length:Int) ti lin tl) (n+200) tk) :
  codeAny (Mo PW (WB b w)) A (eQ X.it) (λr s'=>r=.error (.ref (n+4+200))/\aa B.f s' (bg (PB b w) L (L.text.length:Int) (tk+13) lin tl++[(n+4+200,mE (n+3+200))]) (n+5+200) (tk+17) /\
   bj ((ee (PB b w) L X (L.text.length:Int) ti lin tl).map (·.1)) s s') s:=by
 have hu:A.under (eQ X.it)=A.in1:=Around.under_plain (by rfl) (by rfl)
 have hA1:ad (d+1) A.in1:=hA.in1 hd
 refine codeAny_of_tree ?_
 rw[hu]
 show wpAny _ A.in1 (denote table (eQ X.it)) _ _ s
 rw[eG]
 refine run (A:=A.in1) (hB:=B.ext) (ax _) hA1.depth hA1.units hA1.handled (x6 b w L X n tk (L.text.length:Int) ti lin tl) nM nM I λs1 I1 k1=>?_
 refine λ_ _ _=>⟨plainId_quiet (by decide +kernel) _,codeAny_of_tree ?_⟩
 rw[Around.under_plainId (by decide +kernel)]
 show wpAny _ A.in1 (denote table (.builtin "callable_iterator.__next__" ⟨[.ref (X.it+200)],[]⟩)) _ _ s1
 rw[v1 rH]
 have hit:=I1.has (X.it+200,hO (X.mt+200) X.ti) (by simp)
 refine wpAny_bind (m:=slotArgs "__next__" 0 ⟨[.ref (X.it+200)],[]⟩) (wpAny_pure ?_)
 refine wpAny_bind (wpAny_field hit rfl rfl ?_)
 refine wpAny_bind (wpAny_field hit rfl rfl ?_)
 refine wpAny_bind (wpAny_attempt (B3 ?_))
 refine run (A:=A.in1) (hB:=B.ext) (ax _) hA1.depth hA1.units hA1.handled (x7 b w L X n tk (L.text.length:Int) ti lin tl) ?_ nM I1 λs2 I2 k2=>?_
 ·exact fc ⟨nr hl,fc ⟨bA rfl,N3 _⟩⟩
 refine λ_ _ _=>?_
 have I2':aa B.f s2 (ee (PB b w) L X (L.text.length:Int) (tk+13) lin tl) (n+3+200) (tk+17):=by
  have e:(L.text.length:Int)+0=(L.text.length:Int):=QI _
  rw[<-e];exact I2
 have hit2:=I2'.has (X.it+200,hO (X.mt+200) X.ti) (by simp)
 refine wpAny_bind (wpAny_field hit2 rfl rfl ?_)
 refine wpAny_bind (wpAny_field hit2 rfl rfl ?_)
 refine wpAny_bind (wpAny_holding (PyProof.Rows.eqBool_str ?_))
 rw[if_neg (by simp)]
 show wpAny _ A.in1 (ui (.ref (X.it+200))) _ _ s2
 refine run (A:=A.in1) (hB:=B.ext) (ax _) hA1.depth hA1.units hA1.handled (x8 b w L X (n+3) (tk+17) (L.text.length:Int) (tk+13) lin tl) nM nM I2' λs3 I3 k3=>?_
 exact λ_ _ _=>⟨rfl,I3,(k1.trans k2).trans k3⟩
end
section
variable{b:Bool}{w:World}{B:Bx (KL (PB b w))}{A:Around}{L:Lx}{X:Fx}
theorem pB (b:Bool)(w:World)(L:Lx)(X:Fx)(n tk:Nat)(i:Int)(ti:Nat)(lin:Int)(tl tt v:Nat):ci (bH (ji b w L X n tk i ti lin tl tt v)) 7=true:=by apply bq1 b;kernel_rfl
theorem pE (b:Bool)(w:World)(L:Lx)(X:Fx)(n tk:Nat)(i:Int)(ti:Nat)(lin:Int)(tl tt v:Nat):cr (bH (ji b w L X n tk i ti lin tl tt v)) 7=true:=by apply bq1 b;kernel_rfl
theorem rI (hl:2<=L.text.length){lv:Nat}(hA:ad lv A)(hlv:lv<=14){c:Nat}{r tok rest:List Nat}{k:Nat}(hws:c+1∉iC.cps.toList)(h92:c+1≠92)(h34:c+1≠34)(hin:uj [c+1] r tok rest k){i n tk ti:Nat}{lin:Int}{tl tt:Nat}{s:Shared}(hd:L.text.cps.toList.drop i=(c+1)::r)(cQ:L.text.length<=100000)
  (I:aa B.f s (c8 (PB b w) L X (i:Int) ti lin tl tt) (n+200) tk) :
  codeAny (Mo PW (WB b w)) A (cS X.F X.it) (GX b w B L ((c8 (PB b w) L X (i:Int) ti lin tl tt).map (·.1)) s tok rest (lin+(k:Int))) s:=by
 obtain⟨h1,h2⟩:=bS hd
 have h10:c+1≠10:=λe=>hws (by rw[e];decide)
 have hlen:((c+1)::r).length<=L.text.length:=by rw[<-hd,Of];simp only[Str.length,OB];lia
 refine aF bI ?_
 refine rx (hB:=B.ext) (ax _) hA.depth hA.units hA.handled (vQ b w L X n tk (i:Int) ti lin tl tt c) (fc ⟨bP h1 hl,fc ⟨aW (c:=10) rfl (by simp[h10]),fc ⟨cF rfl,fc ⟨c9 (by simpa using hws),fc ⟨aW (c:=34) rfl (by simp[h34]),fc ⟨aW (c:=92) rfl (by simp[h92]),fc ⟨c7 rfl,N3 _⟩⟩⟩⟩⟩⟩⟩) nM I λs1 I1 k1=>?_
 have hA':=hA.up hlv (pB b w L X n tk (i:Int) ti lin tl tt c) (pE b w L X n tk (i:Int) ti lin tl tt c)
 have I1':aa B.f s1 (b0 (PB b w) L {X with k4:=tk+17} ((i+1:Nat):Int) (tk+13) lin tl ⟨[c+1].toArray⟩ (tk+8) (one c) (tk+8)) (n+3+200) (tk+22):=I1
 refine codeAny_mono (iE (X:={X with k4:=tk+17}) hl hA' hin h2 (by simp) (by simp only[NV,Ow]at hlen ⊢;show _<=2^24;lia) I1') ?_
 rintro r2 s2 ⟨i',ti',tl',n',tk',tt',rfl,a2,a3,a5,a4⟩
 refine iA (hB:=B.ext) (ax _) hA.depth hA.units hA.handled (rA b w L X n tk (i:Int) ti lin tl tt c ⟨tok.toArray⟩ tt' n' tk') nM nM (a2.pick []) λs3 I3 k3=>?_
 exact λ_ _ _=>⟨i',ti',tl',n',tk',tt',rfl,a2.carry k3 I3 (λ_ _ h=>nomatch h),a3,a5,(k1.trans a4).trans ⟨λb o h _=>k3.old b o h (λh=>nomatch h),k3.size,k3.gens,k3.drawn,k3.os⟩⟩
theorem pF (b:Bool)(w:World)(L:Lx)(X:Fx)(n tk:Nat)(i:Int)(ti:Nat)(lin:Int)(tl tt:Nat)(ch:Str)(tc v:Nat):ci (bH (jj b w L X n tk i ti lin tl tt ch tc v)) 7=true:=by apply bq1 b;kernel_rfl
theorem pG (b:Bool)(w:World)(L:Lx)(X:Fx)(n tk:Nat)(i:Int)(ti:Nat)(lin:Int)(tl tt:Nat)(ch:Str)(tc v:Nat):cr (bH (jj b w L X n tk i ti lin tl tt ch tc v)) 7=true:=by apply bq1 b;kernel_rfl
theorem rJ (hl:2<=L.text.length){lv:Nat}(hA:ad lv A)(hlv:lv<=14){c:Nat}{r tok rest:List Nat}{k:Nat}(hws:c+1∉iC.cps.toList)(h92:c+1≠92)(h34:c+1≠34)(hin:uj [c+1] r tok rest k){i n tk ti:Nat}{lin:Int}{tl tt:Nat}{ch:Str}{tc:Nat}{s:Shared}(hd:L.text.cps.toList.drop i=(c+1)::r)(cQ:L.text.length<=100000)
  (I:aa B.f s (b0 (PB b w) L X (i:Int) ti lin tl (Rf "") tt ch tc) (n+200) tk) :
  codeAny (Mo PW (WB b w)) A (cS X.F X.it) (GX b w B L ((b0 (PB b w) L X (i:Int) ti lin tl (Rf "") tt ch tc).map (·.1)) s tok rest (lin+(k:Int))) s:=by
 obtain⟨h1,h2⟩:=bS hd
 have h10:c+1≠10:=λe=>hws (by rw[e];decide)
 have hlen:((c+1)::r).length<=L.text.length:=by rw[<-hd,Of];simp only[Str.length,OB];lia
 refine aF bI ?_
 refine rx (hB:=B.ext) (ax _) hA.depth hA.units hA.handled (vR b w L X n tk (i:Int) ti lin tl tt ch tc c) (fc ⟨bP h1 hl,fc ⟨aW (c:=10) rfl (by simp[h10]),fc ⟨cF rfl,fc ⟨c9 (by simpa using hws),fc ⟨aW (c:=34) rfl (by simp[h34]),fc ⟨aW (c:=92) rfl (by simp[h92]),fc ⟨c7 rfl,N3 _⟩⟩⟩⟩⟩⟩⟩) nM I λs1 I1 k1=>?_
 have hA':=hA.up hlv (pF b w L X n tk (i:Int) ti lin tl tt ch tc c) (pG b w L X n tk (i:Int) ti lin tl tt ch tc c)
 have I1':aa B.f s1 (b0 (PB b w) L X ((i+1:Nat):Int) (tk+13) lin tl ⟨[c+1].toArray⟩ (tk+8) (one c) (tk+8)) (n+3+200) (tk+22):=I1
 refine codeAny_mono (iE (X:=X) hl hA' hin h2 (by simp) (by simp only[NV,Ow]at hlen ⊢;show _<=2^24;lia) I1') ?_
 rintro r2 s2 ⟨i',ti',tl',n',tk',tt',rfl,a2,a3,a5,a4⟩
 refine iA (hB:=B.ext) (ax _) hA.depth hA.units hA.handled (rB b w L X n tk (i:Int) ti lin tl tt ch tc c ⟨tok.toArray⟩ tt' n' tk') nM nM (a2.pick []) λs3 I3 k3=>?_
 exact λ_ _ _=>⟨i',ti',tl',n',tk',tt',rfl,a2.carry k3 I3 (λ_ _ h=>nomatch h),a3,a5,(k1.trans a4).trans ⟨λb o h _=>k3.old b o h (λh=>nomatch h),k3.size,k3.gens,k3.drawn,k3.os⟩⟩
theorem pH (b:Bool)(w:World)(L:Lx)(X:Fx)(n tk:Nat)(i:Int)(ti:Nat)(lin:Int)(tl tt v:Nat)(u:Nat):ci (bH (jk b w L X n tk i ti lin tl tt v u)) 7=true:=by apply bq1 b;kernel_rfl
theorem pJ (b:Bool)(w:World)(L:Lx)(X:Fx)(n tk:Nat)(i:Int)(ti:Nat)(lin:Int)(tl tt v:Nat)(u:Nat):cr (bH (jk b w L X n tk i ti lin tl tt v u)) 7=true:=by apply bq1 b;kernel_rfl
theorem rK (hl:2<=L.text.length){lv:Nat}(hA:ad lv A)(hlv:lv<=14){d:Nat}{r tok rest:List Nat}{k:Nat}(hd10:d+1≠10)(hin:uj [d+1] r tok rest k){i n tk ti:Nat}{lin:Int}{tl tt:Nat}{s:Shared}(hd:L.text.cps.toList.drop i=92::(d+1)::r)(cQ:L.text.length<=100000)
  (I:aa B.f s (c8 (PB b w) L X (i:Int) ti lin tl tt) (n+200) tk) :
  codeAny (Mo PW (WB b w)) A (cS X.F X.it) (GX b w B L ((c8 (PB b w) L X (i:Int) ti lin tl tt).map (·.1)) s tok rest (lin+(k:Int))) s:=by
 obtain⟨h1,h2⟩:=bS hd
 obtain⟨h3,h4⟩:=bS h2
 have hlen:(92::(d+1)::r).length<=L.text.length:=by rw[<-hd,Of];simp only[Str.length,OB];lia
 refine aF bI ?_
 refine rx (hB:=B.ext) (ax _) hA.depth hA.units hA.handled (vT b w L X n tk (i:Int) ti lin tl tt 91 d) (fc ⟨bP h1 hl,fc ⟨aW (c:=10) rfl rfl,fc ⟨cF rfl,fc ⟨c9 (by decide),fc ⟨aW (c:=34) rfl rfl,fc ⟨aW (c:=92) rfl rfl,fc ⟨bP (i:=i+1) h3 hl,fc ⟨aW (c:=10) rfl (by simp[hd10]),fc ⟨c7 rfl,N3 _⟩⟩⟩⟩⟩⟩⟩⟩⟩) nM I λs1 I1 k1=>?_
 have hA':=hA.up hlv (pH b w L X n tk (i:Int) ti lin tl tt 91 d) (pJ b w L X n tk (i:Int) ti lin tl tt 91 d)
 have I1':aa B.f s1 (b0 (PB b w) L {X with k4:=tk+17} ((i+1+1:Nat):Int) (tk+34) lin tl ⟨[d+1].toArray⟩ (tk+29) (one d) (tk+29)) (n+6+200) (tk+40):=I1
 refine codeAny_mono (iE (X:={X with k4:=tk+17}) hl hA' hin h4 (by simp) (by simp only[NV,Ow]at hlen ⊢;show _<=2^24;lia) I1') ?_
 rintro r2 s2 ⟨i',ti',tl',n',tk',tt',rfl,a2,a3,a5,a4⟩
 refine iA (hB:=B.ext) (ax _) hA.depth hA.units hA.handled (rC b w L X n tk (i:Int) ti lin tl tt 91 d ⟨tok.toArray⟩ tt' n' tk') nM nM (a2.pick []) λs3 I3 k3=>?_
 exact λ_ _ _=>⟨i',ti',tl',n',tk',tt',rfl,a2.carry k3 I3 (λ_ _ h=>nomatch h),a3,a5,(k1.trans a4).trans ⟨λb o h _=>k3.old b o h (λh=>nomatch h),k3.size,k3.gens,k3.drawn,k3.os⟩⟩
theorem pK (b:Bool)(w:World)(L:Lx)(X:Fx)(n tk:Nat)(i:Int)(ti:Nat)(lin:Int)(tl tt:Nat)(ch:Str)(tc v:Nat)(u:Nat):ci (bH (jl b w L X n tk i ti lin tl tt ch tc v u)) 7=true:=by apply bq1 b;kernel_rfl
theorem pM (b:Bool)(w:World)(L:Lx)(X:Fx)(n tk:Nat)(i:Int)(ti:Nat)(lin:Int)(tl tt:Nat)(ch:Str)(tc v:Nat)(u:Nat):cr (bH (jl b w L X n tk i ti lin tl tt ch tc v u)) 7=true:=by apply bq1 b;kernel_rfl
theorem rL (hl:2<=L.text.length){lv:Nat}(hA:ad lv A)(hlv:lv<=14){d:Nat}{r tok rest:List Nat}{k:Nat}(hd10:d+1≠10)(hin:uj [d+1] r tok rest k){i n tk ti:Nat}{lin:Int}{tl tt:Nat}{ch:Str}{tc:Nat}{s:Shared}(hd:L.text.cps.toList.drop i=92::(d+1)::r)(cQ:L.text.length<=100000)
  (I:aa B.f s (b0 (PB b w) L X (i:Int) ti lin tl (Rf "") tt ch tc) (n+200) tk) :
  codeAny (Mo PW (WB b w)) A (cS X.F X.it) (GX b w B L ((b0 (PB b w) L X (i:Int) ti lin tl (Rf "") tt ch tc).map (·.1)) s tok rest (lin+(k:Int))) s:=by
 obtain⟨h1,h2⟩:=bS hd
 obtain⟨h3,h4⟩:=bS h2
 have hlen:(92::(d+1)::r).length<=L.text.length:=by rw[<-hd,Of];simp only[Str.length,OB];lia
 refine aF bI ?_
 refine rx (hB:=B.ext) (ax _) hA.depth hA.units hA.handled (vU b w L X n tk (i:Int) ti lin tl tt ch tc 91 d) (fc ⟨bP h1 hl,fc ⟨aW (c:=10) rfl rfl,fc ⟨cF rfl,fc ⟨c9 (by decide),fc ⟨aW (c:=34) rfl rfl,fc ⟨aW (c:=92) rfl rfl,fc ⟨bP (i:=i+1) h3 hl,fc ⟨aW (c:=10) rfl (by simp[hd10]),fc ⟨c7 rfl,N3 _⟩⟩⟩⟩⟩⟩⟩⟩⟩) nM I λs1 I1 k1=>?_
 have hA':=hA.up hlv (pK b w L X n tk (i:Int) ti lin tl tt ch tc 91 d) (pM b w L X n tk (i:Int) ti lin tl tt ch tc 91 d)
 have I1':aa B.f s1 (b0 (PB b w) L X ((i+1+1:Nat):Int) (tk+34) lin tl ⟨[d+1].toArray⟩ (tk+29) (one d) (tk+29)) (n+6+200) (tk+40):=I1
 refine codeAny_mono (iE (X:=X) hl hA' hin h4 (by simp) (by simp only[NV,Ow]at hlen ⊢;show _<=2^24;lia) I1') ?_
 rintro r2 s2 ⟨i',ti',tl',n',tk',tt',rfl,a2,a3,a5,a4⟩
 refine iA (hB:=B.ext) (ax _) hA.depth hA.units hA.handled (rD b w L X n tk (i:Int) ti lin tl tt ch tc 91 d ⟨tok.toArray⟩ tt' n' tk') nM nM (a2.pick []) λs3 I3 k3=>?_
 exact λ_ _ _=>⟨i',ti',tl',n',tk',tt',rfl,a2.carry k3 I3 (λ_ _ h=>nomatch h),a3,a5,(k1.trans a4).trans ⟨λb o h _=>k3.old b o h (λh=>nomatch h),k3.size,k3.gens,k3.drawn,k3.os⟩⟩
end
abbrev nu (F:Nat):Code:=.block hV.2.2.2 (py F)
theorem B5 (b:Bool)(w:World)(F n tk:Nat):SO b w [] [] [] ⟨aA (nu F),[(nu F,kr)],[],n+200,tk⟩
 [] ⟨.pure (.done .next),[],[],n+200,tk⟩ []:=by apply bq1 b;kernel_rfl
theorem pN (b:Bool)(w:World)(L:Lx)(X:Fx)(n tk:Nat)(i:Int)(ti:Nat)(lin:Int)(tl tt v:Nat):ci (bH (jm b w L X n tk i ti lin tl tt v)) 7=true/\cr (bH (jm b w L X n tk i ti lin tl tt v)) 7=true:=af (by apply bq1 b;kernel_rfl)
theorem pO (b:Bool)(w:World)(L:Lx)(X:Fx)(n tk:Nat)(i:Int)(ti:Nat)(lin:Int)(tl tt:Nat)(ch:Str)(tc v:Nat):ci (bH (jo b w L X n tk i ti lin tl tt ch tc v)) 7=true/\cr (bH (jo b w L X n tk i ti lin tl tt ch tc v)) 7=true:=af (by apply bq1 b;kernel_rfl)
theorem rM (b:Bool)(w:World)(L:Lx)(n tk:Nat)(i:Int)(ti:Nat)(lin:Int)(tl:Nat):ci (bH (dU b w L n tk i ti lin tl)) 7=true/\cr (bH (dU b w L n tk i ti lin tl)) 7=true:=af (by apply bq1 b;kernel_rfl)
theorem bj.weak {ads:List Addr}{s s':Shared}(k:bj [] s s'):bj ads s s':=⟨λb o h _=>k.old b o h (λh=>nomatch h),k.size,k.gens,k.drawn,k.os⟩
theorem bj.sub {ads ads':List Addr}{s s':Shared}(k:bj ads s s')(h:∀x,x∈ads->x∈ads'):bj ads' s s':=⟨λb o hb hn=>k.old b o hb (λq=>hn (h b q)),k.size,k.gens,k.drawn,k.os⟩
section
variable{b:Bool}{w:World}{B:Bx (KL (PB b w))}{A:Around}{L:Lx}{X:Fx}
theorem pP {lv:Nat}(hA:ad lv A){F n tk:Nat}{st:aK}{s:Shared}{R:Result->aP}(I:aa B.f s st (n+200) tk)
  (h:∀s',aa B.f s' st (n+200) tk->bj [] s s'->R (.ok .next) s'):codeAny (Mo PW (WB b w)) A (nu F) R s:=by
 refine dz ?_
 refine run (hB:=B.ext) (ax _) hA.depth hA.units hA.handled (B5 b w F n tk) nM nM (I.pick []) λs' I' k'=>?_
 exact λ_ _ _=>h s' (I.carry k' I' (λ_ _ h=>nomatch h)) k'
theorem uk {pre:aK}{F:Addr×Obj}{post:aK}{n n2 tk tk2 e:Nat}{pre':aK}{o:Obj}{ads:List Addr}{s1 s2:Shared}
  (I1:aa B.f s1 (pre++F::post) n tk) (I2:aa B.f s2 (pre'++[(e,o)]) n2 tk2) (k:bj ads s1 s2) (hp:pre'.map (·.1)=pre.map (·.1)) (hF:F.1∉ads) (he:n<=e) :
  aa B.f s2 ((pre'++[F])++[(e,o)]) n2 tk2:=by
 have hFh:=I1.has F (by simp)
 have nd1:=I1.nodup
 have nd2:=I2.nodup
 rw[NO,Oh]at nd1 nd2
 have hlt:F.1<n:=I1.nx▸Heap.lt_size hFh
 refine⟨λp hp'=>?_,?_,I2.base,λa x ha hm=>?_,I2.nx,I2.tok⟩
 ·simp only[NP,NK,NN]at hp'
  rcases hp' with h|rfl|rfl
  ·exact I2.has p (by simp[h])
  ·exact k.old _ _ hFh hF
  ·exact I2.has _ (by simp)
 ·rw[NO,NO,hp,NP,Oh]
  refine⟨nd1.1,?_,λa ha c hc=>?_⟩
  ·simp only[Oa,Pp,Oi,OU,Ob,NN,OX,not_false_eq_true,and_true,Q3]
   intro q;rw[q]at hlt;exact absurd he (QE.mpr hlt)
  ·simp only[Oa,Pp,Oi,OU,N0,OX,or_false]at hc
   rcases hc with hc|hc
   ·rw[hc];exact nd1.2.2 a ha F.1 (by simp)
   ·rw[hc];exact nd2.2.2 a (hp▸ha) e (by simp)
 ·simp only[NP,NO,NK,Oa,Pp,NN]at hm
  rcases hm with h|h|h
  ·exact I2.off a x ha (by simp[h])
  ·exact I1.off a x ha (by simp[h])
  ·exact I2.off a x ha (by simp[h])
inductive ul (b:Bool)(w:World)(B:Bx (KL (PB b w)))(ads:List Addr)(s:Shared)(st:Nat->aK)(r:Result)(s':Shared):Prop
 | mk (ti' n' tk':Nat) (h0:r=.ok .next) (h1:aa B.f s' (st ti') (n'+200) tk') (h2:bj ads s s')
theorem v3 (hl:2<=L.text.length){lv:Nat}(hA:ad lv A)(hlv:lv<=13){n tk ti:Nat}{lin:Int}{tl tt:Nat}{s:Shared}(I:aa B.f s (c8 (PB b w) L X (L.text.length:Int) ti lin tl tt) (n+200) tk) :
  codeAny (Mo PW (WB b w)) A (cS X.F X.it) (ul b w B ((c8 (PB b w) L X (L.text.length:Int) ti lin tl tt).map (·.1)) s (λti'=>mB (PB b w) L X (L.text.length:Int) ti' lin tl tt)) s:=by
 refine aF bI ?_
 refine rx (hB:=B.ext) (ax _) hA.depth hA.units hA.handled (vX b w L X n tk (L.text.length:Int) ti lin tl tt 0) nM nM I λs1 I1 k1=>?_
 have lg:=pN b w L X n tk (L.text.length:Int) ti lin tl tt 0
 have hA':=hA.up (by lia) lg.1 lg.2
 refine codeAny_mono (pA (X:=X) hl hA' (by lia) (I1.pick [0,0,0,0,0,0,0,0,0,0,1,0])) ?_
 rintro r2 s2 ⟨rfl,I2,k2⟩
 have nd:=I1.nodup
 have hF:(X.F+200)∉(ee (PB b w) L X (L.text.length:Int) ti lin tl).map (·.1):=by
  have e:(c8 (PB b w) L X (L.text.length:Int) ti lin tl tt).map (·.1)=(bg (PB b w) L (L.text.length:Int) ti lin tl).map (·.1)++(X.F+200)::[X.mt+200,X.it+200]:=rfl
  rw[e,Oh,Ob]at nd
  intro hm
  have e2:(ee (PB b w) L X (L.text.length:Int) ti lin tl).map (·.1)=(bg (PB b w) L (L.text.length:Int) ti lin tl).map (·.1)++[X.mt+200,X.it+200]:=rfl
  rw[e2,NK]at hm
  rcases hm with h|h
  ·exact nd.2.2 _ h _ (.head _) rfl
  ·exact nd.2.1.1 h
 have I2':=uk (pre:=bg (PB b w) L (L.text.length:Int) ti lin tl) (post:=[(X.mt+200,px 116 (L.x+200)),(X.it+200,hO (X.mt+200) X.ti)]) (pre':=bg (PB b w) L (L.text.length:Int) (tk+13) lin tl) I1 I2 k2 rfl hF (by show n+200<=n+4+200;lia)
 refine run (hB:=B.ext) (ax _) hA.depth hA.units hA.handled (vZ b w L X n tk (L.text.length:Int) ti lin tl tt 0 (L.text.length:Int) (tk+13) (n+4) (n+3+200) (n+5) (tk+17)) nM nM I2' λs3 I3 k3=>?_
 refine λ_ _ _=>⟨by rfl,pP hA I3 λs4 I4 k4=>?_⟩
 refine⟨tk+13,n+5,tk+17,rfl,I4,(bj.transNew (k1.trans (k2.sub λx hx=>?_)) k3 λx hx=>?_).trans k4.weak⟩
 ·have e2:(ee (PB b w) L X (L.text.length:Int) ti lin tl).map (·.1)=(bg (PB b w) L (L.text.length:Int) ti lin tl).map (·.1)++[X.mt+200,X.it+200]:=rfl
  rw[e2,NK]at hx
  show x∈(bg (PB b w) L (L.text.length:Int) ti lin tl).map (·.1)++(X.F+200)::[X.mt+200,X.it+200]
  rw[NK]
  exact hx.imp id (λh=>.tail _ h)
 ·have e3:((mB (PB b w) L X (L.text.length:Int) (tk+13) lin tl tt)++[(n+4+200,mE (n+3+200))]).map (·.1)=((bg (PB b w) L (L.text.length:Int) ti lin tl).map (·.1)++[X.F+200])++[n+4+200]:=rfl
  have hx':x∈((bg (PB b w) L (L.text.length:Int) ti lin tl).map (·.1)++[X.F+200])++[n+4+200]:=hx
  show x∈(bg (PB b w) L (L.text.length:Int) ti lin tl).map (·.1)++(X.F+200)::[X.mt+200,X.it+200]\/_
  rw[NK,NK]at hx'
  rcases hx' with(h|h)|h
  ·exact .inl (NK.mpr (.inl h))
  ·exact .inl (NK.mpr (.inr (by rw[NN.mp h];exact .head _)))
  ·exact .inr (by rw[I.nx,NN.mp h];lia)
theorem v4 (hl:2<=L.text.length){lv:Nat}(hA:ad lv A)(hlv:lv<=13){n tk ti:Nat}{lin:Int}{tl tt:Nat}{ch:Str}{tc:Nat}{s:Shared}(I:aa B.f s (b0 (PB b w) L X (L.text.length:Int) ti lin tl (Rf "") tt ch tc) (n+200) tk) :
  codeAny (Mo PW (WB b w)) A (cS X.F X.it) (ul b w B ((b0 (PB b w) L X (L.text.length:Int) ti lin tl (Rf "") tt ch tc).map (·.1)) s (λti'=>mC (PB b w) L X (L.text.length:Int) ti' lin tl tt ch tc)) s:=by
 refine aF bI ?_
 refine rx (hB:=B.ext) (ax _) hA.depth hA.units hA.handled (vY b w L X n tk (L.text.length:Int) ti lin tl tt ch tc 0) nM nM I λs1 I1 k1=>?_
 have lg:=pO b w L X n tk (L.text.length:Int) ti lin tl tt ch tc 0
 have hA':=hA.up (by lia) lg.1 lg.2
 refine codeAny_mono (pA (X:=X) hl hA' (by lia) (I1.pick [0,0,0,0,0,0,0,0,0,0,1,0])) ?_
 rintro r2 s2 ⟨rfl,I2,k2⟩
 have nd:=I1.nodup
 have hF:(X.F+200)∉(ee (PB b w) L X (L.text.length:Int) ti lin tl).map (·.1):=by
  have e:(b0 (PB b w) L X (L.text.length:Int) ti lin tl (Rf "") tt ch tc).map (·.1)=(bg (PB b w) L (L.text.length:Int) ti lin tl).map (·.1)++(X.F+200)::[X.mt+200,X.it+200]:=rfl
  rw[e,Oh,Ob]at nd
  intro hm
  have e2:(ee (PB b w) L X (L.text.length:Int) ti lin tl).map (·.1)=(bg (PB b w) L (L.text.length:Int) ti lin tl).map (·.1)++[X.mt+200,X.it+200]:=rfl
  rw[e2,NK]at hm
  rcases hm with h|h
  ·exact nd.2.2 _ h _ (.head _) rfl
  ·exact nd.2.1.1 h
 have I2':=uk (pre:=bg (PB b w) L (L.text.length:Int) ti lin tl) (post:=[(X.mt+200,px 116 (L.x+200)),(X.it+200,hO (X.mt+200) X.ti)]) (pre':=bg (PB b w) L (L.text.length:Int) (tk+13) lin tl) I1 I2 k2 rfl hF (by show n+200<=n+4+200;lia)
 refine run (hB:=B.ext) (ax _) hA.depth hA.units hA.handled (v0 b w L X n tk (L.text.length:Int) ti lin tl tt ch tc 0 (L.text.length:Int) (tk+13) (n+4) (n+3+200) (n+5) (tk+17)) nM nM I2' λs3 I3 k3=>?_
 refine λ_ _ _=>⟨by rfl,pP hA I3 λs4 I4 k4=>?_⟩
 refine⟨tk+13,n+5,tk+17,rfl,I4,(bj.transNew (k1.trans (k2.sub λx hx=>?_)) k3 λx hx=>?_).trans k4.weak⟩
 ·have e2:(ee (PB b w) L X (L.text.length:Int) ti lin tl).map (·.1)=(bg (PB b w) L (L.text.length:Int) ti lin tl).map (·.1)++[X.mt+200,X.it+200]:=rfl
  rw[e2,NK]at hx
  show x∈(bg (PB b w) L (L.text.length:Int) ti lin tl).map (·.1)++(X.F+200)::[X.mt+200,X.it+200]
  rw[NK]
  exact hx.imp id (λh=>.tail _ h)
 ·have e3:((mC (PB b w) L X (L.text.length:Int) (tk+13) lin tl tt ch tc)++[(n+4+200,mE (n+3+200))]).map (·.1)=((bg (PB b w) L (L.text.length:Int) ti lin tl).map (·.1)++[X.F+200])++[n+4+200]:=rfl
  have hx':x∈((bg (PB b w) L (L.text.length:Int) ti lin tl).map (·.1)++[X.F+200])++[n+4+200]:=hx
  show x∈(bg (PB b w) L (L.text.length:Int) ti lin tl).map (·.1)++(X.F+200)::[X.mt+200,X.it+200]\/_
  rw[NK,NK]at hx'
  rcases hx' with(h|h)|h
  ·exact .inl (NK.mpr (.inl h))
  ·exact .inl (NK.mpr (.inr (by rw[NN.mp h];exact .head _)))
  ·exact .inr (by rw[I.nx,NN.mp h];lia)
inductive W0:List Nat->List Nat->List Nat->Nat->Prop
 | fin:W0 [] [] [] 0
 | esc {d:Nat} {r tok rest:List Nat} {k:Nat}:d+1≠10->uj [d+1] r tok rest k->W0 (92::(d+1)::r) tok rest k
 | plain {c:Nat} {r tok rest:List Nat} {k:Nat}:c+1∉iC.cps.toList->c+1≠92->c+1≠34->uj [c+1] r tok rest k->W0 ((c+1)::r) tok rest k
inductive W1:List Nat->List Nat->List Nat->Nat->Prop
 | now {r tok rest:List Nat} {k:Nat}:W0 r tok rest k->W1 r tok rest k
 | feed {r tok rest:List Nat} {k:Nat}:W0 r tok rest k->W1 (10::r) tok rest (k+1)
theorem x9 {i:Nat}(h:L.text.cps.toList.drop i=[])(hi:i<=L.text.length):i=L.text.length:=by
 have:=List.drop_eq_nil_iff.mp h
 have e:L.text.cps.toList.length=L.text.length:=by simp[Str.length]
 lia
def JH (b:Bool)(w:World)(B:Bx (KL (PB b w)))(L:Lx)(X:Fx)(ads:List Addr)(s:Shared)(tok rest:List Nat)(lin:Int)(tt:Nat)(r:Result)(s':Shared):Prop:=
 GX b w B L ads s tok rest lin r s' \/
 (tok=[]/\rest=[]/\∃tl,(ul b w B ads s (λti'=>mB (PB b w) L X (L.text.length:Int) ti' lin tl tt) r s'\/∃k4 ch tc,ul b w B ads s (λti'=>mC (PB b w) L {X with k4:=k4} (L.text.length:Int) ti' lin tl tt ch tc) r s'))
theorem v6 (hl:2<=L.text.length)(cQ:L.text.length<=100000){lv:Nat}(hA:ad lv A)(hlv:lv<=13){rest tok rest':List Nat}{k:Nat}(hw:W0 rest tok rest' k){i n tk ti:Nat}{lin:Int}{tl tt:Nat}{ch:Str}{tc:Nat}{s:Shared}
  (hd:L.text.cps.toList.drop i=rest) (hi:i<=L.text.length) (I:aa B.f s (b0 (PB b w) L X (i:Int) ti lin tl (Rf "") tt ch tc) (n+200) tk) :
  codeAny (Mo PW (WB b w)) A (cS X.F X.it) (JH b w B L X ((b0 (PB b w) L X (i:Int) ti lin tl (Rf "") tt ch tc).map (·.1)) s tok rest' (lin+(k:Int)) tt) s:=by
 cases hw with
 | fin =>
  obtain rfl:=x9 hd hi
  refine codeAny_mono (v4 hl hA hlv I) λr s' h=>.inr (⟨rfl,rfl,tl,.inr ⟨X.k4,ch,tc,?_⟩⟩)
  rw[show lin+((0:Nat):Int)=lin from QI _];exact h
 | esc h10 hin=>exact codeAny_mono (rL hl hA (by lia) h10 hin hd cQ I) λr s' h=>.inl h
 | plain h1 h2 h3 hin=>exact codeAny_mono (rJ hl hA (by lia) h1 h2 h3 hin hd cQ I) λr s' h=>.inl h
theorem v7 (hl:2<=L.text.length)(cQ:L.text.length<=100000){lv:Nat}(hA:ad lv A)(hlv:lv<=13){rest tok rest':List Nat}{k:Nat}(hw:W1 rest tok rest' k){i n tk ti:Nat}{lin:Int}{tl tt:Nat}{s:Shared}
  (hd:L.text.cps.toList.drop i=rest) (hi:i<=L.text.length) (I:aa B.f s (c8 (PB b w) L X (i:Int) ti lin tl tt) (n+200) tk) :
  codeAny (Mo PW (WB b w)) A (cS X.F X.it) (JH b w B L X ((c8 (PB b w) L X (i:Int) ti lin tl tt).map (·.1)) s tok rest' (lin+(k:Int)) tt) s:=by
 cases hw with
 | now hw =>
  cases hw with
  | fin =>
   obtain rfl:=x9 hd hi
   refine codeAny_mono (v3 hl hA hlv I) λr s' h=>.inr (⟨rfl,rfl,tl,.inl ?_⟩)
   rw[show lin+((0:Nat):Int)=lin from QI _];exact h
  | esc h10 hin=>exact codeAny_mono (rK hl hA (by lia) h10 hin hd cQ I) λr s' h=>.inl h
  | plain h1 h2 h3 hin=>exact codeAny_mono (rI hl hA (by lia) h1 h2 h3 hin hd cQ I) λr s' h=>.inl h
 | @feed r0 _ _ k0 hw =>
  obtain⟨h1,h2⟩:=bS hd
  refine aF bI ?_
  refine run (hB:=B.ext) (ax _) hA.depth hA.units hA.handled (vP b w L X n tk (i:Int) ti lin tl tt 9) (fc ⟨bP h1 hl,fc ⟨aW (c:=10) rfl rfl,fc ⟨cF rfl,fc ⟨c9 (by decide),N3 _⟩⟩⟩⟩) nM I λs1 I1 k1=>?_
  refine λ_ _ _=>⟨by rfl,?_⟩
  have I1':aa B.f s1 (b0 (PB b w) L {X with k4:=tk+22} ((i+1:Nat):Int) (tk+13) (lin+1) (tk+19) (Rf "") tt (one 9) (tk+8)) (n+3+200) (tk+24):=I1
  refine codeAny_mono (v6 (X:={X with k4:=tk+22}) hl cQ hA hlv hw h2 (nt h1) I1') ?_
  have e:lin+1+(k0:Int)=lin+((k0+1:Nat):Int):=by lia
  rintro r2 s2 (⟨i',ti',tl',n',tk',tt',a1,a2,a3,a5,a4⟩|⟨z1,z2,tl2,(⟨ti',n',tk',a1,a2,a3⟩|⟨k4,ch,tc,ti',n',tk',a1,a2,a3⟩)⟩)
  ·exact .inl ⟨i',ti',tl',n',tk',tt',a1,e▸a2,a3,a5,k1.trans a4⟩
  ·exact .inr (⟨z1,z2,tl2,.inl ⟨ti',n',tk',a1,e▸a2,k1.trans a3⟩⟩)
  ·exact .inr (⟨z1,z2,tl2,.inr ⟨k4,ch,tc,ti',n',tk',a1,e▸a2,k1.trans a3⟩⟩)
end
section
variable{b:Bool}{w:World}{B:Bx (KL (PB b w))}{A:Around}{L:Lx}
theorem pQ (hl:2<=L.text.length)(cQ:L.text.length<=100000){lv:Nat}(hA:ad lv A)(hlv:lv<=12){rest tok rest':List Nat}{k:Nat}(hw:W1 rest tok rest' k){i n tk ti:Nat}{lin:Int}{tl:Nat}{s:Shared}
  (hd:L.text.cps.toList.drop i=rest) (hi:i<=L.text.length) (I:aa B.f s (bg (PB b w) L (i:Int) ti lin tl) (n+200) tk) :
  codeAny (Mo PW (WB b w)) A (fp L.x) (GX b w B L ((bg (PB b w) L (i:Int) ti lin tl).map (·.1)) s tok rest' (lin+(k:Int))) s:=by
 refine dz ?_
 refine pp (rn:=dU b w L n tk (i:Int) ti lin tl) rfl (hB:=B.ext) (ax _) hA.depth hA.units hA.handled (x4 b w L n tk (i:Int) ti lin tl) nM nM I λs1 I1 k1=>?_
 have lg:=rM b w L n tk (i:Int) ti lin tl
 have hA':=hA.up (by lia) lg.1 lg.2
 have I1':aa B.f s1 (c8 (PB b w) L (vO n tk) (i:Int) ti lin tl (tk+4)) (n+3+200) (tk+9):=I1
 have back:∀{ads:List Addr} {s2:Shared},ads=(c8 (PB b w) L (vO n tk) (i:Int) ti lin tl (tk+4)).map (·.1)->bj ads s1 s2->bj ((bg (PB b w) L (i:Int) ti lin tl).map (·.1)) s s2:=by
  rintro ads s2 rfl k2
  refine k1.transNew k2 λx hx=>?_
  have hx':x∈(bg (PB b w) L (i:Int) ti lin tl).map (·.1)++[n+200,n+1+200,n+2+200]:=hx
  rw[NK]at hx'
  refine hx'.imp id λh=>?_
  rw[I.nx]
  simp only[N0,OX,or_false]at h
  rcases h with h|h|h<;>(rw[h];lia)
 refine codeAny_mono (v7 (X:=vO n tk) hl cQ hA' (by lia) hw hd hi I1') ?_
 rintro r2 s2 (⟨i',ti',tl',n',tk',tt',rfl,a2,a3,a5,a4⟩|⟨z1,z2,tl2,(⟨ti',n',tk',rfl,a2,a3⟩|⟨k4,ch,tc,ti',n',tk',rfl,a2,a3⟩)⟩)
 ·refine iA (hB:=B.ext) (ax _) hA.depth hA.units hA.handled (x5 b w L n tk (i:Int) ti lin tl ⟨tok.toArray⟩ tt' n' tk') nM nM (a2.pick []) λs3 I3 k3=>?_
  exact λ_ _ _=>⟨i',ti',tl',n',tk',tt',rfl,a2.carry k3 I3 (λ_ _ h=>nomatch h),a3,a5,(back rfl a4).trans k3.weak⟩
 ·subst z1 z2
  refine iA (hB:=B.ext) (ax _) hA.depth hA.units hA.handled (vV b w L n tk (i:Int) ti lin tl (L.text.length:Int) ti' (lin+(k:Int)) tl2 (tk+4) 0 (Rf "") 0 n' tk') nM nM a2 λs3 I3 k3=>?_
  refine λ_ _ _=>⟨L.text.length,ti',tl2,n',tk',tk+4,rfl,I3,by simp[Str.length],NT _,bj.transNew (back rfl a3) k3 λx hx=>?_⟩
  have hx':x∈(bg (PB b w) L (i:Int) ti lin tl).map (·.1)++[n+200]:=hx
  rw[NK]at hx'
  refine hx'.imp id λh=>?_
  rw[I.nx,NN.mp h];exact NT _
 ·subst z1 z2
  refine iA (hB:=B.ext) (ax _) hA.depth hA.units hA.handled (vW b w L n tk (i:Int) ti lin tl (L.text.length:Int) ti' (lin+(k:Int)) tl2 (tk+4) k4 ch tc n' tk') nM nM a2 λs3 I3 k3=>?_
  refine λ_ _ _=>⟨L.text.length,ti',tl2,n',tk',tk+4,rfl,I3,by simp[Str.length],NT _,bj.transNew (back rfl a3) k3 λx hx=>?_⟩
  have hx':x∈(bg (PB b w) L (i:Int) ti lin tl).map (·.1)++[n+200]:=hx
  rw[NK]at hx'
  refine hx'.imp id λh=>?_
  rw[I.nx,NN.mp h];exact NT _
end
structure Tb where
 (c1 c2 nn tt:Nat)
abbrev eu (T:Tb):Obj:=jX [.int 66 0,.int 4 0,.ref (T.c1+200),.int 70 0,.int 13 0,.ref (T.c2+200)]
abbrev ya:Option Tb->aK
 | none=>[(156,jX [])]
 | some T=>[(156,eu T),(T.c1+200,jJ T.nn T.tt)]
noncomputable abbrev JI (n tk u:Nat)(text:Str):Lx:={c1:=n+1,c2:=n+2,at_:=n+3,cd:=n+10,rd:=n+11,st:=n+18,dst:=n+19,dx:=n+20,x:=n+21,pb:=n+23,ct:=n+200+4,cd2:=n+200+17,tx:=u,kr1:=tk+18,k1:=tk+23,k2:=tk+25,k3:=tk+28,k4:=tk+30,t3:=tk+26,nn:=n+200,tt:=tk,text:=text}
noncomputable abbrev F7 (T:Tb)(n tk u:Nat)(text:Str):Lx:={c1:=n+1,c2:=n+2,at_:=n+3,cd:=T.c1,rd:=n+5,st:=n+6,dst:=n+7,dx:=n+8,x:=n+9,pb:=n+11,ct:=n+204,cd2:=T.c2+200,tx:=u,kr1:=tk+4,k1:=tk+9,k2:=tk+11,k3:=tk+14,k4:=tk+16,t3:=tk+12,nn:=T.nn,tt:=T.tt,text:=text}
noncomputable def B6:List Op:=[.b,.b,.a,.a,.a,bf,j0,.s,.a,b7,xC,.a,.b,ac,.b,.b,.b,.a,au,fV,.b,ac,.b,.b,.b,.a,au,fV,au,au,bx,.i,bx,bx,bx,bx,.a,Ni,jV,Li,jV,.b,au,.b,.b,.i,.b,.b,.b,.b,.b,.b,.i,.b,.b,.b,.b,.b,.b,.b,.b,.b,.b,.b,.b,.b,.b,.b,.b,.b,.b,.b,.a,.a,.b,cP,.b,cP,.b,.b,.b,.b,.i,.b,.b,.a,bb,rv,bb,rv,.s,bb,cP,.b,.b,.b,.i,cP,.b,cP,.b,cP,.b,.b,.b,cP,.b,aQ,dG,aQ,bb,bb,cP,.b,.b,.b,.i,cP,.b,cP,.b,cP,.b,.b,.b,cP,.b,aQ,dG,aQ,bb,cP,.b,.b,.b,.i,cP,.b,cP,.b,cP,.b,.b,.b,cP,.b,aQ,dG,aQ,.a,bb,cP,.b,.b,.b,.i,cP,.b,cP,.b,cP,.b,.b,.b,cP,.b,aQ,dG,aQ]
noncomputable abbrev JJ (T:Tb)(n tk u:Nat)(text:Str):G:=⟨aA (gz text u),[(gz text u,kr)],[(156,eu T),(T.c1+200,jJ T.nn T.tt)],n+200,tk⟩
noncomputable abbrev GY (P:Params)(T:Tb)(L:Lx)(i:Int)(ti:Nat)(lin:Int)(tl:Nat):aK:=
 [(156,eu T),(L.cd+200,jJ L.nn L.tt),(L.c1+200,bQ (.str L.text L.tx)),(L.c2+200,bQ (.ref (L.at_+200))),(L.at_+200,dA [.int i ti]),(L.rd+200,mz (L.c1+200) (L.c2+200) (L.cd+200) L.ct),
  (L.st+200,gy (L.dst+200) L.cd2),(L.dst+200,cy [eT P "read" L.kr1 (.ref (L.rd+200))] 1),
  (L.dx+200,fW P L.k1 L.k2 L.k3 L.k4 lin tl L.t3 (L.st+200) (L.pb+200)),(L.x+200,jK (L.dx+200)),(L.pb+200,dA [])]
theorem yb (b:Bool)(w:World)(T:Tb)(n tk u:Nat)(text:Str):SO b w [0,0,1,0,0,1,0,0,0,0,1] B6 [] (JJ T n tk u text)
 [] ⟨.pure (.done (.ret (.ref (n+200+9)))),[],GY (PB b w) T (F7 T n tk u text) 0 tk 1 (tk+7),n+212,tk+17⟩ []:=by apply bq1 b;kernel_rfl
theorem MY (n k:Nat):n+200<=n+k+200:=PK (PL n k) 200
section
variable{b:Bool}{w:World}{B:Bx (KL (PB b w))}{A:Around}
inductive GZ (b:Bool)(w:World)(B:Bx (KL (PB b w)))(To:Option Tb)(ads:List Addr)(s:Shared)(text:Str)(r:Result)(s':Shared):Prop
 | mk (T:Tb) (L:Lx) (n' tk' ti tl:Nat) (h0:r=.ok (.ret (.ref (L.x+200)))) (h1:L.text=text) (h2:(∀T0,To=some T0->T=T0)) (h3:L.cd=T.c1) (h4:L.nn=T.nn) (h5:L.tt=T.tt) (h6:aa B.f s' ((156,eu T)::bg (PB b w) L 0 ti 1 tl) (n'+200) tk') (h7:bj ads s s') (h8:∀x∈((156,eu T)::bg (PB b w) L 0 ti 1 tl).map (·.1),x∈ads\/s.heap.objs.size<=x)
theorem yc {lv:Nat}(hA:ad lv A){T:Option Tb}{text:Str}{n tk u:Nat}{s:Shared}(I:aa B.f s (ya T) (n+200) tk) :
  codeAny (Mo PW (WB b w)) A (gz text u) (GZ b w B T ((ya T).map (·.1)) s text) s:=by
 refine dz ?_
 cases T with
 | none =>
  refine iA (hB:=B.ext) (ax _) hA.depth hA.units hA.handled (xU b w n tk u text) (λ_ h=>nomatch h) (λ_ h=>nomatch h) I λs1 I1 k1=>?_
  exact λ_ _ _=>⟨⟨n+10,n+17,n+200,tk⟩,JI n tk u text,n+24,tk+31,tk,tk+21,by rw[Qn n 200 21],rfl,(λ_ h=>nomatch h),rfl,rfl,rfl,(by
   have e:∀k:Nat,n+200+k=n+k+200:=λk=>Qn n 200 k
   simp only[e]at I1
   exact I1),k1,by
   rw[I.nx]
   repeat' refine fc ⟨?_,?_⟩
   all_goals first|exact .inr (MY n _)|exact .inl (.head _)|exact .inl (.tail _ (.head _))|exact .inl (.tail _ (.tail _ (.head _)))|exact λ_ h=>nomatch h⟩
 | some T =>
  refine iA (hB:=B.ext) (ax _) hA.depth hA.units hA.handled (yb b w T n tk u text) (λ_ h=>nomatch h) (λ_ h=>nomatch h) I λs1 I1 k1=>?_
  exact λ_ _ _=>⟨T,F7 T n tk u text,n+12,tk+17,tk,tk+7,by rw[Qn n 200 9],rfl,(λ_ h=>Oj.inj h),rfl,rfl,rfl,I1.perm (by
   refine .cons _ ?_
   exact(OQ (l₁:=[_,_,_])).symm),k1,by
   rw[I.nx]
   repeat' refine fc ⟨?_,?_⟩
   all_goals first|exact .inr (MY n _)|exact .inl (.head _)|exact .inl (.tail _ (.head _))|exact .inl (.tail _ (.tail _ (.head _)))|exact λ_ h=>nomatch h⟩
end
end Mine

namespace Mine
open PySem PySem.Builtin PySem.Builtin.Str
section
variable{prog:Program}{w:World}{K:Nat->Option Obj}{U:Nat}
theorem kx {id:String}{B:Builtin}{args:List Value}{o:ir}{st:aK}(hk:builtinKind id=none)(hp:plainId id=true)(hb:entryFor table id=some B)(ha:argsOk id ⟨args,[]⟩)
  (g:∀(A:Around) (R:Result->aP) (s:Shared),(∀p∈st,s.heap.get? p.1=some p.2)->(∀a o,K a=some o->s.heap.get? a=some o)->R (.ok (.ret (o.v s.toks s.heap.objs.size))) {s with heap:=pushAll s.heap o.news,toks:=s.toks+o.dt} ->
   wpAny (model prog w) A.in1 (B ⟨args,[]⟩) (λfin s'=>match fin with|.done f=>R (.ok f) s'|.again c'=>c'.quiet=true/\codeAny (model prog w) A c' R s') (λe s'=>R (.error e) s') s)
  (nf:∀x∈o.news,x.isFreed=false):ak prog w K U ⟨bc id args,o,st⟩:=by
 refine⟨nf,λA s _ hs hb'=>codeAny_call_builtin hp hb ?_⟩
 have hfin:=g A (λr s'=>r=.ok (.ret (o.v s.toks s.heap.objs.size))/\s'={s with heap:=pushAll s.heap o.news,toks:=s.toks+o.dt}) s hs hb' ⟨rfl,rfl⟩
 simp only[checkBuiltinCall,hk]
 cases hsig:Manifest.signature? id with
 | none=>exact wpAny_pure hfin
 | some sig =>
  simp only[argsOk,hsig]at ha
  have h2:Bind.checkArgs id sig ⟨args,[]⟩=pure ():=ha
  show wpAny _ A.in1 (Bind.checkArgs id sig ⟨args,[]⟩) _ _ s
  rw[h2];exact wpAny_pure hfin
theorem plain_ord {v t:Nat}:ak prog w K U ⟨bc "ord" [.str (one v) t],aI ((v+1:Nat):Int),[]⟩:=
 kx F.kind_ord F.plain_ord F.entry_ord (F.args_ord1 _) (λA R s _ _ hR=>gives_ord (v+1) t prog w A R s hR) nM
noncomputable abbrev eI (x:Value):ir:={v:=λ_ _=>x,dt:=1}
theorem cG {a:Nat}{i:Int}{t:Nat}{S:Int->Bool}{n:Nat}{r:Bool}(hS:∀s:Shared,(∀a o,K a=some o->s.heap.get? a=some o)->s.heap.SetOf (intKind prog w) a S n)(h:S i=r) :
  ak prog w K U ⟨bc "set.__contains__" [.ref a,.int i t],eI (.bool r),[]⟩:=by
 refine ag F.slot_set_contains (λs _ hb=>(hS s hb).typeIs) entry_set_contains (F.args_set_contains_2 _ _) (λA R s _ hb hR=>?_) nM
 have hkey:(intKind prog w).is i (.int i t)=true:=by simp[intKind,Value.isInt]
 unfold Builtin.«frozenset.__contains__» Builtin.Frozenset.oneOther
 simp only[List.isEmpty_nil,bind_assoc]
 unfold Builtin.Frozenset.addrOf Builtin.Frozenset.withSetAsKey setContains
 refine wpAny_bind (wpAny_pure ?_)
 try dsimp only
 refine wpAny_bind (wpAny_pure ?_)
 try dsimp only
 refine wpAny_bind (wpAny_tryCatch ?_)
 refine wpAny_holding ?_
 refine wpAny_bind ((intKind prog w).pyHash hkey ?_)
 refine wpAny_bind (wpAny_setFind_of (s:={s with toks:=s.toks+1}) hkey rfl (hS s hb) λq hq=>?_)
 refine wpAny_pure ?_
 show wpAny _ _ (ret (Value.bool q.isSome)) _ _ _
 rw[hq,h]
 exact wpAny_pure hR
theorem da {a:Nat}{i:Int}{t:Nat}{f:Int->Option Value}{r:Value}(hd:(a==sysModules)=false)(hS:∀s:Shared,(∀a o,K a=some o->s.heap.get? a=some o)->s.heap.MapOf (intKind prog w) a f)(h:(f i).getD .none=r) :
  ak prog w K U ⟨bc "dict.get" [.ref a,.int i t],eI r,[]⟩:=by
 refine ag F.slot_dict_get (λs _ hb=>by obtain⟨o,_,_,ho,hc,_⟩:=hS s hb;exact⟨o,ho,hc.1⟩) F.entry_dict_get (F.args_dict_get_2 _ _) (λA R s _ hb hR=>?_) nM
 have hkey:(intKind prog w).is i (.int i t)=true:=by simp[intKind,Value.isInt]
 refine meets_dict_get (intKind prog w) a hkey hd A R s ⟨f,hS s hb,?_⟩
 rw[h];exact hR
theorem jL {x y:Str}{t:Nat}(h:placed x (λi _=>Unicode.lowerAt x.cps i)=y.cps)(hl:y.length<=sizeLine) :
  ak prog w K U ⟨bc "str.lower" [.str x t],aS y,[]⟩:=by
 refine ag F.slot_str_lower (λs _ _=>typeIs_str s x t) F.entry_str_lower (F.args_str_lower_1 _) (λA R s _ _ hR=>gives_str_lower x t ?_ prog w A R s ?_) nM
 ·rw[h];unfold tooLong;simp only[decide_eq_false_iff_not];unfold Str.length at hl;lia
 ·rw[h];exact⟨hl,hR⟩
noncomputable def G0 (x:Str)(u:Nat)(t:Nat):Nat:=if x.length=0 then u else t
noncomputable def G1 (x:Str):Nat:=if x.length=0 then 0 else 1
noncomputable abbrev aG (z:Str)(f:Nat->Nat)(d:Nat):ir:={v:=λt _=>.str z (f t),dt:=d}
theorem gA {x y z:Str}{t u:Nat}(hz:z=x++y)(hy:y.length≠0)(hl:z.length<=sizeLine):ak prog w K U ⟨bc "str.__add__" [.str x t,.str y u],aG z (G0 x u) (G1 x),[]⟩:=by
 refine ag F.slot_str_add (λs _ _=>typeIs_str s x t) F.entry_str_add (F.args_str_add_2 _ _) (λA R s _ _ hR=>gives_str_add x y t u prog w A R s ?_) nM
 subst hz
 by_cases hx:x.length=0
 ·rw[if_pos (by simpa using hx)]
  have e:x++y=y:=by
   have:x=⟨#[]⟩:=by
    apply Str.ext';simpa[Str.length]using hx
   subst this
   apply Str.ext';rw[Str.cps_append];simp
  unfold G0 G1 at hR
  simp only[if_pos hx,e]at hR
  exact hR
 ·rw[if_neg (by simpa using hx),if_neg (by simpa using hy)]
  unfold G0 G1 at hR
  simp only[if_neg hx]at hR
  exact⟨hl,hR⟩
end
end Mine

namespace Mine
open PySem PySem.Builtin PySem.MeetsSeq
open AutoSeq1 (wpAny_loadPart')
theorem B7 (l b:Addr)(items items2:aN)(n n2:Nat)(cQ:items.size=items2.size)(e:Nat->Bool)
  (he:∀j (h1:j<items.size) (h2:j<items2.size),EqGives items[j] items2[j] (e j)) (k:Nat) :
  ∀i:Nat,items.size-i=k->Meets (Builtin.«list.__eq__.loop» ⟨[.ref l,.ref b,rawInt i,rawInt 3],[]⟩)
   (λ_ R s=>s.heap.get? l=some {cls:=.type "list",dict:=none,data:=.seq items n,slots:=#[]}/\s.heap.get? b=some {cls:=.type "list",dict:=none,data:=.seq items2 n2,slots:=#[]} /\
    R (.ok (.ret (.bool (!((Oy items.size).drop i).all e)))) s):=by
 induction k with
 | zero =>
  intro i hk prog w A R s h
  obtain⟨hp,g,d,tk,os⟩:=s;obtain⟨hl,hb,h⟩:=h
  wp_walk using wpAny_loadPart' hl,wpAny_loadPart' hb
  have hle:items.size<=i:=PA hk
  have hi1:items[((i:Nat):Int).toNat]?=none:=QP hle
  have hi2:items2[((i:Nat):Int).toNat]?=none:=QP (cQ▸hle)
  have hd:(Oy items.size).drop i=[]:=P7 (NU (OA Qu) hle)
  rw[hd]at h
  rw[hi1,hi2]
  wp_walk using wpAny_loadPart' hl,wpAny_loadPart' hb
  show R (.ok (.ret (.bool (items.size != items2.size)))) _
  rw[cQ]
  simpa using h
 | succ k ih =>
  intro i hk prog w A R s h
  obtain⟨hp,g,d,tk,os⟩:=s;obtain⟨hl,hb,h⟩:=h
  wp_walk using wpAny_loadPart' hl,wpAny_loadPart' hb
  have hlt:i<items.size:=Nat.lt_of_sub_pos (hk▸OY k)
  have hlt2:i<items2.size:=cQ▸hlt
  have hi1:items[((i:Nat):Int).toNat]?=some items[i]:=O5 hlt
  have hi2:items2[((i:Nat):Int).toNat]?=some items2[i]:=O5 hlt2
  have hd:(Oy items.size).drop i=i::(Oy items.size).drop (i+1):=by simp[OD,hlt]
  have hc:((i:Int)+1)=((i+1:Nat):Int):=by push_cast;rfl
  rw[hd,List.all_cons]at h
  rw[hi1,hi2]
  refine wpAny_bind (he i hlt hlt2 prog w _ _ _ _ ?_)
  cases hb':e i with
  | true =>
   rw[hb']at h
   wp_walk
   rw[hc]
   exact⟨plainId_quiet MeetsSeq3.plain_eq_loop _,codeAny_builtin MeetsSeq3.entry_eq_loop (by
    rw[Around.under_plainId MeetsSeq3.plain_eq_loop _]
    exact ih (i+1) (congrArg Nat.pred hk) prog w A R _ ⟨hl,hb,by simpa using h⟩)⟩
  | false =>
   rw[hb']at h
   wp_walk using wpAny_loadPart' hl,wpAny_loadPart' hb
   rw[hi1,hi2]
   wp_walk
   simpa using h
theorem mf (l b:Addr)(items items2:aN)(n n2:Nat)(cQ:items.size=items2.size)(e:Nat->Bool)
  (he:∀j (h1:j<items.size) (h2:j<items2.size),EqGives items[j] items2[j] (e j)) :
  Meets (Builtin.«list.__ne__» ⟨[.ref l,.ref b],[]⟩)
   (λ_ R s=>s.heap.get? l=some {cls:=.type "list",dict:=none,data:=.seq items n,slots:=#[]}/\s.heap.get? b=some {cls:=.type "list",dict:=none,data:=.seq items2 n2,slots:=#[]} /\
    R (.ok (.ret (.bool (!(Oy items.size).all e)))) s):=by
 intro prog w A R s h
 obtain⟨hp,g,d,tk,os⟩:=s;obtain⟨hl,hb,h⟩:=h
 have f3:=AutoSeq1.sub_list_list
 have hne:¬(items.size != items2.size)=true:=by simp[cQ]
 wp_walk using wpAny_loadPart' hl,wpAny_loadPart' hb
 exact⟨plainId_quiet MeetsSeq3.plain_eq_loop _,codeAny_builtin MeetsSeq3.entry_eq_loop (by
  rw[Around.under_plainId MeetsSeq3.plain_eq_loop _]
  exact B7 l b items items2 n n2 cQ e he _ 0 rfl prog w A R _ ⟨hl,hb,by simpa using h⟩)⟩
theorem EqGives.str (x y:Str)(t u:Tok):EqGives (.str x t) (.str y u) (x==y):=λ_ _ _ _ _ _ h=>PyProof.Rows.eqBool_str (by simpa using h)
section
variable{prog:Program}{w:World}{K:Nat->Option Obj}{U:Nat}
theorem mh {a b:Nat}{xs ys:aN}{n m:Nat}{r:Bool}(cQ:xs.size=ys.size)(e:Nat->Bool)(he:∀j (h1:j<xs.size) (h2:j<ys.size),EqGives xs[j] ys[j] (e j))(hr:(!(Oy xs.size).all e)=r) :
  ak prog w K U ⟨bc "list.__ne__" [.ref a,.ref b],aB r,[(a,ab xs n),(b,ab ys m)]⟩:=
 ag F.slot_list_ne (λs hs _=>⟨_,hs _ (.head _),rfl⟩) F.entry_list_ne (F.args_list_ne_2 _ _) (λA R s hs _ hR=>mf a b xs ys n m cQ e he prog w A R s ⟨hs _ (.head _),hs _ (.tail _ (.head _)),by rw[hr];exact hR⟩) nM
theorem mi {a b:Nat}{xs ys:aN}{n m:Nat}{r:Bool}(cQ:xs.size=ys.size)(e:Nat->Bool)(he:∀j (h1:j<xs.size) (h2:j<ys.size),EqGives xs[j] ys[j] (e j))(hr:((Oy xs.size).all e)=r) :
  ak prog w K U ⟨bc "list.__eq__" [.ref a,.ref b],aB r,[(a,ab xs n),(b,ab ys m)]⟩:=
 ag F.slot_list_eq (λs hs _=>⟨_,hs _ (.head _),rfl⟩) F.entry_list_eq (F.args_list_eq_2 _ _) (λA R s hs _ hR=>MeetsSeq3.list_eq a b xs ys n m cQ e he prog w A R s ⟨hs _ (.head _),hs _ (.tail _ (.head _)),by rw[hr];exact hR⟩) nM
theorem ky {a b:Nat}{xs ys:aN}{n m:Nat}(cQ:(xs.size != ys.size)=true) :
  ak prog w K U ⟨bc "list.__eq__" [.ref a,.ref b],aB false,[(a,ab xs n),(b,ab ys m)]⟩:=
 ag F.slot_list_eq (λs hs _=>⟨_,hs _ (.head _),rfl⟩) F.entry_list_eq (F.args_list_eq_2 _ _) (λA R s hs _ hR=>AutoSeq1.list___eq___list_list_0 a xs n b ys m cQ prog w A R s ⟨hs _ (.head _),hs _ (.tail _ (.head _)),hR⟩) nM
theorem gV {a:Nat}{xs:aN}{n:Nat}{x:Value}{r:Bool}(e:Value->Bool)(he:∀y,y∈xs->EqGives y x (e y))(hr:xs.any e=r) :
  ak prog w K U ⟨bc "list.__contains__" [.ref a,x],aB r,[(a,ab xs n)]⟩:=
 ag F.slot_list_contains (λs hs _=>⟨_,hs _ (.head _),rfl⟩) F.entry_list_contains (F.args_list_contains_2 _ _) (λA R s hs _ hR=>list_contains a xs n x e he prog w A R s ⟨hs _ (.head _),by rw[hr];exact hR⟩) nM
end
end Mine

namespace Mine
open PySem PySem.Builtin PySem.Builtin.Str
section
variable{prog:Program}{w:World}{K:Nat->Option Obj}{U:Nat}
theorem fq {a b:Int}{t u:Nat}{r:Bool}(h:(a != b)=r):ak prog w K U ⟨bc "int.__ne__" [.int a t,.int b u],aB r,[]⟩:=
 ag F.slot_int_ne (λs _ _=>typeIs_int s a t) F.entry_int_ne (F.args_int_ne_2 _ _) (λA R s _ _ hR=>gives_int_ne a b t u prog w A R s (by subst h;exact hR)) nM
theorem bJ {a b:Int}{t u:Nat}{r:Bool}(h:(a==b)=r):ak prog w K U ⟨bc "int.__eq__" [.int a t,.int b u],aB r,[]⟩:=
 ag F.slot_int_eq (λs _ _=>typeIs_int s a t) F.entry_int_eq (F.args_int_eq_2 _ _) (λA R s _ _ hR=>gives_int_eq a b t u prog w A R s (by subst h;exact hR)) nM
theorem cH {a b:Int}{t u:Nat}{r:Bool}(h:decide (a<b)=r):ak prog w K U ⟨bc "int.__lt__" [.int a t,.int b u],aB r,[]⟩:=
 ag F.slot_int_lt (λs _ _=>typeIs_int s a t) F.entry_int_lt (F.args_int_lt_2 _ _) (λA R s _ _ hR=>gives_int_lt a b t u prog w A R s (by subst h;exact hR)) nM
theorem cI {a b:Int}{t u:Nat}{r:Bool}(h:decide (a<=b)=r):ak prog w K U ⟨bc "int.__le__" [.int a t,.int b u],aB r,[]⟩:=
 ag F.slot_int_le (λs _ _=>typeIs_int s a t) F.entry_int_le (F.args_int_le_2 _ _) (λA R s _ _ hR=>gives_int_le a b t u prog w A R s (by subst h;exact hR)) nM
theorem cb {a b c:Int}{t u:Nat}(h:a+b=c):ak prog w K U ⟨bc "int.__add__" [.int a t,.int b u],aI c,[]⟩:=
 ag F.slot_int_add (λs _ _=>typeIs_int s a t) F.entry_int_add (F.args_int_add_2 _ _) (λA R s _ _ hR=>gives_int_add a b t u prog w A R s (by subst h;exact hR)) nM
end
end Mine

namespace Mine
open PySem PySem.Builtin
section
variable{prog:Program}{w:World}{K:Nat->Option Obj}{U:Nat}
theorem eJ {a b c:Int}{t u:Nat}(h:a-b=c):ak prog w K U ⟨bc "int.__sub__" [.int a t,.int b u],aI c,[]⟩:=
 ag F.slot_int_sub (λs _ _=>typeIs_int s a t) F.entry_int_sub (F.args_int_sub_2 _ _) (λA R s _ _ hR=>gives_int_sub a b t u prog w A R s (by subst h;exact hR)) nM
theorem cc {a b c:Int}{t u:Nat}(hb:0<b)(h:a%b=c):ak prog w K U ⟨bc "int.__mod__" [.int a t,.int b u],aI c,[]⟩:=
 ag F.slot_int_mod (λs _ _=>typeIs_int s a t) F.entry_int_mod (F.args_int_mod_2 _ _) (λA R s _ _ hR=>AutoIntG6.int___mod___int_int_1 a t b u (by simp;lia) prog w A R s (by rw[Int.fmod_eq_emod_of_nonneg _ (Int.le_of_lt hb),h];exact hR)) nM
theorem rN {a b:Int}(hb:0<b)(h:b<2^64):¬divisionGoesByPylong a b=true:=by
 have h1:b.natAbs.log2<64:=(Nat.log2_lt (Int.natAbs_ne_zero.mpr (Int.ne_of_gt hb))).mpr (by lia)
 have h0:(b==0)=false:=beq_false_of_ne (Int.ne_of_gt hb)
 unfold divisionGoesByPylong
 simp only[h0,Pi,if_false]
 have h2:b.natAbs.log2 / 30<=2:=PC (Nat.div_lt_of_lt_mul (Os h1 (by decide)))
 have h3:decide (b.natAbs.log2 / 30+1>300)=false:=decide_eq_false (Q6.mpr (NU (PM h2) (by decide)))
 rw[h3]
 simp
theorem cu {a b c:Int}{t u:Nat}(hb:0<b)(hs:b<2^64)(h:a / b=c):ak prog w K U ⟨bc "int.__floordiv__" [.int a t,.int b u],aI c,[]⟩:=
 ag F.slot_int_floordiv (λs _ _=>typeIs_int s a t) F.entry_int_floordiv (F.args_int_floordiv_2 _ _) (λA R s _ _ hR=>AutoIntG4.int___floordiv___int_int_1 a t b u (by simp;lia) (rN hb hs) prog w A R s (by rw[Int.fdiv_eq_ediv_of_nonneg _ (Int.le_of_lt hb),h];exact hR)) nM
theorem kz {n:Nat}{t u:Nat}(hn:n<=60):ak prog w K U ⟨bc "int.__pow__" [.int 2 t,.int (n:Int) u],aI (2^n),[]⟩:=by
 refine ag F.slot_int_pow (λs _ _=>typeIs_int s 2 t) F.entry_int_pow (F.args_int_pow_2 _ _) (λA R s _ _ hR=>?_) nM
 rcases Nat.eq_zero_or_pos n with h0|h0
 ·subst h0
  exact AutoIntG9.int___pow___int_int_0 2 t 0 u (by decide) (by decide) prog w A R s hR
 ·refine AutoIntG2.int___pow___int_int_4 2 t (n:Int) u (by lia) (by simp;lia) (by decide) (by decide) ?_ prog w A R s ?_
  ·have e:(((Int.intBits 2:Nat):Int)*(n:Int))=2*(n:Int):=by rw[show Int.intBits 2=2 from rfl];rfl
   rw[e]
   show ¬decide _=true
   have hb:120<=bitsLine:=by decide +kernel
   simp
   lia
  ·rw[O8];exact hR
theorem eU {a b:Nat}{xs:aN}{n:Nat}{vl vu:Value}{lo hi:Option Int}(pl:IsPart vl lo)(pu:IsPart vu hi)(cQ:xs.size<=sizeLine) :
  ak prog w K U ⟨bc "list.__getitem__" [.ref a,.ref b],aR (ab (slicePick xs lo hi none) 0),[(a,ab xs n),(b,bq vl vu .none)]⟩:=by
 refine ag slot_list_getitem (λs hs _=>⟨_,hs _ (.head _),rfl⟩) entry_list_getitem (args_list_getitem _ _) (λA R s hs _ hR=>?_) (λ_ h=>by rw[NN.mp h];rfl)
 have ho:=hs _ (.head _)
 have hos:=hs _ (.tail _ (.head _))
 have hTs:s.TypeIs (.ref b) "slice":=⟨_,hos,rfl⟩
 show wpAny _ _ (Builtin.List.listSubscript? (.ref b) >>= _) _ _ s
 refine wpAny_bind ?_
 ·unfold Builtin.List.listSubscript?
  refine wpAny_bind (wpAny_specialOf hTs slice_no_index ?_)
  simp only[Option.isNone_none,if_true]
  refine wpAny_pure ?_
  show wpAny _ _ (typeOf (.ref b) >>= _) _ _ s
  refine wpAny_bind (wpAny_typeOf hTs ?_)
  rw[if_neg (by decide)]
  rw[listSliceParts_eq]
  have hstep:¬((rawPart none==rawInt 0)=true):=Pr
  refine wpAny_bind (wpAny_bind (wpAny_field hos rfl (x:=.none) rfl (wpAny_bind (wpAny_listPart .none ?_))))
  rw[if_neg hstep]
  refine wpAny_bind (wpAny_field hos rfl (x:=vl) rfl (wpAny_bind (wpAny_listPart pl ?_)))
  refine wpAny_bind (wpAny_field hos rfl (x:=vu) rfl (wpAny_bind (wpAny_listPart pu (wpAny_pure ?_))))
  refine wpAny_bind (m:=Builtin.List.listItems (.ref a)) ?_
  ·unfold Builtin.List.listItems
   refine wpAny_bind (wpAny_seqItems ho rfl (wpAny_pure ?_))
   refine wpAny_bind (wpAny_of_eq (sliceIndices_raw lo hi none xs.size (by simp)) ?_)
   refine wpAny_bind (wpAny_newObj_type (wpAny_pure (by exact hR)) (NU (slicePick_size_le xs lo hi none) cQ))
end
section
variable{prog:Program}{w:World}{A:Around}
end
end Mine

namespace Mine
open PySem PySem.Builtin PySem.MeetsSeq
noncomputable def aO (ps:List (Nat×Nat)):aN:=(ps.map λp=>Value.int (p.1:Int) p.2).toArray
noncomputable abbrev dh (ps:List (Nat×Nat)):List Nat:=ps.map (·.1)
theorem eV (ps:List (Nat×Nat)):(aO ps).size=ps.length:=by simp[aO]
end Mine

namespace Mine
open PySem PySem.Builtin PySem.Builtin.Str
noncomputable def aZ (ps:List (Str×Tok)):List Nat:=(ps.map (·.1.cps.toList)).flatten
theorem jp (ps:List (Str×Tok))(p:Str×Tok):aZ (ps++[p])=aZ ps++p.1.cps.toList:=by simp[aZ]
theorem rP (rest:List Str):∀acc:Array Nat,(rest.foldl (λacc p=>acc++(Rf "").cps++p.cps) acc).toList=acc.toList++(rest.map (·.cps.toList)).flatten:=by
 induction rest with
 | nil=>intro acc;simp
 | cons p r ih =>
  intro acc
  rw[O1,ih]
  have:(Rf "").cps=#[]:=by rfl
  simp[this]
theorem rQ (ps:List (Str×Tok)):(glued (Rf "") (ps.map (·.1))).cps.toList=aZ ps:=by
 cases ps with
 | nil=>rfl
 | cons p r =>
  unfold glued aZ
  show(List.foldl (λacc p=>acc++(Rf "").cps++p.cps) p.1.cps (r.map (·.1))).toList=_
  rw[rP,OL]
  rfl
theorem yh (l:List Str):∀k:Nat,l.toArray.foldl (λa x=>a+x.length+(Rf "").length) k=k+((l.map (·.cps.toList)).flatten).length:=by
 induction l with
 | nil=>intro k;simp
 | cons p r ih =>
  intro k
  have:=ih (k+p.length+(Rf "").length)
  simp only[OC,List.foldl_toArray']at this ⊢
  rw[O1]
  rw[this]
  have h0:(Rf "").length=0:=by rfl
  rw[h0,Oa,Ox,NR]
  have h1:p.cps.toList.length=p.length:=by simp[Str.length]
  rw[h1];lia
noncomputable def d8 (ps:List (Str×Tok))(t:Nat):Nat:=match ps with|[p]=>p.2|_=>t
noncomputable def ev (ps:List (Str×Tok)):Nat:=match ps with|[_]=>0|_=>1
section
variable{prog:Program}{w:World}{K:Nat->Option Obj}{U:Nat}
theorem um {A:Around}{R:Result->aP}{s:Shared}{t a:Nat}{ps:List (Str×Tok)}(hl:s.heap.IsList a (strValues ps).toArray)(cQ:(aZ ps).length<=sizeLine)
  (hR:R (.ok (.ret (.str ⟨(aZ ps).toArray⟩ (d8 ps s.toks)))) {s with toks:=s.toks+ev ps}) :
  wpAny (model prog w) A.in1 («str.join» ⟨[.str (Rf "") t,.ref a],[]⟩) (λfin s'=>match fin with|.done f=>R (.ok f) s'|.again c'=>c'.quiet=true/\codeAny (model prog w) A c' R s') (λe s'=>R (.error e) s') s:=by
 refine meets_str_join_list (Rf "") t a ps ?_ prog w A R s ⟨hl,?_⟩
 ·rw[yh]
  unfold tooLong
  have:((ps.map (·.1)).map (·.cps.toList)).flatten=aZ ps:=by rw[OL];rfl
  rw[this]
  simp only[decide_eq_false_iff_not];lia
 ·have g:(⟨(aZ ps).toArray⟩:Str)=glued (Rf "") (ps.map (·.1)):=by
   apply Str.ext'
   rw[<-rQ]
  have hlen:(glued (Rf "") (ps.map (·.1))).length<=sizeLine:=by
   rw[<-g];simpa[Str.length]using cQ
  rcases ps with _|⟨p,_|⟨q,r⟩⟩
  ·rw[g]at hR;exact⟨hlen,hR⟩
  ·have e:(⟨(aZ [p]).toArray⟩:Str)=p.1:=by apply Str.ext';simp[aZ]
   rw[e]at hR;exact hR
  ·rw[g]at hR;exact⟨hlen,hR⟩
theorem dW {t a e:Nat}{ps:List (Str×Tok)}(cQ:(aZ ps).length<=sizeLine) :
  ak prog w K U ⟨bc "str.join" [.str (Rf "") t,.ref a],aG ⟨(aZ ps).toArray⟩ (d8 ps) (ev ps),[(a,⟨.type "list",none,.seq (strValues ps).toArray e,#[]⟩)]⟩:=
 ag F.slot_str_join (λs _ _=>typeIs_str s _ t) F.entry_str_join (F.args_str_join_2 _ _) (λA R s hs _ hR=>um ⟨_,hs _ (.head _),rfl,_,rfl⟩ cQ hR) nM
end
section
variable{prog:Program}{w:World}{K:Nat->Option Obj}{U:Nat}
noncomputable abbrev rR (c n:Nat):Str:=⟨(Oe n c).toArray⟩
noncomputable def JK (n t:Nat)(u:Nat):Nat:=if n=1 then t else u
noncomputable def Lk (n:Nat):Nat:=if n=1 then 0 else 1
theorem pS (c:Nat):∀(n:Nat) (a:Array Nat),(Oe n (#[c]:Array Nat)).foldl (·++·) a=a++(Oe n c).toArray
 | 0,a=>by simp
 | n+1,a=>by
  rw[OK,O1,pS c n,OK]
  apply Array.ext'
  simp
theorem mj {c t u n:Nat}{x:Str}(hx:x=⟨#[c]⟩)(hn:n<=10^7):ak prog w K U ⟨bc "str.__mul__" [.str x t,.int (n:Int) u],aG (rR c n) (JK n t) (Lk n),[]⟩:=by
 subst hx
 refine ag F.slot_str_mul (λs _ _=>typeIs_str s _ t) F.entry_str_mul (F.args_str_mul_2 _ _) (λA R s _ _ hR=>gives_str_mul ⟨#[c]⟩ (n:Int) t u ?_ ?_ ?_ prog w A R s ?_) nM
 ·simp;lia
 ·intro h1 h2
  show ¬((1:Int)>(2^63-1) / (n:Int))
  have:(1:Int)<=(2^63-1) / (n:Int):=by
   rw[Int.le_ediv_iff_mul_le (by lia)]
   lia
  lia
 ·intro h1 h2
  show tooLong (1*n)=false
  rw[Nat.one_mul]
  unfold tooLong
  have:(10:Nat)^7<=sizeLine:=by decide +kernel
  simp
  lia
 ·rcases Nat.eq_zero_or_pos n with h0|h0
  ·subst h0
   rw[if_pos (by decide)]
   exact⟨by decide,hR⟩
  ·rw[if_neg (by lia)]
   by_cases h1:n=1
   ·subst h1
    rw[if_pos (by simp)]
    exact hR
   ·rw[if_neg (by simp[Str.length];lia)]
    have e:(⟨(Oe (n:Int).toNat (#[c]:Array Nat)).foldl (·++·) #[]⟩:Str)=rR c n:=by
     rw[pS];simp
    unfold JK Lk at hR
    simp only[if_neg h1]at hR
    show Made.post (.str _) _ _
    rw[e]
    refine⟨?_,hR⟩
    have:(10:Nat)^7<=sizeLine:=by decide +kernel
    show(Oe n c).toArray.size<=sizeLine
    simp
    lia
noncomputable def xD (x y:Str)(t u:Nat)(k:Nat):Nat:=if x.length=0 then u else if y.length=0 then t else k
noncomputable def BL (x y:Str):Nat:=if x.length=0 then 0 else if y.length=0 then 0 else 1
theorem dq {x y z:Str}{t u:Nat}(hz:z=x++y)(hl:z.length<=sizeLine):ak prog w K U ⟨bc "str.__add__" [.str x t,.str y u],aG z (xD x y t u) (BL x y),[]⟩:=by
 refine ag F.slot_str_add (λs _ _=>typeIs_str s x t) F.entry_str_add (F.args_str_add_2 _ _) (λA R s _ _ hR=>gives_str_add x y t u prog w A R s ?_) nM
 subst hz
 by_cases hx:x.length=0
 ·rw[if_pos (by simpa using hx)]
  have e:x++y=y:=by
   have:x=⟨#[]⟩:=by
    apply Str.ext';simpa[Str.length]using hx
   subst this
   apply Str.ext';rw[Str.cps_append];simp
  unfold xD BL at hR
  simp only[if_pos hx,e]at hR
  exact hR
 ·rw[if_neg (by simpa using hx)]
  by_cases hy:y.length=0
  ·rw[if_pos (by simpa using hy)]
   have e:x++y=x:=by
    have:y=⟨#[]⟩:=by
     apply Str.ext';simpa[Str.length]using hy
    subst this
    apply Str.ext';rw[Str.cps_append];simp
   unfold xD BL at hR
   simp only[if_neg hx,if_pos hy,e]at hR
   exact hR
  ·rw[if_neg (by simpa using hy)]
   unfold xD BL at hR
   simp only[if_neg hx,if_neg hy]at hR
   exact⟨hl,hR⟩
theorem jq {a n:Nat}{xs:aN}{k:Int}{t:Nat}{x:Value}(h0:0<=k)(hfit:k<2^63)(hx:xs[k.toNat]?=some x):ak prog w K U ⟨bc "list.__getitem__" [.ref a,.int k t],aV x,[(a,ab xs n)]⟩:=by
 refine ag slot_list_getitem (λs hs _=>⟨_,hs _ (.head _),rfl⟩) entry_list_getitem (args_list_getitem _ _) (λA R s hs _ hR=>?_) nM
 have ho:=hs _ (.head _)
 show wpAny _ _ (Builtin.List.listSubscript? (.int k t) >>= _) _ _ s
 refine wpAny_bind (wpAny_listSubscript_int (fitsIndex_of h0 hfit) ?_)
 clear hfit
 obtain⟨j,rfl⟩:=QJ h0
 have hx':xs[j]?=some x:=hx
 show wpAny _ _ ((seqItemAt a j >>= λr=>pure (r.map (j,·))) >>= _) _ _ s
 refine wpAny_bind (wpAny_bind (wpAny_seqItemAt ho rfl (wpAny_pure ?_)))
 rw[hx']
 first
  | exact wpAny_bind (wpAny_pure (wpAny_pure hR))
  | exact wpAny_pure hR
  | exact wpAny_bind (wpAny_pure hR)
theorem aq {a n:Nat}{xs:aN}{k t:Nat}{x:Value}(hx:xs[k]?=some x)(hk:k<2^40):ak prog w K U ⟨bc "list.__getitem__" [.ref a,.int (k:Int) t],aV x,[(a,ab xs n)]⟩:=
 jq (PY k) (by lia) hx
theorem cB {a n:Nat}{xs:aN}(hs:xs.size<2^40):ak prog w K U ⟨bc "len" [.ref a],aL (xs.size:Int),[(a,ab xs n)]⟩:=by
 refine kx kind_len plain_len entry_len (args_len1 _) (λA R s hs' _ hR=>?_) nM
 have ho:=hs' _ (.head _)
 have hT:s.TypeIs (.ref a) "list":=⟨_,ho,rfl⟩
 unfold Builtin.«len»
 refine wpAny_bind (m:=oneArg "len" _) (wpAny_pure ?_)
 refine wpAny_bind (m:=callSpecial? (.ref a) (Rf "__len__")) (wpAny_callSpecial?_slot (name:=Rf "__len__") hT slot_list_len
  (wpAny_call_entry slot_list_len hT entry_list_len ?_ (args_list_len _)))
 show wpAny _ _ (do retInt (<-seqSize a)) _ _ s
 unfold seqSize
 refine wpAny_bind (wpAny_bind (wpAny_load ho ?_))
 refine wpAny_pure (wpAny_bind (wpAny_mkInt (wpAny_pure ⟨_,rfl,?_⟩)))
 refine wpAny_bind (wpAny_holding (wpAny_pure ?_))
 refine wpAny_bind (wpAny_letGo ?_)
 show wpAny _ _ (if((xs.size:Nat):Int)<0 then _ else _) _ _ _
 rw[if_neg (by lia)]
 show wpAny _ _ (if((xs.size:Nat):Int)>=2^63 then _ else _) _ _ _
 rw[if_neg (by lia)]
 exact wpAny_bind (wpAny_mkInt (wpAny_pure hR))
end
end Mine

namespace Mine
open PySem PySem.Builtin
noncomputable def db (asc:Bool):String:=match asc with|true => "str_ascii_iterator" | false => "str_iterator"
noncomputable def dc (asc:Bool):String:=match asc with|true => "str_ascii_iterator.__next__" | false => "str_iterator.__next__"
abbrev ft (asc:Bool)(x:Str)(t:Nat)(i:Int):Obj:=⟨.type (db asc),none,.fields #[.str x t,.int i 0],#[]⟩
noncomputable def dX (it:Nat)(i:Int)(c:Nat):Sem Fin:=do setField (.ref it) 1 (rawInt (i+1));retStr ⟨#[c]⟩
noncomputable def G2 (it:Nat)(ty:String)(x:Str)(t:Nat):Sem Fin:=do
 rule s!"{ty}.__next__.end"
 setField (.ref it) 0 .none
 letGo [.str x t]
 raiseNew (<-newExc (.type "StopIteration") [])
section
variable{prog:Program}{w:World}{K:Nat->Option Obj}
theorem jM {asc:Bool}{x:Str}{t a i c:Nat}(h:x.cps.toList[i]?=some c):a9 prog w K ⟨bc (dc asc) [.ref a],dX a (i:Int) c,[(a,ft asc x t (i:Int))]⟩:=by
 intro A R s hs hb hw
 have h':x.cps[i]?=some c:=by rw[<-O4];exact h
 have ho:=hs _ (.head _)
 cases asc with
 | true =>
  rw[Around.under_plain (by rfl) (by rfl)]at hw
  refine codeAny_call_builtin F.slot_str_ascii_iterator_next.plain F.entry_str_ascii_iterator_next (F.slot_str_ascii_iterator_next.check _ _ _ _ _ _ _ _ ⟨_,ho,rfl⟩ (F.args_str_ascii_iterator_next_1 _) ?_)
  refine wpAny_bind (m:=slotArgs "__next__" 0 ⟨[.ref a],[]⟩) (wpAny_pure ?_)
  refine wpAny_bind (wpAny_field ho rfl (x:=.str x t) rfl ?_)
  refine wpAny_bind (m:=asStr? (.str x t)) (wpAny_pure ?_)
  refine wpAny_bind (wpAny_field ho rfl (x:=.int i 0) rfl ?_)
  simp only[O8,h']
  exact hw
 | false =>
  rw[Around.under_plain (by rfl) (by rfl)]at hw
  refine codeAny_call_builtin F.slot_str_iterator_next.plain F.entry_str_iterator_next (F.slot_str_iterator_next.check _ _ _ _ _ _ _ _ ⟨_,ho,rfl⟩ (F.args_str_iterator_next_1 _) ?_)
  refine wpAny_bind (m:=slotArgs "__next__" 0 ⟨[.ref a],[]⟩) (wpAny_pure ?_)
  refine wpAny_bind (wpAny_field ho rfl (x:=.str x t) rfl ?_)
  refine wpAny_bind (m:=asStr? (.str x t)) (wpAny_pure ?_)
  refine wpAny_bind (wpAny_field ho rfl (x:=.int i 0) rfl ?_)
  simp only[O8,h']
  exact hw
theorem rT {asc:Bool}{x:Str}{t a i:Nat}(h:x.cps.toList[i]?=none):a9 prog w K ⟨bc (dc asc) [.ref a],G2 a (db asc) x t,[(a,ft asc x t (i:Int))]⟩:=by
 intro A R s hs hb hw
 have h':x.cps[i]?=none:=by rw[<-O4];exact h
 have ho:=hs _ (.head _)
 cases asc with
 | true =>
  rw[Around.under_plain (by rfl) (by rfl)]at hw
  refine codeAny_call_builtin F.slot_str_ascii_iterator_next.plain F.entry_str_ascii_iterator_next (F.slot_str_ascii_iterator_next.check _ _ _ _ _ _ _ _ ⟨_,ho,rfl⟩ (F.args_str_ascii_iterator_next_1 _) ?_)
  refine wpAny_bind (m:=slotArgs "__next__" 0 ⟨[.ref a],[]⟩) (wpAny_pure ?_)
  refine wpAny_bind (wpAny_field ho rfl (x:=.str x t) rfl ?_)
  refine wpAny_bind (m:=asStr? (.str x t)) (wpAny_pure ?_)
  refine wpAny_bind (wpAny_field ho rfl (x:=.int i 0) rfl ?_)
  simp only[O8,h']
  exact hw
 | false =>
  rw[Around.under_plain (by rfl) (by rfl)]at hw
  refine codeAny_call_builtin F.slot_str_iterator_next.plain F.entry_str_iterator_next (F.slot_str_iterator_next.check _ _ _ _ _ _ _ _ ⟨_,ho,rfl⟩ (F.args_str_iterator_next_1 _) ?_)
  refine wpAny_bind (m:=slotArgs "__next__" 0 ⟨[.ref a],[]⟩) (wpAny_pure ?_)
  refine wpAny_bind (wpAny_field ho rfl (x:=.str x t) rfl ?_)
  refine wpAny_bind (m:=asStr? (.str x t)) (wpAny_pure ?_)
  refine wpAny_bind (wpAny_field ho rfl (x:=.int i 0) rfl ?_)
  simp only[O8,h']
  exact hw
theorem rU {U:Nat}{asc:Bool}{x:Str}{t:Nat}(h:x.cps.all (·<128)=asc):ak prog w K U ⟨bc "str.__iter__" [.str x t],{v:=λ_ nx=>.ref nx,news:=[ft asc x t 0]},[]⟩:=by
 refine ag F.slot_str_iter (λs _ _=>typeIs_str s x t) F.entry_str_iter (F.args_str_iter_1 _) (λA R s _ _ hR=>?_) (λ_ h=>by rw[NN.mp h];rfl)
 show wpAny _ _ (do ret (<-newFields (if(true&&x.cps.all (·<128))=true then "str_ascii_iterator" else "str_iterator") [.str x t,rawInt 0])) _ _ s
 rw[h]
 cases asc with
 | true=>exact wpAny_bind (wpAny_newObj_type (wpAny_pure hR))
 | false=>exact wpAny_bind (wpAny_newObj_type (wpAny_pure hR))
end
noncomputable def iF (it:Nat)(i left step:Int):Sem Fin:=do setField (.ref it) 0 (rawInt (i+step));setField (.ref it) 1 (rawInt (left-1));retInt i
noncomputable def nv:Sem Fin:=do rule "range_iterator.__next__.end";SmallTypes.stopIteration
noncomputable def bW (it:Nat)(i:Int)(x:Value):Sem Fin:=do setField (.ref it) 1 (rawInt (i+1));ret x
noncomputable def dr (it:Nat):Sem Fin:=do rule "list_iterator.__next__.end";setField (.ref it) 0 .none;SmallTypes.stopIteration
theorem rV {α β:Type}(e:Value)(f:α->Sem β):((raiseNew e:Sem α) >>= f)=(raiseNew e:Sem β):=by
 unfold raiseNew
 rw[bind_assoc]
 congr 1
 funext h
 cases e<;>cases h<;>try rfl
 rename_i a h
 dsimp only
 by_cases q:(h != Value.ref a)=true
 ·simp only[q,if_true,bind_assoc];rfl
 ·simp only[q];rfl
theorem v8 {α β:Type}(f:α->Sem β):((SmallTypes.stopIteration:Sem α) >>= f)=(SmallTypes.stopIteration:Sem β):=by
 unfold SmallTypes.stopIteration
 rw[bind_assoc]
 congr 1
 funext e
 exact rV e f
section
variable{prog:Program}{w:World}{K:Nat->Option Obj}
theorem dd {a:Nat}{i left step:Int}(h:0<left):a9 prog w K ⟨bc "range_iterator.__next__" [.ref a],iF a i left step,[(a,bL i left step)]⟩:=by
 intro A R s hs hb hw
 have ho:=hs _ (.head _)
 rw[Around.under_plain (by rfl) (by rfl)]at hw
 refine codeAny_call_builtin F.slot_range_iterator_next.plain F.entry_range_iterator_next (F.slot_range_iterator_next.check _ _ _ _ _ _ _ _ ⟨_,ho,rfl⟩ (F.args_range_iterator_next_1 _) ?_)
 refine wpAny_bind (m:=slotArgs "__next__" 0 ⟨[.ref a],[]⟩) (wpAny_pure ?_)
 refine wpAny_bind (wpAny_field ho rfl (x:=.int i 0) rfl ?_)
 refine wpAny_bind (wpAny_field ho rfl (x:=.int left 0) rfl ?_)
 refine wpAny_bind (wpAny_field ho rfl (x:=.int step 0) rfl ?_)
 have h':¬left<=0:=by lia
 simp only[if_neg h']
 exact hw
theorem dB {a:Nat}{i left step:Int}(h:left<=0):a9 prog w K ⟨bc "range_iterator.__next__" [.ref a],nv,[(a,bL i left step)]⟩:=by
 intro A R s hs hb hw
 have ho:=hs _ (.head _)
 rw[Around.under_plain (by rfl) (by rfl)]at hw
 refine codeAny_call_builtin F.slot_range_iterator_next.plain F.entry_range_iterator_next (F.slot_range_iterator_next.check _ _ _ _ _ _ _ _ ⟨_,ho,rfl⟩ (F.args_range_iterator_next_1 _) ?_)
 refine wpAny_bind (m:=slotArgs "__next__" 0 ⟨[.ref a],[]⟩) (wpAny_pure ?_)
 refine wpAny_bind (wpAny_field ho rfl (x:=.int i 0) rfl ?_)
 refine wpAny_bind (wpAny_field ho rfl (x:=.int left 0) rfl ?_)
 refine wpAny_bind (wpAny_field ho rfl (x:=.int step 0) rfl ?_)
 simp only[if_pos h]
 show wpAny _ _ (do rule "range_iterator.__next__.end";(SmallTypes.stopIteration >>= λ_=>_)) _ _ s
 rw[v8]
 exact hw
theorem aH {a l i e:Nat}{vs:aN}{x:Value}(h:vs[i]?=some x):a9 prog w K ⟨bc "list_iterator.__next__" [.ref a],bW a (i:Int) x,[(a,ba l (i:Int)),(l,⟨.type "list",none,.seq vs e,#[]⟩)]⟩:=by
 intro A R s hs hb hw
 have ho:=hs _ (.head _)
 have hl:=hs _ (.tail _ (.head _))
 rw[Around.under_plain (by rfl) (by rfl)]at hw
 refine codeAny_call_builtin slot_listiter_next.plain entry_listiter_next (slot_listiter_next.check _ _ _ _ _ _ _ _ ⟨_,ho,rfl⟩ (args_listiter_next _) ?_)
 refine wpAny_bind (m:=slotArgs "__next__" 0 ⟨[.ref a],[]⟩) (wpAny_pure ?_)
 refine wpAny_bind (wpAny_field ho rfl (x:=.ref l) rfl ?_)
 refine wpAny_bind (wpAny_field ho rfl (x:=.int i 0) rfl ?_)
 refine wpAny_bind (wpAny_seqItems hl rfl ?_)
 simp only[O8,h]
 exact hw
theorem aU {a l i e:Nat}{vs:aN}(h:vs[i]?=none):a9 prog w K ⟨bc "list_iterator.__next__" [.ref a],dr a,[(a,ba l (i:Int)),(l,⟨.type "list",none,.seq vs e,#[]⟩)]⟩:=by
 intro A R s hs hb hw
 have ho:=hs _ (.head _)
 have hl:=hs _ (.tail _ (.head _))
 rw[Around.under_plain (by rfl) (by rfl)]at hw
 refine codeAny_call_builtin slot_listiter_next.plain entry_listiter_next (slot_listiter_next.check _ _ _ _ _ _ _ _ ⟨_,ho,rfl⟩ (args_listiter_next _) ?_)
 refine wpAny_bind (m:=slotArgs "__next__" 0 ⟨[.ref a],[]⟩) (wpAny_pure ?_)
 refine wpAny_bind (wpAny_field ho rfl (x:=.ref l) rfl ?_)
 refine wpAny_bind (wpAny_field ho rfl (x:=.int i 0) rfl ?_)
 refine wpAny_bind (wpAny_seqItems hl rfl ?_)
 simp only[O8,h]
 exact hw
end
section
variable{prog:Program}{w:World}{K:Nat->Option Obj}{U:Nat}
theorem kA (c:Nat):Builtin.Range.rangeSize 0 (c:Int) 1=(c:Int):=by
 unfold Builtin.Range.rangeSize
 rw[if_pos (by decide)]
 split
 ·rename_i h
  rw[Int.ediv_one];lia
 ·lia
theorem fits {x:Int}(h0:0<=x)(h1:x<=5000):Builtin.Range.rangeFitsLong x=true:=by
 unfold Builtin.Range.rangeFitsLong
 have a1:(-(2^63):Int)<=x:=by lia
 have a2:x<2^63:=by lia
 exact(Pd _ _).mpr ⟨decide_eq_true a1,decide_eq_true a2⟩
theorem pT {c:Nat}(hc:c<=1000):Builtin.Range.small 0 (c:Int) 1=true:=by
 unfold Builtin.Range.small
 rw[kA,fits (x:=0) (by decide) (by decide),fits (x:=(c:Int)) (by lia) (by lia),fits (x:=1) (by decide) (by decide),if_pos (by decide),fits (x:=(c:Int)+(1-1)) (by lia) (by lia)]
 rw[Bool.or_true];rfl
theorem eW {r c t u v:Nat}(hc:c<=1000):ak prog w K U ⟨bc "range.__iter__" [.ref r],aR (bL 0 (c:Int) 1),[(r,⟨.type "range",none,.fields #[.int 0 t,.int (c:Int) u,.int 1 v],#[]⟩)]⟩:=by
 have hsm:=pT hc
 refine ag F.slot_range_iter (λs hs _=>⟨_,hs _ (.head _),rfl⟩) F.entry_range_iter (F.args_range_iter_1 _) (λA R s hs hb hR=>?_) (by rintro x (_|⟨_,⟨⟩⟩);rfl)
 refine AutoRange.range___iter___range_1 r 0 (c:Int) 1 t u v (by unfold Builtin.Range.small at hsm;rw[hsm];decide) prog w A R s ⟨hs _ (.head _),?_⟩
 unfold Builtin.Range.small at hsm
 simp only[hsm,if_true]
 rw[kA]
 exact hR
theorem cv {x y:Str}{t u:Nat}{r:Bool}(h:(!(x.cps.toList==y.cps.toList))=r):ak prog w K U ⟨bc "str.__ne__" [.str x t,.str y u],aB r,[]⟩:=
 ag F.slot_str_ne (λs _ _=>typeIs_str s x t) F.entry_str_ne (F.args_str_ne_2 _ _) (λA R s _ _ hR=>gives_str_ne x y t u prog w A R s (by subst h;exact hR)) nM
noncomputable def b5 (a:Nat)(x:Value):Sem Fin:=.update a none (Obj.mapSeq (·.push x)) λ_=>.pure (.done (.ret .none))
theorem aD {a e:Nat}{xs:aN}{x:Value}(hz:xs.size<=1000):a9 prog w K ⟨bc "list.append" [.ref a,x],b5 a x,[(a,ab xs e)]⟩:=by
 intro A R s hs hb hw
 have ho:=hs _ (.head _)
 rw[Around.under_plain (by rfl) (by rfl)]at hw
 have l5:2000<=sizeLine:=by decide +kernel
 refine codeAny_call_builtin slot_list_append.plain entry_list_append (slot_list_append.check _ _ _ _ _ _ _ _ ⟨_,ho,rfl⟩ (args_list_append _ _) ?_)
 show wpAny _ A.in1 (updateSeq a (·.push x) >>= λ_=>ret .none) _ _ s
 refine wpAny_bind (wpAny_updateSeq ho rfl ?_ (by lia) (by rw[QQ];lia))
 exact λΓ p hΓ=>(hw Γ p hΓ).2
end
end Mine


namespace Mine
open PySem
noncomputable abbrev ai (P:Params)(L:Lx)(i:Int)(ti:Nat)(lin:Int)(tl:Nat)(pbs:List Value)(e:Nat):aK:=
 [(L.c1+200,bQ (.str L.text L.tx)),(L.c2+200,bQ (.ref (L.at_+200))),(L.at_+200,dA [.int i ti]),(L.cd+200,jJ L.nn L.tt),(L.rd+200,mz (L.c1+200) (L.c2+200) (L.cd+200) L.ct),
  (L.st+200,gy (L.dst+200) L.cd2),(L.dst+200,cy [eT P "read" L.kr1 (.ref (L.rd+200))] 1),
  (L.dx+200,fW P L.k1 L.k2 L.k3 L.k4 lin tl L.t3 (L.st+200) (L.pb+200)),(L.x+200,jK (L.dx+200)),(L.pb+200,dA pbs e)]
noncomputable abbrev JL (P:Params)(L:Lx)(lin:Int)(tl:Nat)(pbs:List Value)(e:Nat):aK:=
 [(L.dx+200,fW P L.k1 L.k2 L.k3 L.k4 lin tl L.t3 (L.st+200) (L.pb+200)),(L.x+200,jK (L.dx+200)),(L.pb+200,dA pbs e)]
noncomputable abbrev kB (x:Nat)(v:Value):Code:=.call (.ref 130) ⟨[.ref (x+200),v],[]⟩
noncomputable def G3 (a:Nat)(y:Value):Sem Fin:=.update a none (Obj.mapSeq λxs=>xs.eraseIdxIfInBounds 0) λ_=>.pure (.done (.ret y))
section
variable{prog:Program}{w:World}{K:Nat->Option Obj}
theorem pU {a e t:Nat}{r:List Value}{y:Value}(hz:r.length<=1000):a9 prog w K ⟨bc "list.pop" [.ref a,.int 0 t],G3 a y,[(a,dA (y::r) e)]⟩:=by
 intro A R s hs hb hw
 have ho:=hs _ (.head _)
 rw[Around.under_plain (by rfl) (by rfl)]at hw
 have l5:2000<=sizeLine:=by decide +kernel
 refine codeAny_call_builtin PySem.F.slot_list_pop.plain PySem.F.entry_list_pop (PySem.F.slot_list_pop.check _ _ _ _ _ _ _ _ ⟨_,ho,rfl⟩ (PySem.F.args_list_pop_2 _ _) ?_)
 exact λΓ p hΓ=>PySem.MeetsSeq.list_pop_at a (y::r).toArray e 0 t 0 y (by decide) (by simp[seqIndex?]) (by simp) (by simp;lia) prog w A R s ⟨ho,(hw Γ p hΓ).2⟩ Γ p hΓ
theorem rW {U a e m:Nat}{vs:List Value}(h:vs.length=m):ak prog w K U ⟨bc "list.__len__" [.ref a],aI ((m:Nat):Int),[(a,dA vs e)]⟩:=by
 refine ag PySem.F.slot_list_len (λs hs _=>⟨_,hs _ (.head _),rfl⟩) PySem.F.entry_list_len (PySem.F.args_list_len_1 _) (λA R s hs _ hR=>?_) nM
 have ho:=hs _ (.head _)
 show wpAny _ _ (do retInt (<-seqSize a)) _ _ s
 unfold seqSize
 refine wpAny_bind (wpAny_bind (wpAny_load ho ?_))
 refine wpAny_pure (wpAny_bind (wpAny_mkInt (wpAny_pure ?_)))
 subst h
 exact hR
noncomputable def G4 (xs:aN)(e:Nat):Nat:=if(xs.eraseIdxIfInBounds 0).size==xs.size then e else e+1
theorem G5 (y:Value)(r:List Value)(e:Nat):ab ((y::r).toArray.eraseIdxIfInBounds 0) (G4 (y::r).toArray e)=dA r (e+1):=by
 have h:(y::r).toArray.eraseIdxIfInBounds 0=r.toArray:=by simp[QA]
 unfold G4
 rw[h,if_neg (by simp)]
noncomputable def bU (xs:aN)(x:Value)(e:Nat):Nat:=if(xs.push x).size==xs.size then e else e+1
theorem G6 (r:List Value)(x:Value)(e:Nat):ab (r.toArray.push x) (bU r.toArray x e)=dA (r++[x]) (e+1):=by
 unfold bU
 rw[if_neg (by simp)]
 simp
end
theorem yi (b:Bool)(w:World)(L:Lx)(n tk:Nat)(lin:Int)(tl:Nat)(x:Str)(t:Nat)(r:List Value)(e:Nat):SO b w [0,0,0] [.b,.b,.a,bf,j0,bf,j0,.s,bf,az,.b,.b,.b,.i,az,.b,.b,.b,az,az,.b,ac,au,au,au,au,bf,.x (b5 (L.pb+200) (.str x t)) [2],fV] [] ⟨aA (kB L.x (.str x t)),[(kB L.x (.str x t),kr)],JL (PB b w) L lin tl r e,n+200,tk⟩
 [] ⟨.pure (.done (.ret .none)),[],[(L.dx+200,fW (PB b w) L.k1 L.k2 L.k3 L.k4 lin tl L.t3 (L.st+200) (L.pb+200)),(L.x+200,jK (L.dx+200)),(L.pb+200,ab (r.toArray.push (.str x t)) (bU r.toArray (.str x t) e))],n+201,tk+3⟩ [⟨bc "list.append" [.ref (L.10+200),.str x t],b5 (L.pb+200) (.str x t),[((L.10+200),ab r.toArray e)]⟩]:=by apply bq1 b;kernel_rfl
section
variable{b:Bool}{w:World}{B:Bx (KL (PB b w))}{A:Around}{L:Lx}{X:Fx}
inductive JM (b:Bool)(w:World)(B:Bx (KL (PB b w)))(L:Lx)(x:Str)(t:Nat)(e:Nat)(r:List Value)(i:Nat)(n:Nat)(ti:Nat)(lin:Int)(tl:Nat)(s:Shared)(res:Result)(s':Shared):Prop
 | mk (n' tk':Nat) (h1:res=.ok (.ret (.str x t))) (h2:aa B.f s' (ai (PB b w) L (i:Int) ti lin tl r (e+1)) (n'+200) tk') (h3:bj [L.dx+200,L.x+200,L.pb+200] s s') (h4:n<=n'):JM b w B L x t e r i n ti lin tl s res s'
inductive F8 (b:Bool)(w:World)(B:Bx (KL (PB b w)))(L:Lx)(x:Str)(t:Nat)(e:Nat)(r:List Value)(i:Nat)(n:Nat)(ti:Nat)(lin:Int)(tl:Nat)(s:Shared)(res:Result)(s':Shared):Prop
 | mk (n' tk':Nat) (h1:res=.ok (.ret .none)) (h2:aa B.f s' (ai (PB b w) L (i:Int) ti lin tl (r++[.str x t]) (e+1)) (n'+200) tk') (h3:bj [L.dx+200,L.x+200,L.pb+200] s s') (h4:n<=n'):F8 b w B L x t e r i n ti lin tl s res s'
theorem mL {lv:Nat}(hA:ad lv A){x:Str}{t e:Nat}{r:List Value}(hr:r.length<=1000){i n tk ti:Nat}{lin:Int}{tl:Nat}{s:Shared}(I:aa B.f s (ai (PB b w) L (i:Int) ti lin tl r e) (n+200) tk) :
  codeAny (Mo PW (WB b w)) A (kB L.x (.str x t)) (F8 b w B L x t e r i n ti lin tl s) s:=by
 refine dz ?_
 have J:=I.sel [7,8,9] (by decide)
 refine iA (hB:=B.ext) (ax _) hA.depth hA.units hA.handled (yi b w L n tk lin tl x t r e) nM (fc ⟨aD (by simpa using hr),N3 _⟩) J λs1 I1 k1=>?_
 rw[G6]at I1
 have M:=aa.step [0,1,2,3,4,5,6] [7,8,9] (by decide) I I1 k1 (λx hx=>.inl hx)
 exact λ_ _ _=>⟨n+1,tk+3,rfl,M,k1,Pj n⟩
end
noncomputable abbrev jr (text:Str)(u:Nat):Code:=.call (.ref 168) ⟨[.str text u],[]⟩
noncomputable abbrev Nj (n tk u:Nat)(text:Str):G:=⟨aA (jr text u),[(jr text u,kr)],[],n+200,tk⟩
def yj:=xV (cA 15).2.1[(1:Nat)]?
abbrev JN (F:Nat):Env:={scope:=(cA 15).2.2,locals:=F+200,globals:=3,cells:=[],qual:=Rf "_law_prepared.<locals>.",func:=some 168,code:=.ref 167,frame:=some (F+200),builtins:=0}
abbrev du (F it:Nat):Code:=.forLoop yj.1 (.ref (it+200)) yj.2.2.1 yj.2.2.2 (JN F)
structure Px where
 (F it u k1 k2 k3:Nat)
 text:Str
 asc:Bool
noncomputable abbrev uo (P:Params)(X:Px)(i:Int)(kept:Str)(tt:Nat):aK:=
 [(X.F+200,bO [eT P "text" X.k1 (.str X.text X.u),eT P "kept" X.k2 (.str kept tt)] 2),(X.it+200,ft X.asc X.text X.u i)]
noncomputable abbrev iG (P:Params)(X:Px)(i:Int)(kept:Str)(tt:Nat)(sg:Str)(ts:Nat):aK:=
 [(X.F+200,bO [eT P "text" X.k1 (.str X.text X.u),eT P "kept" X.k2 (.str kept tt),eT P "sign" X.k3 (.str sg ts)] 3),(X.it+200,ft X.asc X.text X.u i)]
noncomputable abbrev G7 (P:Params)(X:Px)(n tk:Nat)(i:Int)(kept:Str)(tt:Nat):G:=⟨aA (du X.F X.it),[],uo P X i kept tt,n+200,tk⟩
noncomputable abbrev G8 (P:Params)(X:Px)(n tk:Nat)(i:Int)(kept:Str)(tt:Nat)(sg:Str)(ts:Nat):G:=⟨aA (du X.F X.it),[],iG P X i kept tt sg ts,n+200,tk⟩
section
variable(b asc:Bool)(w:World)(n tk u:Nat)(text:Str)
noncomputable def j3: Option bo:=(go aA (SB b w) (KL (PB b w)) 300 [.b,.b,.a,ac,bi,.s,ac,bi,ac,.o,az] [{v:=λ_ nx=>.ref nx,news:=[ft asc text u 0]}] (Nj n tk u text))
theorem B8: jW [0,0] (j3 b asc w n tk u text)
 [⟨bc "str.__iter__" [.str text u],{v:=λ_ nx=>.ref nx,news:=[ft asc text u 0]},[]⟩] (du n (n+1)) (uo (PB b w) {F:=n,it:=n+1,u:=u,k1:=tk,k2:=tk+2,k3:=0,text:=text,asc:=asc} 0 (Rf "") (tk+1)) (n+202) (tk+3) []:=by apply bq2 b asc;kernel_rfl
theorem v9:aY (j3 b asc w n tk u text):=af (by apply bq2 b asc;kernel_rfl)
end
theorem B9 (b asc:Bool)(w:World)(X:Px)(n tk:Nat)(i:Int)(kept:Str)(tt v:Nat):SO b w [0,0] [az,.x (dX (X.it+200) i (v+1)) [1],az,jI,ac,bi,.b,ac,.b,.i,.b,.b,.a,au,fV,.s,.b,.b,au,.o,.b,.b,.b,.o] [aI ((v+1:Nat):Int),eI (.bool true)] (G7 (PB b w) {X with asc:=asc} n tk i kept tt)
 [⟨bc "ord" [.str ({cps:=#[v+1]}) tk],aI ((v+1:Nat):Int),[]⟩,⟨bc "set.__contains__" [.ref 39,.int (((v+1):Nat):Int) (tk+3)],eI (.bool true),[]⟩] ⟨.pure (.again (du X.F X.it)),[],iG (PB b w) {X with asc:=asc,k3:=tk+1} (i+1) kept tt (one v) tk,n+201,tk+5⟩ [⟨bc (dc asc) [.ref (X.2+200)],dX (X.it+200) i (v+1),[((X.2+200),⟨.type (db asc),.none,.fields #[.str X.text X.3,.int i 0],#[]⟩)]⟩]:=by apply bq2 b asc;kernel_rfl
theorem Ca (b asc:Bool)(w:World)(X:Px)(n tk:Nat)(i:Int)(kept:Str)(tt v:Nat)(y:Str)(ty:Nat)(z:Str)(f:Nat->Nat)(d:Nat):SO b w [0,0] [az,.x (dX (X.it+200) i (v+1)) [1],az,jI,ac,bi,.b,ac,.b,.i,.b,.b,.a,au,fV,.s,.b,.b,au,.o,.b,.b,.b,.o,ac,.b,ac,.b,.i,.b,.b,.a,bf,j0,.s,.b,.b,.b,.b,.b,.b,.b,bf,.o,.o,bf,j0,bf,bf,.o,ac,bi] [aI ((v+1:Nat):Int),eI (.bool false),aI ((v+1:Nat):Int),eI (.str y ty),aG z f d] (G7 (PB b w) {X with asc:=asc} n tk i kept tt)
 [⟨bc "ord" [.str ({cps:=#[v+1]}) tk],aI ((v+1:Nat):Int),[]⟩,⟨bc "set.__contains__" [.ref 39,.int (((v+1):Nat):Int) (tk+3)],eI (.bool false),[]⟩,⟨bc "ord" [.str ({cps:=#[v+1]}) tk],aI ((v+1:Nat):Int),[]⟩,⟨bc "dict.get" [.ref 50,.int (((v+1):Nat):Int) (tk+6)],eI (.str y ty),[]⟩,⟨bc "str.__add__" [.str kept tt,.str y ty],aG z f d,[]⟩] ⟨.pure (.again (du X.F X.it)),[],iG (PB b w) {X with asc:=asc,k3:=tk+1} (i+1) z (f (tk+9)) (one v) tk,n+202,tk+9+d+1⟩ [⟨bc (dc asc) [.ref (X.2+200)],dX (X.it+200) i (v+1),[((X.2+200),⟨.type (db asc),.none,.fields #[.str X.text X.3,.int i 0],#[]⟩)]⟩]:=by apply bq2 b asc;kernel_rfl
theorem Cb (b asc:Bool)(w:World)(X:Px)(n tk:Nat)(i:Int)(kept:Str)(tt v:Nat)(y:Str)(z:Str)(f:Nat->Nat)(d:Nat):SO b w [0,0] [az,.x (dX (X.it+200) i (v+1)) [1],az,jI,ac,bi,.b,ac,.b,.i,.b,.b,.a,au,fV,.s,.b,.b,au,.o,.b,.b,.b,.o,ac,.b,ac,.b,.i,.b,.b,.a,bf,j0,.s,.b,.b,.b,.b,.b,.b,.b,bf,.o,.o,bf,j0,bf,bf,.o,.o,ac,bi] [aI ((v+1:Nat):Int),eI (.bool false),aI ((v+1:Nat):Int),eI .none,aS y,aG z f d] (G7 (PB b w) {X with asc:=asc} n tk i kept tt)
 [⟨bc "ord" [.str ({cps:=#[v+1]}) tk],aI ((v+1:Nat):Int),[]⟩,⟨bc "set.__contains__" [.ref 39,.int (((v+1):Nat):Int) (tk+3)],eI (.bool false),[]⟩,⟨bc "ord" [.str ({cps:=#[v+1]}) tk],aI ((v+1:Nat):Int),[]⟩,⟨bc "dict.get" [.ref 50,.int (((v+1):Nat):Int) (tk+6)],eI .none,[]⟩,⟨bc "str.lower" [.str ({cps:=#[v+1]}) tk],aS y,[]⟩,⟨bc "str.__add__" [.str kept tt,.str y (tk+9)],aG z f d,[]⟩] ⟨.pure (.again (du X.F X.it)),[],iG (PB b w) {X with asc:=asc,k3:=tk+1} (i+1) z (f (tk+10)) (one v) tk,n+202,tk+10+d+1⟩ [⟨bc (dc asc) [.ref (X.2+200)],dX (X.it+200) i (v+1),[((X.2+200),⟨.type (db asc),.none,.fields #[.str X.text X.3,.int i 0],#[]⟩)]⟩]:=by apply bq2 b asc;kernel_rfl
theorem Cc (b asc:Bool)(w:World)(X:Px)(n tk:Nat)(i:Int)(kept:Str)(tt:Nat)(sg:Str)(ts v:Nat):SO b w [0,0] [az,.x (dX (X.it+200) i (v+1)) [1],az,jI,ac,bi,.b,ac,.b,.i,.b,.b,.a,au,fV,.s,.b,.b,au,.o,.b,.b,.b,.o] [aI ((v+1:Nat):Int),eI (.bool true)] (G8 (PB b w) {X with asc:=asc} n tk i kept tt sg ts)
 [⟨bc "ord" [.str ({cps:=#[v+1]}) tk],aI ((v+1:Nat):Int),[]⟩,⟨bc "set.__contains__" [.ref 39,.int (((v+1):Nat):Int) (tk+3)],eI (.bool true),[]⟩] ⟨.pure (.again (du X.F X.it)),[],iG (PB b w) {X with asc:=asc} (i+1) kept tt (one v) tk,n+201,tk+5⟩ [⟨bc (dc asc) [.ref (X.2+200)],dX (X.it+200) i (v+1),[((X.2+200),⟨.type (db asc),.none,.fields #[.str X.text X.3,.int i 0],#[]⟩)]⟩]:=by apply bq2 b asc;kernel_rfl
theorem Cd (b asc:Bool)(w:World)(X:Px)(n tk:Nat)(i:Int)(kept:Str)(tt:Nat)(sg:Str)(ts v:Nat)(y:Str)(ty:Nat)(z:Str)(f:Nat->Nat)(d:Nat):SO b w [0,0] [az,.x (dX (X.it+200) i (v+1)) [1],az,jI,ac,bi,.b,ac,.b,.i,.b,.b,.a,au,fV,.s,.b,.b,au,.o,.b,.b,.b,.o,ac,.b,ac,.b,.i,.b,.b,.a,bf,j0,.s,.b,.b,.b,.b,.b,.b,.b,bf,.o,.o,bf,j0,bf,bf,.o,ac,bi] [aI ((v+1:Nat):Int),eI (.bool false),aI ((v+1:Nat):Int),eI (.str y ty),aG z f d] (G8 (PB b w) {X with asc:=asc} n tk i kept tt sg ts)
 [⟨bc "ord" [.str ({cps:=#[v+1]}) tk],aI ((v+1:Nat):Int),[]⟩,⟨bc "set.__contains__" [.ref 39,.int (((v+1):Nat):Int) (tk+3)],eI (.bool false),[]⟩,⟨bc "ord" [.str ({cps:=#[v+1]}) tk],aI ((v+1:Nat):Int),[]⟩,⟨bc "dict.get" [.ref 50,.int (((v+1):Nat):Int) (tk+6)],eI (.str y ty),[]⟩,⟨bc "str.__add__" [.str kept tt,.str y ty],aG z f d,[]⟩] ⟨.pure (.again (du X.F X.it)),[],iG (PB b w) {X with asc:=asc} (i+1) z (f (tk+9)) (one v) tk,n+202,tk+9+d+1⟩ [⟨bc (dc asc) [.ref (X.2+200)],dX (X.it+200) i (v+1),[((X.2+200),⟨.type (db asc),.none,.fields #[.str X.text X.3,.int i 0],#[]⟩)]⟩]:=by apply bq2 b asc;kernel_rfl
theorem Ce (b asc:Bool)(w:World)(X:Px)(n tk:Nat)(i:Int)(kept:Str)(tt:Nat)(sg:Str)(ts v:Nat)(y:Str)(z:Str)(f:Nat->Nat)(d:Nat):SO b w [0,0] [az,.x (dX (X.it+200) i (v+1)) [1],az,jI,ac,bi,.b,ac,.b,.i,.b,.b,.a,au,fV,.s,.b,.b,au,.o,.b,.b,.b,.o,ac,.b,ac,.b,.i,.b,.b,.a,bf,j0,.s,.b,.b,.b,.b,.b,.b,.b,bf,.o,.o,bf,j0,bf,bf,.o,.o,ac,bi] [aI ((v+1:Nat):Int),eI (.bool false),aI ((v+1:Nat):Int),eI .none,aS y,aG z f d] (G8 (PB b w) {X with asc:=asc} n tk i kept tt sg ts)
 [⟨bc "ord" [.str ({cps:=#[v+1]}) tk],aI ((v+1:Nat):Int),[]⟩,⟨bc "set.__contains__" [.ref 39,.int (((v+1):Nat):Int) (tk+3)],eI (.bool false),[]⟩,⟨bc "ord" [.str ({cps:=#[v+1]}) tk],aI ((v+1:Nat):Int),[]⟩,⟨bc "dict.get" [.ref 50,.int (((v+1):Nat):Int) (tk+6)],eI .none,[]⟩,⟨bc "str.lower" [.str ({cps:=#[v+1]}) tk],aS y,[]⟩,⟨bc "str.__add__" [.str kept tt,.str y (tk+9)],aG z f d,[]⟩] ⟨.pure (.again (du X.F X.it)),[],iG (PB b w) {X with asc:=asc} (i+1) z (f (tk+10)) (one v) tk,n+202,tk+10+d+1⟩ [⟨bc (dc asc) [.ref (X.2+200)],dX (X.it+200) i (v+1),[((X.2+200),⟨.type (db asc),.none,.fields #[.str X.text X.3,.int i 0],#[]⟩)]⟩]:=by apply bq2 b asc;kernel_rfl
theorem Cf (b asc:Bool)(w:World)(X:Px)(n tk:Nat)(i:Int)(kept:Str)(tt:Nat)(sg:Str)(ts:Nat):SO b w [0] [az,.x (G2 (X.it+200) (db asc) X.text X.u) [1],az,jI,.a,.a,bf] [] ⟨aA (du X.F X.it),[(du X.F X.it,kr)],iG (PB b w) {X with asc:=asc} i kept tt sg ts,n+200,tk⟩
 [] ⟨.pure (.done .next),[],[((X.1+200),⟨.type "frame",.none,.dict #[⟨PyData.keyHash (PB b w) (Rf "text"),.str (Rf "text") X.4,.str X.text X.3⟩,⟨PyData.keyHash (PB b w) (Rf "kept"),.str (Rf "kept") X.5,.str kept tt⟩,⟨PyData.keyHash (PB b w) (Rf "sign"),.str (Rf "sign") X.6,.str sg ts⟩] 3,#[]⟩)],n+202,tk⟩ [⟨bc (dc asc) [.ref (X.2+200)],G2 (X.it+200) (db asc) X.text X.u,[((X.2+200),⟨.type (db asc),.none,.fields #[.str X.text X.3,.int i 0],#[]⟩)]⟩]:=by apply bq2 b asc;kernel_rfl
theorem Cg (b asc:Bool)(w:World)(n tk u:Nat)(text kept sg:Str)(tt ts k3 n2 tk2:Nat):SO b w [] [ac] [] (gC (j3 b asc w n tk u text) (.ok .next) [(n+200,bO [eT (PB b w) "text" tk (.str text u),eT (PB b w) "kept" (tk+2) (.str kept tt),eT (PB b w) "sign" k3 (.str sg ts)] 3)] (n2+200) tk2)
 [] ⟨.pure (.done (.ret (.str kept tt))),[],[],n2+200,tk2⟩ []:=by apply bq2 b asc;kernel_rfl
noncomputable def yk:List (Int×Value):=[(65024,(.int 65024 300)),(65025,(.int 65025 301)),(65026,(.int 65026 302)),(65027,(.int 65027 303)),(65028,(.int 65028 304)),(65029,(.int 65029 305)),(6150,(.int 6150 286)),(65030,(.int 65030 306)),(65031,(.int 65031 307)),(65032,(.int 65032 308)),(65033,(.int 65033 309)),(6155,(.int 6155 287)),(6156,(.int 6156 288)),(6157,(.int 6157 289)),(8203,(.int 8203 290)),(8204,(.int 8204 291)),(8205,(.int 8205 292)),(65034,(.int 65034 310)),(65035,(.int 65035 311)),(65036,(.int 65036 312)),(65037,(.int 65037 313)),(65038,(.int 65038 314)),(65039,(.int 65039 315)),(173,(.int 173 284)),(847,(.int 847 285)),(8288,(.int 8288 293)),(65279,(.int 65279 294))]
def F9 (i:Int):Bool:=yk.any λe=>Value.isInt i e.2
def Ch:Array DictEntry:=(jh 351 646 j2).toArray
def JO (i:Int):Option Value:=findBy Value.isInt Ch i
noncomputable def JP (e:Int×Value):Bool:=match e.2 with|.int i _=>e.1==hashInt i|_=>false
noncomputable def JQ (e:DictEntry):Bool:=match e.key with|.int i _=>e.hash==hashInt i|_=>false
theorem JR:yk.all JP=true:=by kernel_rfl
theorem JS:Ch.toList.all JQ=true:=by kernel_rfl
theorem LL (P:Params):KL P 39=some (GS P):=by kernel_rfl
theorem LM (P:Params):KL P 50=some (GT P):=by kernel_rfl
theorem js {prog:Program}{w:World}(P:Params)(s:Shared)(hb:∀a o,KL P a=some o->s.heap.get? a=some o):s.heap.SetOf (intKind prog w) 39 F9 27:=by
 refine⟨_,yk.toArray,29,_,hb _ _ (LL P),⟨rfl,rfl,rfl⟩,rfl,?_,?_,by decide +kernel,by rfl,by rfl⟩
 ·intro e he
  have:=Pe.mp JR e he
  obtain⟨h,v⟩:=e
  cases v<;>simp[JP]at this
  rename_i i t
  exact⟨⟨i,by simp[intKind,Value.isInt],this⟩,rfl⟩
 ·intro k
  simp only[F9,List.any_eq_true]
  rfl
theorem nw {prog:Program}{w:World}(P:Params)(s:Shared)(hb:∀a o,KL P a=some o->s.heap.get? a=some o):s.heap.MapOf (intKind prog w) 50 JO:=by
 refine⟨_,Ch,650,hb _ _ (LM P),⟨rfl,rfl,rfl⟩,rfl,?_,λk=>rfl⟩
 intro e he
 have:=Pe.mp JS e (by simpa using he)
 obtain⟨h,k,v⟩:=e
 cases k<;>simp[JQ]at this
 rename_i i t
 exact⟨i,by simp[intKind,Value.isInt],this⟩
inductive jN:Nat->List Nat->Prop
 | no {c:Nat}:F9 (c:Int)=true->jN c []
 | exc {c:Nat} {y:List Nat} (ty:Nat):F9 (c:Int)=false->JO (c:Int)=some (.str ⟨y.toArray⟩ ty)->y≠[]->jN c y
 | low {c:Nat} {y:List Nat}:F9 (c:Int)=false->JO (c:Int)=none->(placed ⟨#[c]⟩ λi _=>Unicode.lowerAt #[c] i)=y.toArray->y≠[]->jN c y
inductive dI:List Nat->List Nat->Prop
 | nil:dI [] []
 | cons {c:Nat} {y r ys:List Nat}:jN (c+1) y->dI r ys->dI ((c+1)::r) (y++ys)
theorem j4 (a c:List Nat):(⟨a.toArray⟩:Str)++(⟨c.toArray⟩:Str)=⟨(a++c).toArray⟩:=by
 apply Str.ext'
 rw[Str.cps_append]
 simp
section
variable{b:Bool}{w:World}{B:Bx (KL (PB b w))}{A:Around}{X:Px}
def jO (b:Bool)(w:World)(B:Bx (KL (PB b w)))(X:Px)(ads:List Addr)(s:Shared)(y:List Nat)(r:Result)(s':Shared):Prop:=
 ∃(k3 tt:Nat) (sg:Str) (ts:Nat) (n' tk':Nat),r=.ok .next/\aa B.f s' [(X.F+200,bO [eT (PB b w) "text" X.k1 (.str X.text X.u),eT (PB b w) "kept" X.k2 (.str ⟨y.toArray⟩ tt),eT (PB b w) "sign" k3 (.str sg ts)] 3)] (n'+200) tk'/\bj ads s s'
theorem jO.back {X:Px}{ads ads':List Addr}{s s1:Shared}{y:List Nat}{r:Result}{s':Shared}(h:jO b w B X ads' s1 y r s')(k:bj ads s s1)(e:ads'=ads):jO b w B X ads s y r s':=by
 subst e
 obtain⟨k3,tt,sg,ts,n',tk',a,c,d⟩:=h
 exact⟨k3,tt,sg,ts,n',tk',a,c,k.trans d⟩
noncomputable abbrev ym (X:Px):List Addr:=[X.F+200,X.it+200]
theorem kC {d:Nat}(hA:ad d A):∀{rest ys:List Nat},dI rest ys->∀{X:Px} {i n tk tt ts:Nat} {acc:List Nat} {sg:Str} {s:Shared},X.text.cps.toList.drop i=rest->acc.length+ys.length<=sizeLine ->
  aa B.f s (iG (PB b w) X (i:Int) ⟨acc.toArray⟩ tt sg ts) (n+200) tk->codeAny (Mo PW (WB b w)) A (du X.F X.it) (jO b w B X (ym X) s (acc++ys)) s:=by
 intro rest ys h
 induction h with
 | nil =>
  intro X i n tk tt ts acc sg s hd cQ I
  refine dz ?_
  refine run (hB:=B.ext) (ax _) hA.depth hA.units hA.handled (Cf b X.asc w X n tk (i:Int) ⟨acc.toArray⟩ tt sg ts) nM ?_ I λs' I' k'=>?_
  ·refine fc ⟨rT ?_,N3 _⟩
   rw[Qv];exact List.drop_eq_nil_iff.mp hd
  ·exact λ_ _ _=>⟨X.k3,tt,sg,ts,n+2,tk,rfl,by rw[Oc];exact I',k'⟩
 | @cons c y r ys hs hr ih =>
  intro X i n tk tt ts acc sg s hd cQ I
  obtain⟨h1,h2⟩:=bS hd
  have hn:∀x:Al,x∈[(⟨bc (dc X.asc) [.ref (X.it+200)],dX (X.it+200) (i:Int) (c+1),[(X.it+200,ft X.asc X.text X.u (i:Int))]⟩:Al)]->a9 PW (WB b w) (KL (PB b w)) x:=
   fc ⟨jM h1,N3 _⟩
  refine aF bI ?_
  rw[NR]at cQ
  cases hs with
  | no h =>
   refine run (hB:=B.ext) (ax _) hA.depth hA.units hA.handled (Cc b X.asc w X n tk (i:Int) ⟨acc.toArray⟩ tt sg ts c) ?_ hn I λs' I' k'=>?_
   ·exact fc ⟨plain_ord,fc ⟨cG (λs hb=>js _ s hb) h,N3 _⟩⟩
   ·refine λ_ _ _=>⟨by rfl,codeAny_mono (ih (X:=X) (i:=i+1) (n:=n+1) (acc:=acc) h2 (by simp only[Ow]at cQ;lia) I') λr2 s2 e=>?_⟩
    exact e.back k' rfl
  | exc ty h h3 h4 =>
   refine run (hB:=B.ext) (ax _) hA.depth hA.units hA.handled (Cd b X.asc w X n tk (i:Int) ⟨acc.toArray⟩ tt sg ts c ⟨y.toArray⟩ ty ⟨(acc++y).toArray⟩ (G0 ⟨acc.toArray⟩ ty) (G1 ⟨acc.toArray⟩)) ?_ hn I λs' I' k'=>?_
   ·refine fc ⟨plain_ord,fc ⟨cG (λs hb=>js _ s hb) h,fc ⟨plain_ord,fc ⟨da (by decide) (λs hb=>nw _ s hb) (by rw[h3];rfl),fc ⟨gA (j4 _ _).symm (by simpa[Str.length]using h4) ?_,N3 _⟩⟩⟩⟩⟩
    simp only[Str.length,OC,NR]at cQ ⊢;lia
   ·refine λ_ _ _=>⟨by rfl,codeAny_mono (ih (X:=X) (i:=i+1) (n:=n+2) (acc:=acc++y) h2 (by rw[NR];lia) I') λr2 s2 e=>?_⟩
    rw[<-NP];exact e.back k' rfl
  | low h h3 h5 h4 =>
   refine run (hB:=B.ext) (ax _) hA.depth hA.units hA.handled (Ce b X.asc w X n tk (i:Int) ⟨acc.toArray⟩ tt sg ts c ⟨y.toArray⟩ ⟨(acc++y).toArray⟩ (G0 ⟨acc.toArray⟩ (tk+9)) (G1 ⟨acc.toArray⟩)) ?_ hn I λs' I' k'=>?_
   ·refine fc ⟨plain_ord,fc ⟨cG (λs hb=>js _ s hb) h,fc ⟨plain_ord,fc ⟨da (by decide) (λs hb=>nw _ s hb) (by rw[h3];rfl),fc ⟨jL h5 ?_,fc ⟨gA (j4 _ _).symm (by simpa[Str.length]using h4) ?_,N3 _⟩⟩⟩⟩⟩⟩
    ·simp only[Str.length,OC]at cQ ⊢;lia
    ·simp only[Str.length,OC,NR]at cQ ⊢;lia
   ·refine λ_ _ _=>⟨by rfl,codeAny_mono (ih (X:=X) (i:=i+1) (n:=n+2) (acc:=acc++y) h2 (by rw[NR];lia) I') λr2 s2 e=>?_⟩
    rw[<-NP];exact e.back k' rfl
theorem yn {d:Nat}(hA:ad d A){c:Nat}{r ys:List Nat}(h:dI ((c+1)::r) ys){X:Px}{n tk tt:Nat}{s:Shared}(hd:X.text.cps.toList=(c+1)::r)(cQ:ys.length<=sizeLine)
  (I:aa B.f s (uo (PB b w) X ((0:Nat):Int) (Rf "") tt) (n+200) tk):codeAny (Mo PW (WB b w)) A (du X.F X.it) (jO b w B X (ym X) s ys) s:=by
 have I0:aa B.f s (uo (PB b w) X ((0:Nat):Int) ⟨([]:List Nat).toArray⟩ tt) (n+200) tk:=I
 cases h with
 | @cons c y r ys hs hr =>
  obtain⟨h1,h2⟩:=bS (i:=0) hd
  have hn:∀x:Al,x∈[(⟨bc (dc X.asc) [.ref (X.it+200)],dX (X.it+200) ((0:Nat):Int) (c+1),[(X.it+200,ft X.asc X.text X.u ((0:Nat):Int))]⟩:Al)]->a9 PW (WB b w) (KL (PB b w)) x:=
   fc ⟨jM h1,N3 _⟩
  refine aF bI ?_
  rw[NR]at cQ
  cases hs with
  | no h =>
   refine run (hB:=B.ext) (ax _) hA.depth hA.units hA.handled (B9 b X.asc w X n tk ((0:Nat):Int) ⟨([]:List Nat).toArray⟩ tt c) ?_ hn I0 λs' I' k'=>?_
   ·exact fc ⟨plain_ord,fc ⟨cG (λs hb=>js _ s hb) h,N3 _⟩⟩
   ·refine λ_ _ _=>⟨by rfl,codeAny_mono (kC hA hr (X:={X with k3:=tk+1}) (i:=0+1) (n:=n+1) (acc:=[]) h2 (by simp only[Ow]at cQ ⊢;lia) I') λr2 s2 e=>?_⟩
    exact jO.back (X:=X) e k' rfl
  | exc ty h h3 h4 =>
   refine run (hB:=B.ext) (ax _) hA.depth hA.units hA.handled (Ca b X.asc w X n tk ((0:Nat):Int) ⟨([]:List Nat).toArray⟩ tt c ⟨y.toArray⟩ ty ⟨([]++y).toArray⟩ (G0 ⟨([]:List Nat).toArray⟩ ty) (G1 ⟨([]:List Nat).toArray⟩)) ?_ hn I0 λs' I' k'=>?_
   ·refine fc ⟨plain_ord,fc ⟨cG (λs hb=>js _ s hb) h,fc ⟨plain_ord,fc ⟨da (by decide) (λs hb=>nw _ s hb) (by rw[h3];rfl),fc ⟨gA (j4 _ _).symm (by simpa[Str.length]using h4) ?_,N3 _⟩⟩⟩⟩⟩
    simp only[Str.length,OC,OU]at cQ ⊢;lia
   ·refine λ_ _ _=>⟨by rfl,codeAny_mono (kC hA hr (X:={X with k3:=tk+1}) (i:=0+1) (n:=n+2) (acc:=[]++y) h2 (by rw[OU];lia) I') λr2 s2 e=>?_⟩
    exact jO.back (X:=X) e k' rfl
  | low h h3 h5 h4 =>
   refine run (hB:=B.ext) (ax _) hA.depth hA.units hA.handled (Cb b X.asc w X n tk ((0:Nat):Int) ⟨([]:List Nat).toArray⟩ tt c ⟨y.toArray⟩ ⟨([]++y).toArray⟩ (G0 ⟨([]:List Nat).toArray⟩ (tk+9)) (G1 ⟨([]:List Nat).toArray⟩)) ?_ hn I0 λs' I' k'=>?_
   ·refine fc ⟨plain_ord,fc ⟨cG (λs hb=>js _ s hb) h,fc ⟨plain_ord,fc ⟨da (by decide) (λs hb=>nw _ s hb) (by rw[h3];rfl),fc ⟨jL h5 ?_,fc ⟨gA (j4 _ _).symm (by simpa[Str.length]using h4) ?_,N3 _⟩⟩⟩⟩⟩⟩
    ·simp only[Str.length,OC]at cQ ⊢;lia
    ·simp only[Str.length,OC,OU]at cQ ⊢;lia
   ·refine λ_ _ _=>⟨by rfl,codeAny_mono (kC hA hr (X:={X with k3:=tk+1}) (i:=0+1) (n:=n+2) (acc:=[]++y) h2 (by rw[OU];lia) I') λr2 s2 e=>?_⟩
    exact jO.back (X:=X) e k' rfl
inductive ur (b:Bool)(w:World)(B:Bx (KL (PB b w)))(ads:List Addr)(s:Shared)(y:List Nat)(r:Result)(s':Shared):Prop
 | mk (n' tk' tt:Nat) (h0:r=.ok (.ret (.str ⟨y.toArray⟩ tt))) (h1:aa B.f s' [] (n'+200) tk') (h2:bj ads s s')
theorem jt {lv:Nat}(hA:ad lv A)(hlv:lv<=12){text:Str}{ys:List Nat}(h:dI text.cps.toList ys)(hne:text.cps.toList≠[])(cQ:ys.length<=sizeLine){n tk u:Nat}{s:Shared}(I:aa B.f s [] (n+200) tk) :
  codeAny (Mo PW (WB b w)) A (jr text u) (ur b w B [] s ys) s:=by
 refine dz ?_
 generalize hasc:text.cps.all (·<128)=asc
 refine pp (rn:=j3 b asc w n tk u text) rfl (hB:=B.ext) (ax _) hA.depth hA.units hA.handled (B8 b asc w n tk u text) ?_ nM I λs1 I1 k1=>?_
 ·exact fc ⟨rU hasc,N3 _⟩
 have lg:=v9 b asc w n tk u text
 have hA':=hA.up (by lia) lg.1 lg.2
 obtain⟨c,r,e⟩:∃c r,text.cps.toList=(c+1)::r:=by
  cases e:text.cps.toList with
  | nil=>exact absurd e hne
  | cons c r=>rw[e]at h;cases h;exact⟨_,_,rfl⟩
 rw[e]at h
 refine codeAny_mono (yn (X:={F:=n,it:=n+1,u:=u,k1:=tk,k2:=tk+2,k3:=0,text:=text,asc:=asc}) (n:=n+2) hA' h e cQ I1) ?_
 rintro r2 s2 ⟨k3,tt,sg,ts,n',tk',rfl,a2,a3⟩
 refine iA (hB:=B.ext) (ax _) hA.depth hA.units hA.handled (Cg b asc w n tk u text ⟨ys.toArray⟩ sg tt ts k3 n' tk') nM nM a2 λs3 I3 k3=>?_
 refine λ_ _ _=>⟨n',tk',tt,rfl,I3,?_⟩
 refine bj.transNew (k1.transNew a3 λx hx=>.inr ?_) k3 λx hx=>.inr ?_
 ·rw[I.nx]
  simp only[ym,N0,OX,or_false]at hx
  rcases hx with h|h<;>(rw[h];lia)
 ·rw[I.nx]
  have:x=n+200:=by simpa using hx
  rw[this];exact NT _
end
end Mine

namespace Mine
open PySem PySem.Sre PySem.Sre.M
theorem fX {m:M}(h:m.outcome.isSome=true):∀n,runFor n m=m
 | 0=>rfl
 | n+1=>by rw[runFor,if_pos h]
theorem hY:∀(a b:Nat) (m:M),runFor (a+b) m=runFor b (runFor a m)
 | 0,b,m=>by rw[OF];rfl
 | a+1,b,m=>by
  rw[show a+1+b=(a+b)+1 by lia,runFor,runFor]
  by_cases h:m.outcome.isSome=true
  ·rw[if_pos h,if_pos h,fX h]
  ·rw[if_neg h,if_neg h,hY a b]
def hZ (n:Nat)(m m':M):Prop:=runFor n m=m'
theorem hZ.refl (m:M):hZ 0 m m:=rfl
theorem hZ.step {n:Nat}{m m' m'':M}(ho:m.outcome=none)(h:m.step=m')(h':hZ n m' m''):hZ (n+1) m m'':=by
 unfold hZ at *
 rw[runFor,ho]
 simp only[Option.isSome_none,Pi,if_false]
 rw[h,h']
section
variable{prog:Program}{w:World}{A:Around}{E:Value->aP}{s:Shared}
theorem kD {m':M}(ho:m'.outcome.isSome=true){Q:M->aP}(hQ:Q m' s):∀(ew n:Nat) (m:M),hZ n m m'->n<=4*ew->0<ew->wpAny (model prog w) A (Builtin.Re.reDrive ew m) Q E s
 | 0,_,_,_,_,h=>absurd h (PQ 0)
 | ew+1,n,m,hg,hn,_=>by
  unfold Builtin.Re.reDrive
  show wpAny _ _ (if(m.runFor 4).outcome.isSome=true then pure (m.runFor 4)else _) _ _ _
  by_cases h4:n<=4
  ·have e:m.runFor 4=m':=by
    rw[show 4=n+(4-n)from(OS h4).symm,hY,hg,fX ho]
   rw[e,if_pos ho]
   exact wpAny_pure hQ
  ·have e:hZ (n-4) (m.runFor 4) m':=by
    unfold hZ at *
    rw[<-hY,show 4+(n-4)=n from OS (ON (QF h4)),hg]
   by_cases hs:(m.runFor 4).outcome.isSome=true
   ·have e2:m.runFor 4=m':=by
     have:=e;unfold hZ at this;rw[fX hs]at this;exact this
    rw[e2,if_pos ho]
    exact wpAny_pure hQ
   ·rw[if_neg hs]
    exact wpAny_bind (wpAny_rule (kD ho hQ ew (n-4) _ e (Nat.sub_le_of_le_add hn) (PZ λq=>h4 (by rw[q]at hn;exact hn))))
theorem pV {m:M}{Q:PUnit->aP}(hQ:Q PUnit.unit s):∀l:List Nat,wpAny (model prog w) A (forIn l PUnit.unit λi __s=>if m.seen.has i=true then do rule (Sre.names.getD i "");pure (ForInStep.yield PUnit.unit)else pure (ForInStep.yield PUnit.unit):Sem PUnit) Q E s:=by
 intro l
 induction l with
 | nil=>exact wpAny_pure hQ
 | cons i l ih =>
  rw[List.forIn_cons]
  by_cases h:m.seen.has i=true
  ·simp only[h,if_true]
   refine wpAny_bind (wpAny_bind (wpAny_rule (wpAny_pure ?_)))
   exact ih
  ·simp only[h]
   refine wpAny_bind (wpAny_pure ?_)
   exact ih
theorem ny {m m':M}{n:Nat}(hg:hZ n m m')(hn:n<=2^60)(ho:m'.outcome=some .matched){Q:Option M->aP}(hQ:Q (some m') s):wpAny (model prog w) A (Builtin.Re.reRunToEnd m) Q E s:=by
 unfold Builtin.Re.reRunToEnd
 refine wpAny_bind (kD (m':=m') (by rw[ho];rfl) ?_ (2^64) n m hg (by lia) (by lia))
 refine wpAny_bind (pV ?_ _)
 rw[ho]
 exact wpAny_pure hQ
theorem pW {m m':M}{n:Nat}(hg:hZ n m m')(hn:n<=2^60)(ho:m'.outcome=some .failed){Q:Option M->aP}(hQ:Q none s):wpAny (model prog w) A (Builtin.Re.reRunToEnd m) Q E s:=by
 unfold Builtin.Re.reRunToEnd
 refine wpAny_bind (kD (m':=m') (by rw[ho];rfl) ?_ (2^64) n m hg (by lia) (by lia))
 refine wpAny_bind (pV ?_ _)
 rw[ho]
 exact wpAny_pure hQ
end
section
variable{m:M}
structure On (m:M)(op:Nat):Prop where
 o:m.outcome=none
 a:m.answer=none
 p:m.pc<m.code.size
 w:m.code.getD m.pc 0=op
theorem On.step {op:Nat}(h:On m op):m.step=m.exec:=by
 unfold M.step
 rw[h.o,h.a]
 simp only[Option.isSome_none,Pi,if_false,h.p,if_true]
theorem ju (h:On m 16)(hp:m.pos<m.lim)(ht:m.text.getD m.pos 0=m.code.getD (m.pc+1) 0):m.step={m with seen:=m.seen.add 16,pc:=m.pc+2,pos:=m.pos+1}:=by
 rw[h.step]
 unfold M.exec M.word
 rw[Pq,h.w]
 have e:ops[(16:Nat)]?=some .LITERAL:=rfl
 simp only[e]
 rw[if_neg (by lia)]
 have e2:accepts m.code m.pc (m.text.getD m.pos 0) (m.seen.add 16)=.ok (true,m.seen.add 16):=by
  unfold accepts;rw[h.w];simp only[e,ht,beq_self_eq_true]
 have e3:itemWidth m.code m.pc=2:=by unfold itemWidth;rw[h.w];rfl
 simp only[e2,e3]
theorem eY (h:On m 16)(hp:m.lim<=m.pos\/m.text.getD m.pos 0≠m.code.getD (m.pc+1) 0):m.step={m with seen:=m.seen.add 16,answer:=some false}:=by
 rw[h.step]
 unfold M.exec M.word
 rw[Pq,h.w]
 have e:ops[(16:Nat)]?=some .LITERAL:=rfl
 simp only[e]
 by_cases hl:m.pos>=m.lim
 ·rw[if_pos hl];rfl
 ·rw[if_neg hl]
  have ht:m.text.getD m.pos 0≠m.code.getD (m.pc+1) 0:=hp.resolve_left (by lia)
  have e2:accepts m.code m.pc (m.text.getD m.pos 0) (m.seen.add 16)=.ok (false,m.seen.add 16):=by
   unfold accepts;rw[h.w];simp only[e,beq_eq_false_iff_ne.mpr ht]
  simp only[e2];rfl
theorem nA (h:On m 15):m.step={m with seen:=m.seen.add 15,pc:=m.pc+1+m.code.getD (m.pc+1) 0}:=by
 rw[h.step]
 unfold M.exec M.word
 rw[Pq,h.w]
 rfl
theorem fu (h:On m 1)(hw:m.wholeText=false)(hm:m.mustAdvance=false):m.step={m with seen:=m.seen.add 1,handed:=m.pos,answer:=some true}:=by
 rw[h.step]
 unfold M.exec M.word
 rw[Pq,h.w]
 have e:ops[(1:Nat)]?=some .SUCCESS:=rfl
 simp only[e,hw,hm,Bool.false_and,Bool.or_false,Bool.and_false]
 rfl
theorem jv (h:On m 7):m.step=({m with seen:=m.seen.add 7}:M).alternative (m.pc+1) (({m with seen:=m.seen.add 7}:M).keep m.inner.isSome):=by
 rw[h.step]
 unfold M.exec M.word
 rw[Pq,h.w]
 rfl
theorem rX (h:On m 6)(h1:m.code.getD (m.pc+1) 0=1){yes:Bool}(hy:(m.pos==0 || m.text.getD (m.pos-1) 0==10)=yes) :
  m.step=(match yes with|true=>{m with seen:=(m.seen.add 6).add 44,pc:=m.pc+2}|false=>{m with seen:=(m.seen.add 6).add 44,answer:=some false}):=by
 rw[h.step]
 unfold M.exec M.word
 rw[Pq,h.w]
 have e:ops[(6:Nat)]?=some .AT:=rfl
 simp only[e,h1]
 have e2:M.isAt {m with seen:=m.seen.add 6} 1=.ok yes:=congrArg Except.ok hy
 simp only[e2]
 cases yes<;>rfl
theorem G9 (h:On m 5)(h2:m.code.getD (m.pc+2) 0=0):m.step=({m with seen:=m.seen.add 5}:M).attempt {({m with seen:=m.seen.add 5}:M).frame .lookNot with kept:=({m with seen:=m.seen.add 5}:M).keep m.inner.isSome} (m.pc+3) m.pos false:=by
 rw[h.step]
 unfold M.exec M.word
 rw[Pq,h.w]
 have e:ops[(5:Nat)]?=some .ASSERT_NOT:=rfl
 simp only[e,h2]
 rw[if_neg (by lia)]
 simp
end
def aC (P:M->Prop)(B:Nat)(m:M):Prop:=∃n m',n<=B/\hZ n m m'/\P m'
theorem aC.step {P:M->Prop}{B:Nat}{m:M}(m':M)(ho:m.outcome=none)(h:m.step=m')(r:aC P B m'):aC P (B+1) m:=
 let ⟨n,z,a,b,c⟩:=r;⟨n+1,z,by lia,hZ.step ho h b,c⟩
theorem aC.now {P:M->Prop}{B:Nat}{m:M}(h:P m):aC P B m:=⟨0,m,OI _,hZ.refl m,h⟩
theorem aC.le {P:M->Prop}{B B':Nat}{m:M}(r:aC P B m)(h:B<=B'):aC P B' m:=
 let ⟨n,z,a,b,c⟩:=r;⟨n,z,by lia,b,c⟩
noncomputable abbrev c1:Array Nat:=#[14,4,0,1,1,6,1,16,46,1]
noncomputable abbrev c2:Array Nat:=#[14,9,4,1,2,16,10,16,13,0,7,7,16,13,16,10,15,18,5,16,10,15,13,11,16,13,5,5,0,16,10,1,15,2,0,1]
noncomputable abbrev St (c text:Array Nat)(lim s pc pos handed:Nat)(outer:Bool)(fr:List Sre.Frame)(wt:Nat)(ans:Option Bool)(seen:Seen):M:=
 {code:=c,text:=text,lim:=lim,start:=s,lastStart:=lim,pc:=pc,pos:=pos,handed:=handed,outermost:=outer,marks:=#[],frames:=fr,weight:=wt,answer:=ans,seen:=seen}
noncomputable abbrev F0 (c:Array Nat)(pc s:Nat)(first:Bool):Sre.Frame:={wait:=.nextStart,pc:=pc,pos:=s,outermost:=first}
noncomputable abbrev F1 (Ga s:Nat)(outer:Bool):Sre.Frame:={wait:=.nextBranch,pc:=Ga,pos:=s,outermost:=outer,kept:={lastmark:=-1,lastindex:=-1,whole:=false,marks:=#[]}}
noncomputable abbrev FN (pc s:Nat)(outer:Bool):Sre.Frame:={wait:=.lookNot,pc:=pc,pos:=s,outermost:=outer,kept:={lastmark:=-1,lastindex:=-1,whole:=false,marks:=#[]}}
def BM (s e:Nat)(m:M):Prop:=m.outcome=some .matched/\m.start=s/\m.handed=e
def rY (m:M):Prop:=m.outcome=some .failed
section
variable{text:Array Nat}{lim s:Nat}{seen:Seen}
theorem Ha {c:Array Nat}{Ga pc pos h:Nat}{o:Bool}:aC (BM s h) 3 (St c text lim s pc pos h true [F1 Ga s true,F0 c 10 s o] 2 (some true) seen):=by
 refine aC.step (St c text lim s Ga s h true [F0 c 10 s o] 1 (some true) seen) rfl rfl ?_
 refine aC.step (St c text lim s 10 s h o [] 0 (some true) seen) rfl rfl ?_
 exact aC.step {St c text lim s 10 s h o [] 0 (some true) seen with outcome:=some .matched} rfl rfl (aC.now ⟨rfl,rfl,rfl⟩)
theorem JT (h1:s+1<lim)(t0:text.getD s 0=13)(t1:text.getD (s+1) 0=10):aC (BM s (s+2)) 8 (St c2 text lim s 10 s s true [F0 c2 10 s true] 1 none seen):=by
 refine aC.step (St c2 text lim s 12 s s true [F1 11 s true,F0 c2 10 s true] 2 none (seen.add 7)) rfl (jv ⟨rfl,rfl,NY rfl,rfl⟩) ?_
 refine aC.step (St c2 text lim s 14 (s+1) s true [F1 11 s true,F0 c2 10 s true] 2 none ((seen.add 7).add 16)) rfl (ju ⟨rfl,rfl,NY rfl,rfl⟩ (by show s<lim;lia) t0) ?_
 refine aC.step (St c2 text lim s 16 (s+2) s true [F1 11 s true,F0 c2 10 s true] 2 none (((seen.add 7).add 16).add 16)) rfl (ju ⟨rfl,rfl,NY rfl,rfl⟩ (by show s+1<lim;lia) t1) ?_
 refine aC.step (St c2 text lim s 35 (s+2) s true [F1 11 s true,F0 c2 10 s true] 2 none ((((seen.add 7).add 16).add 16).add 15)) rfl (nA ⟨rfl,rfl,NY rfl,rfl⟩) ?_
 refine aC.step (St c2 text lim s 35 (s+2) (s+2) true [F1 11 s true,F0 c2 10 s true] 2 (some true) (((((seen.add 7).add 16).add 16).add 15).add 1)) rfl (fu ⟨rfl,rfl,NY rfl,rfl⟩ rfl rfl) ?_
 exact Ha
theorem Nk (h1:s<lim)(t0:text.getD s 0=10):aC (BM s (s+1)) 10 (St c2 text lim s 10 s s true [F0 c2 10 s true] 1 none seen):=by
 refine aC.step (St c2 text lim s 12 s s true [F1 11 s true,F0 c2 10 s true] 2 none (seen.add 7)) rfl (jv ⟨rfl,rfl,NY rfl,rfl⟩) ?_
 refine aC.step (St c2 text lim s 12 s s true [F1 11 s true,F0 c2 10 s true] 2 (some false) ((seen.add 7).add 16)) rfl (eY ⟨rfl,rfl,NY rfl,rfl⟩ (.inr (by show text.getD s 0≠13;lia))) ?_
 refine aC.step (St c2 text lim s 19 s s true [F1 18 s true,F0 c2 10 s true] 2 none ((seen.add 7).add 16)) rfl rfl ?_
 refine aC.step (St c2 text lim s 21 (s+1) s true [F1 18 s true,F0 c2 10 s true] 2 none (((seen.add 7).add 16).add 16)) rfl (ju ⟨rfl,rfl,NY rfl,rfl⟩ (by show s<lim;lia) t0) ?_
 refine aC.step (St c2 text lim s 35 (s+1) s true [F1 18 s true,F0 c2 10 s true] 2 none ((((seen.add 7).add 16).add 16).add 15)) rfl (nA ⟨rfl,rfl,NY rfl,rfl⟩) ?_
 refine aC.step (St c2 text lim s 35 (s+1) (s+1) true [F1 18 s true,F0 c2 10 s true] 2 (some true) (((((seen.add 7).add 16).add 16).add 15).add 1)) rfl (fu ⟨rfl,rfl,NY rfl,rfl⟩ rfl rfl) ?_
 exact Ha.le (by lia)
theorem Nl (h1:s<lim)(t0:text.getD s 0=13)(t1:lim<=s+1\/text.getD (s+1) 0≠10):aC (BM s (s+1)) 20 (St c2 text lim s 10 s s true [F0 c2 10 s true] 1 none seen):=by
 refine aC.step (St c2 text lim s 12 s s true [F1 11 s true,F0 c2 10 s true] 2 none (seen.add 7)) rfl (jv ⟨rfl,rfl,NY rfl,rfl⟩) ?_
 refine aC.step (St c2 text lim s 14 (s+1) s true [F1 11 s true,F0 c2 10 s true] 2 none ((seen.add 7).add 16)) rfl (ju ⟨rfl,rfl,NY rfl,rfl⟩ (by show s<lim;lia) t0) ?_
 refine aC.step (St c2 text lim s 14 (s+1) s true [F1 11 s true,F0 c2 10 s true] 2 (some false) (((seen.add 7).add 16).add 16)) rfl (eY ⟨rfl,rfl,NY rfl,rfl⟩ t1) ?_
 refine aC.step (St c2 text lim s 19 s s true [F1 18 s true,F0 c2 10 s true] 2 none (((seen.add 7).add 16).add 16)) rfl rfl ?_
 refine aC.step (St c2 text lim s 19 s s true [F1 18 s true,F0 c2 10 s true] 2 (some false) ((((seen.add 7).add 16).add 16).add 16)) rfl (eY ⟨rfl,rfl,NY rfl,rfl⟩ (.inr (by show text.getD s 0≠10;lia))) ?_
 refine aC.step (St c2 text lim s 24 s s true [F1 23 s true,F0 c2 10 s true] 2 none ((((seen.add 7).add 16).add 16).add 16)) rfl rfl ?_
 generalize (((seen.add 7).add 16).add 16).add 16=seen
 refine aC.step (St c2 text lim s 26 (s+1) s true [F1 23 s true,F0 c2 10 s true] 2 none (seen.add 16)) rfl (ju ⟨rfl,rfl,NY rfl,rfl⟩ (by show s<lim;lia) t0) ?_
 refine aC.step (St c2 text lim s 29 (s+1) (s+1) false [FN 26 (s+1) true,F1 23 s true,F0 c2 10 s true] 3 none ((seen.add 16).add 5)) rfl (G9 ⟨rfl,rfl,NY rfl,rfl⟩ rfl) ?_
 refine aC.step (St c2 text lim s 29 (s+1) (s+1) false [FN 26 (s+1) true,F1 23 s true,F0 c2 10 s true] 3 (some false) (((seen.add 16).add 5).add 16)) rfl (eY ⟨rfl,rfl,NY rfl,rfl⟩ t1) ?_
 refine aC.step (St c2 text lim s 32 (s+1) (s+1) true [F1 23 s true,F0 c2 10 s true] 2 none (((seen.add 16).add 5).add 16)) rfl rfl ?_
 refine aC.step (St c2 text lim s 35 (s+1) (s+1) true [F1 23 s true,F0 c2 10 s true] 2 none ((((seen.add 16).add 5).add 16).add 15)) rfl (nA ⟨rfl,rfl,NY rfl,rfl⟩) ?_
 refine aC.step (St c2 text lim s 35 (s+1) (s+1) true [F1 23 s true,F0 c2 10 s true] 2 (some true) (((((seen.add 16).add 5).add 16).add 15).add 1)) rfl (fu ⟨rfl,rfl,NY rfl,rfl⟩ rfl rfl) ?_
 exact Ha.le (by lia)
end
section
variable{text:Array Nat}{lim:Nat}
theorem JU (c:Nat)(seen:Seen):∃seen',inSet c2 c c2.size 5 true seen=.ok (decide (c=10\/c=13),seen'):=by
 by_cases h1:c=10
 ·subst h1;exact⟨_,rfl⟩
 ·by_cases h2:c=13
  ·subst h2;exact⟨_,rfl⟩
  ·refine⟨((seen.add 16).add 16).add 0,?_⟩
   have e1:(c==10)=false:=beq_eq_false_iff_ne.mpr h1
   have e2:(c==13)=false:=beq_eq_false_iff_ne.mpr h2
   rw[decide_eq_false (by lia)]
   show(if(c==10)=true then _ else inSet c2 c 35 7 true (seen.add 16))=_
   rw[e1,if_neg (by decide)]
   show(if(c==13)=true then _ else inSet c2 c 34 9 true ((seen.add 16).add 16))=_
   rw[e2,if_neg (by decide)]
   rfl
theorem ut (m:M)(hc:m.code=c2){j:Nat}(hj:j<m.lim)(ht:m.text.getD j 0=10\/m.text.getD j 0=13):∀(fuel s:Nat) (seen:Seen),s<=j->j<s+fuel->(∀i,s<=i->i<j->m.text.getD i 0≠10/\m.text.getD i 0≠13) ->
  ∃seen',admitted m fuel s seen=.ok (some j,seen')
 | 0,s,seen,h1,h2,h3=>absurd h2 (by lia)
 | fuel+1,s,seen,h1,h2,h3=>by
  unfold admitted
  rw[if_neg (by lia),hc]
  obtain⟨z,e⟩:=JU (m.text.getD s 0) seen
  rw[e]
  by_cases hs:s=j
  ·subst hs
   rw[decide_eq_true ht]
   exact⟨z,rfl⟩
  ·have:=h3 s (NT _) (by lia)
   rw[decide_eq_false (by lia)]
   exact ut m hc hj ht fuel (s+1) z (by lia) (by lia) λi a b=>h3 i (by lia) b
theorem pX (m:M)(hc:m.code=c2):∀(fuel s:Nat) (seen:Seen),(∀i,s<=i->i<m.lim->m.text.getD i 0≠10/\m.text.getD i 0≠13) ->
  ∃seen',admitted m fuel s seen=.ok (none,seen')
 | 0,s,seen,h3=>⟨seen,rfl⟩
 | fuel+1,s,seen,h3=>by
  unfold admitted
  by_cases hl:s>=m.lim
  ·rw[if_pos hl];exact⟨seen,rfl⟩
  ·rw[if_neg hl,hc]
   obtain⟨z,e⟩:=JU (m.text.getD s 0) seen
   have:=h3 s (NT _) (by lia)
   rw[e,decide_eq_false (by lia)]
   exact pX m hc fuel (s+1) z λi a b=>h3 i (by lia) b
noncomputable abbrev Sm (c text:Array Nat)(lim start pc:Nat)(last:Nat)(ans:Option Bool)(seen:Seen):M:=
 {code:=c,text:=text,lim:=lim,start:=start,lastStart:=last,pc:=pc,pos:=start,handed:=start,marks:=#[],answer:=ans,seen:=seen}
theorem kE (start:Nat):forSearch c2 text 0 start lim false=if(decide (start>lim) || decide (lim-start<1))=true then Sm c2 text lim start 10 0 (some false) (({}:Seen).add 14)else(Sm c2 text lim start 10 lim none (({}:Seen).add 14)).attemptFrom start true:=rfl
theorem kF (start:Nat):forSearch c1 text 0 start lim false=if(decide (start>lim) || decide (lim-start<1))=true then Sm c1 text lim start 5 0 (some false) (({}:Seen).add 14)else(Sm c1 text lim start 5 lim none (({}:Seen).add 14)).attemptFrom start true:=rfl
theorem kG {c:Array Nat}{start pc last:Nat}{seen:Seen}:aC rY 1 (Sm c text lim start pc last (some false) seen):=
 aC.step {Sm c text lim start pc last (some false) seen with outcome:=some .failed} rfl rfl (aC.now rfl)
theorem yo {start:Nat}{seen:Seen}:(Sm c2 text lim start 10 lim none seen).hasFirstSet=true:=rfl
theorem nB {start:Nat}(h:∀i,start<=i->i<lim->text.getD i 0≠10/\text.getD i 0≠13):aC rY 1 (forSearch c2 text 0 start lim false):=by
 rw[kE]
 split
 ·exact kG
 ·obtain⟨z,e⟩:=pX (Sm c2 text lim start 10 lim none (({}:Seen).add 14)) rfl (lim+1-start) start (({}:Seen).add 14) h
  unfold attemptFrom
  rw[yo,if_neg (show ¬(!true)=true from Pr)]
  show aC rY 1 (match admitted (Sm c2 text lim start 10 lim none (({}:Seen).add 14)) (lim+1-start) start (({}:Seen).add 14)with
   | .ok (some s,seen)=>_
   | .ok (none,seen)=>_
   | .error why=>_)
  rw[e]
  exact kG
theorem rZ {start j:Nat}(h0:start<=j)(hj:j<lim)(ht:text.getD j 0=10\/text.getD j 0=13)(h:∀i,start<=i->i<j->text.getD i 0≠10/\text.getD i 0≠13) :
  ∃seen,forSearch c2 text 0 start lim false=St c2 text lim j 10 j j true [F0 c2 10 j true] 1 none seen:=by
 rw[kE,if_neg (by simp only[QR,decide_eq_true_eq];lia)]
 obtain⟨z,e⟩:=ut (Sm c2 text lim start 10 lim none (({}:Seen).add 14)) rfl hj ht (lim+1-start) start (({}:Seen).add 14) h0 (by lia) h
 refine⟨z,?_⟩
 unfold attemptFrom
 rw[yo,if_neg (show ¬(!true)=true from Pr)]
 show(match admitted (Sm c2 text lim start 10 lim none (({}:Seen).add 14)) (lim+1-start) start (({}:Seen).add 14)with
   | .ok (some s,seen)=>_
   | .ok (none,seen)=>_
   | .error why=>_)=_
 rw[e]
 rfl
theorem fY {start j e:Nat}(h0:start<=j)(hj:j<lim)(h:∀i,start<=i->i<j->text.getD i 0≠10/\text.getD i 0≠13)
  (ht:(text.getD j 0=10/\e=j+1)\/(text.getD j 0=13/\j+1<lim/\text.getD (j+1) 0=10/\e=j+2)\/(text.getD j 0=13/\(lim<=j+1\/text.getD (j+1) 0≠10)/\e=j+1)) :
  aC (BM j e) 20 (forSearch c2 text 0 start lim false):=by
 obtain⟨z,q⟩:=rZ h0 hj (by rcases ht with a|a|a<;>simp[a.1]) h
 rw[q]
 rcases ht with⟨a,rfl⟩|⟨a,b,c,rfl⟩|⟨a,b,rfl⟩
 ·exact(Nk hj a).le (by lia)
 ·exact(JT b a c).le (by lia)
 ·exact Nl hj a b
def uu (text:Array Nat)(lim s:Nat):Prop:=(s=0\/text.getD (s-1) 0=10)/\s<lim/\text.getD s 0=46
theorem Ci {s:Nat}{o:Bool}{seen:Seen}(h:uu text lim s):aC (BM s (s+1)) 6 (St c1 text lim s 5 s s o [F0 c1 5 s o] 1 none seen):=by
 refine aC.step (St c1 text lim s 7 s s o [F0 c1 5 s o] 1 none ((seen.add 6).add 44)) rfl (rX (yes:=true) ⟨rfl,rfl,NY rfl,rfl⟩ rfl ?_) ?_
 ·rcases h.1 with q|q
  ·show(s==0 || _)=true;rw[q];rfl
  ·show(_ || text.getD (s-1) 0==10)=true;rw[q];simp
 refine aC.step (St c1 text lim s 9 (s+1) s o [F0 c1 5 s o] 1 none (((seen.add 6).add 44).add 16)) rfl (ju ⟨rfl,rfl,NY rfl,rfl⟩ h.2.1 h.2.2) ?_
 refine aC.step (St c1 text lim s 9 (s+1) (s+1) o [F0 c1 5 s o] 1 (some true) ((((seen.add 6).add 44).add 16).add 1)) rfl (fu ⟨rfl,rfl,NY rfl,rfl⟩ rfl rfl) ?_
 refine aC.step (St c1 text lim s 5 s (s+1) o [] 0 (some true) ((((seen.add 6).add 44).add 16).add 1)) rfl rfl ?_
 exact aC.step {St c1 text lim s 5 s (s+1) o [] 0 (some true) ((((seen.add 6).add 44).add 16).add 1)with outcome:=some .matched} rfl rfl (aC.now ⟨rfl,rfl,rfl⟩)
theorem yp {P:M->Prop}{B s:Nat}{o:Bool}{seen:Seen}(h:¬uu text lim s)(k:∀pc seen,aC P B (St c1 text lim s pc s s o [F0 c1 5 s o] 1 (some false) seen)):aC P (B+2) (St c1 text lim s 5 s s o [F0 c1 5 s o] 1 none seen):=by
 by_cases hb:s=0\/text.getD (s-1) 0=10
 ·refine aC.step (St c1 text lim s 7 s s o [F0 c1 5 s o] 1 none ((seen.add 6).add 44)) rfl (rX (yes:=true) ⟨rfl,rfl,NY rfl,rfl⟩ rfl ?_) ?_
  ·rcases hb with q|q
   ·show(s==0 || _)=true;rw[q];rfl
   ·show(_ || text.getD (s-1) 0==10)=true;rw[q];simp
  refine aC.step _ rfl (eY ⟨rfl,rfl,NY rfl,rfl⟩ ?_) (k 7 _)
  by_cases hl:s<lim
  ·exact .inr λq=>h ⟨hb,hl,q⟩
  ·exact .inl (by show lim<=s;lia)
 ·refine aC.le (aC.step _ rfl (rX (yes:=false) ⟨rfl,rfl,NY rfl,rfl⟩ rfl ?_) (k 5 _)) (by lia)
  show(s==0 || text.getD (s-1) 0==10)=false
  simp only[Bool.or_eq_false_iff,beq_eq_false_iff_ne]
  exact⟨λq=>hb (.inl q),λq=>hb (.inr q)⟩
theorem pY {P:M->Prop}{B s:Nat}{o:Bool}{seen:Seen}(hs:s<lim)(h:¬uu text lim s)(k:∀seen,aC P B (St c1 text lim (s+1) 5 (s+1) (s+1) false [F0 c1 5 (s+1) false] 1 none seen)) :
  aC P (B+3) (St c1 text lim s 5 s s o [F0 c1 5 s o] 1 none seen):=by
 refine yp h λpc seen=>?_
 refine aC.step (St c1 text lim (s+1) 5 (s+1) (s+1) false [F0 c1 5 (s+1) false] 1 none seen) rfl ?_ (k seen)
 show(if s<lim then _ else _)=_
 rw[if_pos hs]
 rfl
theorem pZ {j:Nat}(hj:uu text lim j):∀(d s:Nat) (o:Bool) (seen:Seen),s+d=j->(∀i,s<=i->i<j->¬uu text lim i)->aC (BM j (j+1)) (3*d+6) (St c1 text lim s 5 s s o [F0 c1 5 s o] 1 none seen)
 | 0,s,o,seen,e,h=>by
  have:s=j:=by lia
  subst this
  exact Ci hj
 | d+1,s,o,seen,e,h=>by
  have:=hj.2.1
  exact(pY (by lia) (h s (NT _) (by lia)) λseen=>pZ hj d (s+1) false seen (by lia) λi a b=>h i (by lia) b).le (by lia)
theorem mM:∀(d s:Nat) (o:Bool) (seen:Seen),s+d=lim->(∀i,s<=i->i<lim->¬uu text lim i)->aC rY (3*d+6) (St c1 text lim s 5 s s o [F0 c1 5 s o] 1 none seen)
 | 0,s,o,seen,e,h=>by
  have:s=lim:=by lia
  subst this
  refine(yp (B:=4) (λq=>absurd q.2.1 (PQ _)) λpc seen=>?_)
  refine aC.step (St c1 text s s 5 s s o [] 0 (some false) seen) rfl ?_ ?_
  ·show(if s<s then _ else _)=_
   rw[if_neg (PQ _)]
   rfl
  ·exact aC.step {St c1 text s s 5 s s o [] 0 (some false) seen with outcome:=some .failed} rfl rfl (aC.now rfl)
 | d+1,s,o,seen,e,h=>by
  exact(pY (by lia) (h s (NT _) (by lia)) λseen=>mM d (s+1) false seen (by lia) λi a b=>h i (by lia) b).le (by lia)
theorem gW {start:Nat}(h0:start<lim):forSearch c1 text 0 start lim false=St c1 text lim start 5 start start true [F0 c1 5 start true] 1 none (({}:Seen).add 14):=by
 rw[kF,if_neg (by simp only[QR,decide_eq_true_eq];lia)]
 rfl
theorem qa {start j:Nat}(h0:start<=j)(hj:uu text lim j)(h:∀i,start<=i->i<j->¬uu text lim i):aC (BM j (j+1)) (3*lim+6) (forSearch c1 text 0 start lim false):=by
 have:=hj.2.1
 rw[gW (by lia)]
 exact(pZ hj (j-start) start true _ (by lia) h).le (by lia)
theorem nC {start:Nat}(h:∀i,start<=i->i<lim->¬uu text lim i):aC rY (3*lim+6) (forSearch c1 text 0 start lim false):=by
 by_cases h0:start<lim
 ·rw[gW h0]
  exact(mM (lim-start) start true _ (by lia) h).le (by lia)
 ·rw[kF,if_pos (by simp only[QR,decide_eq_true_eq];lia)]
  exact kG.le (by lia)
end
end Mine

namespace Mine
open PySem PySem.Builtin PySem.Builtin.Re
inductive Jm (code text:Array Nat)(lim:Nat):Nat->List (Nat×Nat)->Prop
 | nil {s:Nat}:aC rY (2^59) (Sre.forSearch code text 0 s lim false)->Jm code text lim s []
 | cons {s b e:Nat} {l:List (Nat×Nat)}:aC (BM b e) (2^59) (Sre.forSearch code text 0 s lim false)->s<=b->b<e->e<=lim->Jm code text lim e l->Jm code text lim s ((b,e)::l)
noncomputable def eZ (text r:List Nat):Nat->List (Nat×Nat)->List Nat
 | d,[]=>text.drop d
 | d,(b,e)::l=>(text.drop d).take (b-d)++r++eZ text r e l
theorem kH:entryFor table "re.Pattern.sub.loop" = some Builtin.«re.Pattern.sub.loop»:=entryFor_of_tree (by kernel_rfl)
theorem fx:plainId "re.Pattern.sub.loop" = true:=by decide +kernel
theorem kI {id:String}{args:Args}{b:Builtin}(h:entryFor table id=some b):denote table (.builtin id args)=b args:=by
 simp only[denote,h]
structure Hb (K:Nat->Option Obj)(p:Nat)(code:Array Nat):Prop where
 ex:∃(fs:aN) (T:Nat) (ws:aN),K p=some ⟨.type "re.Pattern",none,.fields fs,#[]⟩/\fs.getD 5 .none=.ref T/\reRawNat (fs.getD 2 .none)=0/\reRawNat (fs.getD 6 .none)=0 /\
  K T=some ⟨.type "tuple",none,.seq ws 0,#[]⟩/\(ws.map reRawOf).map (·.toNat)=code
section
variable{prog:Program}{w:World}{A:Around}{K:Nat->Option Obj}{p:Nat}{code:Array Nat}
theorem qb {E:Value->aP}{s:Shared}{text:Str}{u:Nat}{Q:ReTarget->aP}(hp:Hb K p code)(hb:∀a o,K a=some o->s.heap.get? a=some o)
  (hQ:Q {pattern:=.ref p,string:=.str text u,code:=code,text:=text.cps,kind:=0,groups:=0,pos:=0,lim:=text.cps.size} s):wpAny (model prog w) A (reWholeTarget (.ref p) (.str text u)) Q E s:=by
 obtain⟨fs,T,ws,h1,h2,h3,h4,h5,h6⟩:=hp.ex
 unfold reWholeTarget
 refine wpAny_bind (wpAny_fieldsOf (hb _ _ h1) rfl ?_)
 refine wpAny_bind (m:=reTextOf (.str text u)) (wpAny_of_eq (a:=(text.cps,0)) rfl ?_)
 dsimp only
 rw[h4]
 refine wpAny_bind (wpAny_pure ?_)
 rw[h2]
 unfold reRawItems
 refine wpAny_bind (wpAny_bind (wpAny_seqItems (hb _ _ h5) rfl (wpAny_pure ?_)))
 refine wpAny_pure ?_
 rw[h3]
 show Q {pattern:=.ref p,string:=.str text u,code:=(ws.map reRawOf).map (·.toNat),text:=text.cps,kind:=0,groups:=0,pos:=0,lim:=text.cps.size} s
 rw[h6];exact hQ
noncomputable abbrev iH (p:Nat)(text r:Str)(u t:Nat)(n:Int)(d L:Nat):Args:=⟨[.ref p,.str text u,.str r t,rawInt 0,rawInt 0,rawInt n,rawInt d,rawInt d,.bool false,.ref L,.bool false],[]⟩
theorem r7 (f:Obj->Obj)(q:Addr×Obj):fU f [q] 0=[(q.1,f q.2)]:=rfl
noncomputable abbrev oL (ps:List (Str×Tok))(e:Nat):Obj:=⟨.type "list",none,.seq (strValues ps).toArray e,#[]⟩
theorem kJ (ps:List (Str×Tok))(q:Str×Tok):strValues (ps++[q])=strValues ps++[.str q.1 q.2]:=by simp[strValues]
theorem iI (text:Str)(d b:Nat):(text.cps.extract d b).toList=(text.cps.toList.drop d).take (b-d):=by
 rw[OP]
theorem wc {ps:List (Str×Tok)}{x:Str}{t e:Nat}:Obj.mapSeq (·.push (.str x t)) (oL ps e)=oL (ps++[(x,t)]) (e+1):=by
 simp[Obj.mapSeq,oL,kJ]
theorem nD {s:Shared}{ps:List (Str×Tok)}{L nx tk e:Nat}{x:Str}{t:Nat}{Q:Unit->aP}{E:Value->aP}(I:aa K s [(L,oL ps e)] nx tk)(hz:ps.length<sizeLine)
  (h:∀s',aa K s' [(L,oL (ps++[(x,t)]) (e+1))] nx tk->bj [L] s s'->Q () s'):wpAny (model prog w) A (updateSeq L (·.push (.str x t))) Q E s:=by
 have ho:=I.has _ (.head _)
 have hl:(strValues ps).length=ps.length:=by simp[strValues]
 refine wpAny_updateSeq ho rfl (h _ ?_ ?_) (by simp only[OC,hl];lia) (by simp only[QQ,OC,hl];lia)
 ·have I':=I.update (i:=0) (f:=Obj.mapSeq (·.push (.str x t))) rfl rfl
  rw[r7,wc]at I'
  exact I'
 ·exact⟨λb o hb hn=>((Heap.SameBut.update s.heap L _).2 b (λe=>hn (by simp[e]))).trans hb,OA (Heap.SameBut.update s.heap L _).1.symm,rfl,rfl,rfl⟩
theorem jP {args:Args}:A.under (.builtin "re.Pattern.sub.loop" args)=A.in1:=Around.under_plainId fx _
theorem mN (p:Nat)(text r:Str)(u t:Nat)(n:Int)(d L:Nat):Builtin.«re.Pattern.sub.loop» (iH p text r u t n d L)=(do
  let x <-reWholeTarget (.ref p) (.str text u)
  reLiteralCannotBeTurned (.str r t)
  match <-reNextFound x d false with
  | some m=>do
   if d<m.start then updateSeq L (·.push (<-reSlice x.text x.kind d m.start))
   updateSeq L (·.push (.str r t))
   again (.builtin "re.Pattern.sub.loop" ⟨[.ref p,.str text u,.str r t,rawInt 0,rawInt 0,rawInt (n+1),rawInt m.handed,rawInt m.handed,.bool (m.handed==m.start),.ref L,.bool false],[]⟩)
  | none=>do
   if d<x.lim then updateSeq L (·.push (<-reSlice x.text x.kind d x.lim))
   let joiner <-reSlice x.text x.kind 0 0
   let text <-if((<-seqItems? (.ref L)).getD #[]).isEmpty then pure joiner
    else call (.builtin (if x.kind==0 then "str.join" else "bytes.join")) [joiner,.ref L]
   ret text):=rfl
inductive r9 (K:Nat->Option Obj)(L nx:Nat)(s:Shared)(y:List Nat)(r:Result)(s':Shared):Prop
 | mk (tk' tt:Nat) (h0:r=.ok (.ret (.str ⟨y.toArray⟩ tt))) (h1:aa K s' [] nx tk') (h2:bj [L] s s')
theorem kK {E:Value->aP}{s:Shared}{text:Str}{d b:Nat}{Q:Value->aP}(ht:text.cps.size<=sizeLine)(h:Q (.str ⟨text.cps.extract d b⟩ s.toks) {s with toks:=s.toks+1}) :
  wpAny (model prog w) A (reSlice text.cps 0 d b) Q E s:=by
 refine wpAny_mkStr h ?_
 show(text.cps.extract d b).size<=sizeLine
 rw[P0];lia
theorem bj.toks {ads:List Addr}{s s':Shared}{n:Nat}(k:bj ads {s with toks:=n} s'):bj ads s s':=⟨k.old,k.size,k.gens,k.drawn,k.os⟩
theorem dS {c:Code}{R:Result->aP}{s:Shared}(h:wpAny (model prog w) (A.under c) (denote table c) (λfin s'=>match fin with|.done f=>R (.ok f) s'|.again c'=>c'.quiet=true/\codeAny (model prog w) A c' R s') (λe s'=>R (.error e) s') s):codeAny (model prog w) A c R s:=codeAny_of_tree h
theorem nE {E:Value->aP}{s:Shared}{t a:Nat}{ps:List (Str×Tok)}{Q:Value->aP}(hl:s.heap.IsList a (strValues ps).toArray)(cQ:(aZ ps).length<=sizeLine)(hQ:Q (.str ⟨(aZ ps).toArray⟩ (d8 ps s.toks)) {s with toks:=s.toks+ev ps}) :
  wpAny (model prog w) A (call (.builtin "str.join") [.str (Rf "") t,.ref a]) Q E s:=
 wpAny_call (codeAny_call_builtin F.slot_str_join.plain F.entry_str_join (F.slot_str_join.check _ _ _ _ _ _ _ _ (typeIs_str s _ t) (F.args_str_join_2 _ _) (um (R:=λr s'=>match r with|.ok (.ret v)=>Q v s'|.ok _=>False|.error e=>E e s') hl cQ hQ)))
theorem yq {E:Value->aP}{s:Shared}{r:Str}{t:Nat}{Q:Unit->aP}(h:Q () s):wpAny (model prog w) A (reLiteralCannotBeTurned (.str r t)) Q E s:=wpAny_of_eq (a:=()) rfl h
theorem JV {k:Nat}(h:k<=2^59):k<=2^60:=by lia
theorem Cj {E:Value->aP}{s:Shared}{x:ReTarget}{d:Nat}{Q:Option Sre.M->aP}(hm:aC rY (2^59) (Sre.forSearch x.code x.text x.groups d x.lim false))(hQ:Q none s):wpAny (model prog w) A (reNextFound x d false) Q E s:=by
 unfold reNextFound
 obtain⟨k,m',hk,hg,hmiss⟩:=hm
 exact pW hg (JV hk) hmiss hQ
theorem yr {E:Value->aP}{s:Shared}{x:ReTarget}{d b e:Nat}{Q:Option Sre.M->aP}(hm:aC (BM b e) (2^59) (Sre.forSearch x.code x.text x.groups d x.lim false))(hQ:∀m:Sre.M,m.start=b->m.handed=e->Q (some m) s):wpAny (model prog w) A (reNextFound x d false) Q E s:=by
 unfold reNextFound
 obtain⟨k,m',hk,hg,hh⟩:=hm
 exact ny hg (JV hk) hh.1 (hQ m' hh.2.1 hh.2.2)
theorem qc (hp:Hb K p code){text r:Str}{u t:Nat}(ht:text.cps.size<=sizeLine):∀{l:List (Nat×Nat)} {d:Nat},Jm code text.cps text.cps.size d l->∀{n:Int} {ps:List (Str×Tok)} {L nx tk ep:Nat} {s:Shared},
  aa K s [(L,oL ps ep)] nx tk->ps.length+2*l.length+2<sizeLine->(aZ ps++eZ text.cps.toList r.cps.toList d l).length<=sizeLine ->
  codeAny (model prog w) A (.builtin "re.Pattern.sub.loop" (iH p text r u t n d L)) (r9 K L nx s (aZ ps++eZ text.cps.toList r.cps.toList d l)) s:=by
 intro l d h
 induction h with
 | @nil d hm =>
  intro n ps L nx tk ep s I hz hf
  refine dS ?_
  rw[jP,kI kH,mN]
  refine wpAny_bind (qb hp I.base ?_)
  dsimp only
  refine wpAny_bind (yq ?_)
  refine wpAny_bind (Cj hm ?_)
  have last:∀{Q:Fin->aP} {E:Value->aP} (hQ:∀f s',r9 K L nx s (aZ ps++eZ text.cps.toList r.cps.toList d []) (.ok f) s'->Q (.done f) s') (ps':List (Str×Tok)) (s1:Shared) (ep' tk':Nat),aa K s1 [(L,oL ps' ep')] nx tk'->bj [L] s s1->aZ ps'=aZ ps++eZ text.cps.toList r.cps.toList d [] ->
    wpAny (model prog w) A.in1 (do
     let joiner <-reSlice text.cps 0 0 0
     let text <-if((<-seqItems? (.ref L)).getD #[]).isEmpty then pure joiner
      else call (.builtin "str.join") [joiner,.ref L]
     ret text) Q E s1:=by
   intro Q E hQ ps' s1 ep' tk' I1 k1 e1
   refine wpAny_bind (kK ht ?_)
   have I2:=I1.toks (n:=s1.toks+1)
   refine wpAny_bind (wpAny_seqItems (I2.has _ (.head _)) rfl ?_)
   have e0:(⟨text.cps.extract 0 0⟩:Str)=Rf "":=by
    apply Str.ext';simp;rfl
   rw[e0]
   cases ps' with
   | nil =>
    show wpAny _ _ (ret (.str (Rf "") s1.toks)) _ _ _
    refine wpAny_pure (hQ _ _ ⟨s1.toks+1,s1.toks,?_,I2.pick [],⟨k1.old,k1.size,k1.gens,k1.drawn,k1.os⟩⟩)
    rw[<-e1];rfl
   | cons q qs =>
    show wpAny _ _ (call (.builtin "str.join") [.str (Rf "") s1.toks,.ref L] >>= λx=>ret x) _ _ _
    refine wpAny_bind (nE (ps:=q::qs) ⟨_,I2.has _ (.head _),rfl,_,rfl⟩ (by rw[e1];exact hf) (wpAny_pure ?_))
    rw[e1]
    exact hQ _ _ ⟨_,_,rfl,(I2.toks (n:=s1.toks+1+ev (q::qs))).pick [],⟨k1.old,k1.size,k1.gens,k1.drawn,k1.os⟩⟩
  by_cases hdb:d<text.cps.size
  ·rw[if_pos hdb]
   refine wpAny_bind (kK ht ?_)
   refine wpAny_bind (nD (I.toks (n:=s.toks+1)) (by lia) λs2 I2 k2=>?_)
   refine last (λ_ _ h=>h) _ s2 _ _ I2 k2.toks ?_
   rw[jp]
   show _++(text.cps.extract d text.cps.size).toList=_
   rw[iI,Ol (by simp)]
   rfl
  ·rw[if_neg hdb]
   refine last (λ_ _ h=>h) ps s _ _ I ⟨λ_ _ h _=>h,NT _,rfl,rfl,rfl⟩ ?_
   unfold eZ
   rw[P7 (by simp;lia),Oc]
 | @cons d b e l hh h1 h2 h3 hr ih =>
  intro n ps L nx tk ep s I hz hf
  refine dS ?_
  rw[jP,kI kH,mN]
  refine wpAny_bind (qb hp I.base ?_)
  refine wpAny_bind (yq ?_)
  refine wpAny_bind (yr hh λm' m1 m2=>?_)
  dsimp only
  rw[m1,m2]
  have hfl:(false:Bool)=(e==b):=by simp;lia
  have rest:∀{Q:Fin->aP} {E:Value->aP} (hQ:∀c' s',c'.quiet=true->codeAny (model prog w) A c' (r9 K L nx s (aZ ps++eZ text.cps.toList r.cps.toList d ((b,e)::l))) s'->Q (.again c') s') (ps':List (Str×Tok)) (s1:Shared) (ep' tk':Nat),aa K s1 [(L,oL ps' ep')] nx tk'->bj [L] s s1->ps'.length<=ps.length+1->aZ ps'=aZ ps++(text.cps.toList.drop d).take (b-d) ->
    wpAny (model prog w) A.in1 (do
     updateSeq L (·.push (.str r t))
     again (.builtin "re.Pattern.sub.loop" ⟨[.ref p,.str text u,.str r t,rawInt 0,rawInt 0,rawInt (n+1),rawInt e,rawInt e,.bool (e==b),.ref L,.bool false],[]⟩))
     Q E s1:=by
   intro Q E hQ ps' s1 ep' tk' I1 k1 hl e1
   simp only[NV]at hz
   refine wpAny_bind (nD I1 (by lia) λs2 I2 k2=>wpAny_pure (hQ _ _ (plainId_quiet fx _) ?_))
   rw[<-hfl]
   have e2:aZ (ps'++[(r,t)])++eZ text.cps.toList r.cps.toList e l=aZ ps++eZ text.cps.toList r.cps.toList d ((b,e)::l):=by
    rw[jp,e1];simp[eZ]
   refine codeAny_mono (ih I2 (by simp only[NR,OJ];lia) (by rw[e2];exact hf)) ?_
   rintro r3 s3 ⟨tk3,tt,q1,q2,q3⟩
   rw[e2]at q1
   exact⟨tk3,tt,q1,q2,(k1.trans k2).trans q3⟩
  by_cases hdb:d<b
  ·rw[if_pos hdb]
   refine wpAny_bind (kK ht ?_)
   simp only[NV]at hz
   refine wpAny_bind (nD (I.toks (n:=s.toks+1)) (by lia) λs2 I2 k2=>?_)
   exact rest (λ_ _ h k=>⟨h,k⟩) _ s2 _ _ I2 k2.toks (by simp) (by rw[jp];show _++(text.cps.extract d b).toList=_;rw[iI])
  ·rw[if_neg hdb]
   exact rest (λ_ _ h k=>⟨h,k⟩) ps s _ _ I ⟨λ_ _ h _=>h,NT _,rfl,rfl,rfl⟩ (by lia) (by rw[show b-d=0 by lia];simp)
end
end Mine

namespace Mine
open PySem
noncomputable def df:Bool->List Nat->List Nat
 | _,[]=>[]
 | b,c::r=>if c=10 then(if b=true then df false r else 13::10::df false r)else if c=13 then 13::10::df true r else c::df false r
abbrev dm (l:List Nat):List Nat:=df false l
noncomputable def b8:Bool->List Nat->List Nat
 | _,[]=>[]
 | b,c::r=>if b=true/\c=46 then 46::46::b8 false r else c::b8 (c==10) r
theorem gB (t:Array Nat)(i:Nat):t.getD i 0=t.toList.getD i 0:=by
 simp[Array.getD_eq_getD_getElem?,Od]
theorem gD {T:List Nat}{j:Nat}(h:j<T.length):T.drop j=T.getD j 0::T.drop (j+1):=by
 rw[OD h];simp[Od,h]
theorem mO {T:List Nat}{s j:Nat}(h0:s<=j)(h:j<T.length):(T.drop s).take (j+1-s)=(T.drop s).take (j-s)++[T.getD j 0]:=by
 rw[Nat.succ_sub h0,OT]
 congr 1
 simp[PX,OS h0,Od,h]
theorem kL {t:Array Nat}{j:Nat}(h:t.size<=j):t.toList.drop j=[]:=P7 (NU (OA OB) h)
theorem qd {t:Array Nat}{s j:Nat}(h:t.size<=j):(t.toList.drop s).take (j-s)=t.toList.drop s:=Ol (by rw[Of];exact Qb (NU (OA OB) h) s)
theorem nF {n t s j:Nat}(c:n<=t-(j+1))(hs:s<=j)(hj:j<t):n+1<=t-s:=NU (PM c) (NU (OA (Nat.succ_pred_eq_of_pos (PD hj))) (Nat.sub_le_sub_left hs t))
theorem Jn {t j k:Nat}(h:t-j<=k+1):t-(j+1)<=k:=Nat.pred_le_pred h
theorem below {s i:Nat}(a:s<=i)(b:i<s){G:Prop}:G:=absurd a (QE.mpr b)
theorem Gb {i j:Nat}(b:i<j+1)(q:i≠j):i<j:=OO (PC b) q
inductive LN (t:Array Nat)(s j:Nat):Prop
 | mk (l:List (Nat×Nat)) (a:Jm c2 t t.size s l) (b:eZ t.toList [13,10] s l=(t.toList.drop s).take (j-s)++dm (t.toList.drop j)) (c:l.length<=t.size-s)
theorem LN.nil {t:Array Nat}{s j:Nat}(hj:t.size<=j)(h:∀i,s<=i->i<j->t.getD i 0≠10/\t.getD i 0≠13):LN t s j:=
 ⟨[],.nil ((nB λi a b=>h i a (Os b hj)).le (by decide)),by rw[kL hj,qd hj];simp[eZ,dm,df],OI _⟩
theorem LO (t:Array Nat):∀(k s j:Nat),t.size-j<=k->s<=j->(∀i,s<=i->i<j->t.getD i 0≠10/\t.getD i 0≠13)->LN t s j:=by
 intro k
 induction k with
 | zero=>exact λs j hk hs h=>.nil (PA (Q1.mp hk)) h
 | succ k ih =>
  intro s j hk hs h
  by_cases hj:t.size<=j
  ·exact .nil hj h
  ·have hj:=QF hj
   have hlen:j<t.toList.length:=hj
   have e0:=gD hlen
   have hg:t.toList.getD j 0=t.getD j 0:=(gB t j).symm
   by_cases c10:t.getD j 0=10
   ·obtain⟨l,a,b,c⟩:=ih (j+1) (j+1) (Jn hk) (NT _) (λi a b=>below a b)
    refine⟨(j,j+1)::l,.cons ((fY hs hj h (.inl ⟨c10,rfl⟩)).le (by decide)) hs (Og j) hj a,?_,nF c hs hj⟩
    rw[eZ,b,e0,hg,c10]
    simp[dm,df]
   ·by_cases c13:t.getD j 0=13
    ·by_cases n10:j+1<t.size/\t.getD (j+1) 0=10
     ·obtain⟨l,a,b,c⟩:=ih (j+2) (j+2) (NU (Nat.pred_le _) (Jn hk)) (NT _) (λi a b=>below a b)
      refine⟨(j,j+2)::l,.cons ((fY hs hj h (.inr (.inl ⟨c13,n10.1,n10.2,rfl⟩))).le (by decide)) hs (Nat.lt_succ_of_lt (Og j)) n10.1 a,?_,nF (NU c (Nat.pred_le _)) hs hj⟩
      have e1:=gD (T:=t.toList) (j:=j+1) n10.1
      rw[<-gB,n10.2]at e1
      rw[eZ,b,e0,hg,c13,e1]
      simp[dm,df]
     ·obtain⟨l,a,b,c⟩:=ih (j+1) (j+1) (Jn hk) (NT _) (λi a b=>below a b)
      refine⟨(j,j+1)::l,.cons ((fY hs hj h (.inr (.inr ⟨c13,?_,rfl⟩))).le (by decide)) hs (Og j) hj a,?_,nF c hs hj⟩
      ·rcases Nat.lt_or_ge (j+1) t.size with q|q
       ·exact .inr λz=>n10 ⟨q,z⟩
       ·exact .inl q
      ·rw[eZ,b,e0,hg,c13]
       have:dm (13::t.toList.drop (j+1))=13::10::dm (t.toList.drop (j+1)):=by
        rcases Nat.lt_or_ge (j+1) t.size with q|q
        ·have e1:=gD (T:=t.toList) (j:=j+1) q
         rw[<-gB]at e1
         have nz:t.getD (j+1) 0≠10:=λz=>n10 ⟨q,z⟩
         rw[e1]
         generalize t.getD (j+1) 0=x at nz
         simp[dm,df,nz]
        ·rw[kL q];simp[dm,df]
       rw[this];simp
    ·obtain⟨l,a,b,c⟩:=ih s (j+1) (Jn hk) (Qs hs) (λi a b=>by
      by_cases q:i=j
      ·subst q;exact⟨c10,c13⟩
      ·exact h i a (Gb b q))
     refine⟨l,a,?_,c⟩
     rw[b,mO hs hlen,e0,hg]
     have:dm (t.getD j 0::t.toList.drop (j+1))=t.getD j 0::dm (t.toList.drop (j+1)):=by
      clear b hg
      generalize t.getD j 0=x at c10 c13
      simp[dm,df,c10,c13]
     rw[this];simp
noncomputable def kM (t:Array Nat)(j:Nat):Bool:=j==0 || t.getD (j-1) 0==10
theorem uv (t:Array Nat)(j:Nat)(h:j<t.size):uu t t.size j↔kM t j=true/\t.getD j 0=46:=by
 unfold uu kM;simp[h]
inductive LP (t:Array Nat)(s j:Nat):Prop
 | mk (l:List (Nat×Nat)) (a:Jm c1 t t.size s l) (b:eZ t.toList [46,46] s l=(t.toList.drop s).take (j-s)++b8 (kM t j) (t.toList.drop j)) (c:l.length<=t.size-s)
theorem LP.nil {t:Array Nat}{s j:Nat}(hz:3*t.size+6<=2^59)(hj:t.size<=j)(h:∀i,s<=i->i<j->¬uu t t.size i):LP t s j:=
 ⟨[],.nil ((nC λi a b=>h i a (Os b hj)).le hz),by rw[kL hj,qd hj];simp[eZ,b8],OI _⟩
theorem LQ (t:Array Nat):∀(k s j:Nat),t.size-j<=k->s<=j->(∀i,s<=i->i<j->¬uu t t.size i)->3*t.size+6<=2^59->LP t s j:=by
 intro k
 induction k with
 | zero=>exact λs j hk hs h hz=>.nil hz (PA (Q1.mp hk)) h
 | succ k ih =>
  intro s j hk hs h hz
  by_cases hj:t.size<=j
  ·exact .nil hz hj h
  ·have hj:=QF hj
   have hlen:j<t.toList.length:=hj
   have e0:=gD hlen
   have hg:t.toList.getD j 0=t.getD j 0:=(gB t j).symm
   have bn:kM t (j+1)=(t.getD j 0==10):=by unfold kM;simp
   by_cases hd:uu t t.size j
   ·obtain⟨l,a,b,c⟩:=ih (j+1) (j+1) (Jn hk) (NT _) (λi a b=>below a b) hz
    refine⟨(j,j+1)::l,.cons ((qa hs hd h).le hz) hs (Og j) hj a,?_,nF c hs hj⟩
    obtain⟨d1,d2⟩:=(uv t j hj).mp hd
    rw[eZ,b,e0,hg,bn,d1,d2]
    simp[b8]
   ·obtain⟨l,a,b,c⟩:=ih s (j+1) (Jn hk) (Qs hs) (λi a b=>by
      by_cases q:i=j
      ·subst q;exact hd
      ·exact h i a (Gb b q)) hz
    refine⟨l,a,?_,c⟩
    rw[b,mO hs hlen,e0,hg,bn]
    have:b8 (kM t j) (t.getD j 0::t.toList.drop (j+1))=t.getD j 0::b8 (t.getD j 0==10) (t.toList.drop (j+1)):=by
     conv=>lhs;unfold b8
     rw[if_neg (λq=>hd ((uv t j hj).mpr q))]
    rw[this];simp
noncomputable abbrev iJ:Str:=Rf "\r\n"
noncomputable abbrev Ck:Str:=Rf ".."
noncomputable abbrev ey (p:Nat)(r:Str)(t:Nat)(text:Str)(u:Nat):Code:=.call (.builtin "re.Pattern.sub") ⟨[.ref p,.str r t,.str text u],[]⟩
noncomputable abbrev Cl (p:Nat)(r:Str)(t:Nat)(text:Str)(u:Nat):Code:=.builtin "re.Pattern.sub" ⟨[.ref p,.str r t,.str text u],[]⟩
noncomputable abbrev ic (text:Str)(u:Nat):Code:=.call (.ref 154) ⟨[.str text u],[]⟩
noncomputable abbrev Nm (n tk u:Nat)(text:Str):G:=⟨aA (ic text u),[(ic text u,kr)],[],n+200,tk⟩
theorem Cm (b:Bool)(w:World)(n tk t u:Nat)(text:Str):SO b w [] [.b] [] ⟨aA (ey 147 iJ t text u),[],[],n+200,tk⟩
 [] ⟨.pure (.again (Cl 147 iJ t text u)),[],[],n+200,tk⟩ []:=by apply bq1 b;kernel_rfl
theorem Cn (b:Bool)(w:World)(n tk t u:Nat)(text:Str):SO b w [0] [.b,.b,.a] [] ⟨aA (Cl 147 iJ t text u),[],[],n+200,tk⟩
 [] ⟨.pure (.again (.builtin "re.Pattern.sub.loop" (iH 147 text iJ u t 0 0 (n+200)))),[],[((n+200),ab #[] 0)],n+201,tk⟩ []:=by apply bq1 b;kernel_rfl
theorem Co (b:Bool)(w:World)(n tk t u:Nat)(text:Str):SO b w [] [.b] [] ⟨aA (ey 142 Ck t text u),[],[],n+200,tk⟩
 [] ⟨.pure (.again (Cl 142 Ck t text u)),[],[],n+200,tk⟩ []:=by apply bq1 b;kernel_rfl
theorem Cp (b:Bool)(w:World)(n tk t u:Nat)(text:Str):SO b w [0] [.b,.b,.a] [] ⟨aA (Cl 142 Ck t text u),[],[],n+200,tk⟩
 [] ⟨.pure (.again (.builtin "re.Pattern.sub.loop" (iH 142 text Ck u t 0 0 (n+200)))),[],[((n+200),ab #[] 0)],n+201,tk⟩ []:=by apply bq1 b;kernel_rfl
noncomputable def iK (b:Bool)(w:World)(n tk u:Nat)(text:Str):Option bo:=(go aA (SB b w) (KL (PB b w)) 300 [.b,.b,.a,ac,bi,.s,.b,.b,.b,.b,.b,.b,.b,.b,.b,.b,.b,ac] [] (Nm n tk u text))
theorem Cq (b:Bool)(w:World)(n tk u:Nat)(text:Str):jW [] (iK b w n tk u text)
 [] (ey 147 iJ 2430 text u) [] (n+201) (tk+2) []:=by apply bq1 b;kernel_rfl
noncomputable def iM (b:Bool)(w:World)(n tk u:Nat)(text y:Str)(ty n2 tk2:Nat):Option bo:=(go aA (SB b w) (KL (PB b w)) 300 [] [] (gC (iK b w n tk u text) (.ok (.ret (.str y ty))) [] (n2+200) tk2))
theorem Cr (b:Bool)(w:World)(n tk u:Nat)(text y:Str)(ty n2 tk2:Nat):jW [] (iM b w n tk u text y ty n2 tk2)
 [] (ey 142 Ck (tk+1) y ty) [] (n2+200) tk2 []:=by apply bq1 b;kernel_rfl
theorem wg (b:Bool)(w:World)(n tk u:Nat)(text:Str):ci (bH (iK b w n tk u text)) 7=true/\cr (bH (iK b w n tk u text)) 7=true:=af (by apply bq1 b;kernel_rfl)
theorem wi (b:Bool)(w:World)(n tk u:Nat)(text y:Str)(ty n2 tk2:Nat):ci (bH (iM b w n tk u text y ty n2 tk2)) 7=true/\cr (bH (iM b w n tk u text y ty n2 tk2)) 7=true:=af (by apply bq1 b;kernel_rfl)
theorem Cs (b:Bool)(w:World)(n tk u:Nat)(text y z:Str)(ty n2 tk2 tz n3 tk3:Nat):SO b w [] [] [] (gC (iM b w n tk u text y ty n2 tk2) (.ok (.ret (.str z tz))) [] (n3+200) tk3)
 [] ⟨.pure (.done (.ret (.str z tz))),[],[],n3+200,tk3⟩ []:=by apply bq1 b;kernel_rfl
theorem gE:∀(l:List Nat) (b:Bool),(df b l).length<=2*l.length
 | [],_=>by simp[df]
 | c::r,b=>by
  have h1:=gE r false
  have h2:=gE r true
  unfold df
  split
  ·split<;>simp only[NV]<;>lia
  ·split<;>simp only[NV]<;>lia
theorem jw:∀(l:List Nat) (b:Bool),(b8 b l).length<=2*l.length
 | [],_=>by simp[b8]
 | c::r,b=>by
  have h1:=jw r false
  have h2:=jw r (c==10)
  unfold b8
  split<;>simp only[NV]<;>lia
noncomputable def qf (o:Obj):aN:=match o.data with|.fields fs=>fs|_=>#[]
noncomputable def uw (o:Obj):aN:=match o.data with|.seq fs _=>fs|_=>#[]
theorem Hc (P:Params):Hb (KL P) 147 c2:=⟨qf (xR P),146,uw (xT P),by kernel_rfl,by kernel_rfl,by kernel_rfl,by kernel_rfl,by kernel_rfl,by kernel_rfl⟩
theorem Hd (P:Params):Hb (KL P) 142 c1:=⟨qf (xQ P),141,uw (xS P),by kernel_rfl,by kernel_rfl,by kernel_rfl,by kernel_rfl,by kernel_rfl,by kernel_rfl⟩
theorem gG:plainId "re.Pattern.sub" = true:=by decide +kernel
theorem Hb.on {K K':Nat->Option Obj}{p:Nat}{c:Array Nat}(h:Hb K p c)(e:∀a o,K a=some o->K' a=some o):Hb K' p c:=by
 obtain⟨fs,T,ws,h1,h2,h3,h4,h5,h6⟩:=h.ex
 exact⟨fs,T,ws,e _ _ h1,h2,h3,h4,e _ _ h5,h6⟩
theorem l5:(400000:Nat)+10<sizeLine:=by decide +kernel
section
variable{b:Bool}{w:World}{B:Bx (KL (PB b w))}{A:Around}
theorem wj {lv:Nat}(hA:ad lv A)(hlv:lv<=14){text:Str}(ht:text.cps.toList.length<=100000){n tk t u:Nat}{s:Shared}(I:aa B.f s [] (n+200) tk) :
  codeAny (Mo PW (WB b w)) A (ey 147 iJ t text u) (ur b w B [] s (dm text.cps.toList)) s:=by
 have hA1:ad (lv+1) A.in1:=hA.in1 hlv
 have hu:A.under (ey 147 iJ t text u)=A.in1:=Around.under_plain (by rfl) (by rfl)
 refine dS ?_
 rw[hu,eG]
 refine run (A:=A.in1) (hB:=B.ext) (ax _) hA1.depth hA1.units hA1.handled (Cm b w n tk t u text) nM nM I λs1 I1 k1=>?_
 refine λ_ _ _=>⟨plainId_quiet gG _,dS ?_⟩
 rw[Around.under_plainId gG,eG]
 refine run (A:=A.in1) (hB:=B.ext) (ax _) hA1.depth hA1.units hA1.handled (Cn b w n tk t u text) nM nM I1 λs2 I2 k2=>?_
 refine λ_ _ _=>⟨plainId_quiet fx _,?_⟩
 obtain⟨l,a1,a2,a3⟩:=LO text.cps text.cps.size 0 0 (by lia) (NT _) (λi a b=>absurd b (by lia))
 have e:aZ []++eZ text.cps.toList iJ.cps.toList 0 l=dm text.cps.toList:=by
  have:iJ.cps.toList=[13,10]:=by decide
  rw[this,a2];simp[aZ]
 have hl:(dm text.cps.toList).length<=2*text.cps.toList.length:=gE text.cps.toList false
 have hs:text.cps.size<=100000:=by simpa using ht
 have hz:=l5
 refine codeAny_mono (qc (ps:=[]) (n:=0) (ep:=0) ((Hc _).on B.ext) (by lia) a1 I2 (by simp;lia) (by rw[e];lia)) ?_
 rintro r3 s3 ⟨tk3,tt,q1,q2,q3⟩
 rw[e]at q1
 refine⟨n+1,tk3,tt,q1,q2,(k1.trans k2).transNew q3 λx hx=>.inr ?_⟩
 rw[I.nx,NN.mp hx];exact NT _
theorem wm {lv:Nat}(hA:ad lv A)(hlv:lv<=14){text:Str}(ht:text.cps.toList.length<=200000){n tk t u:Nat}{s:Shared}(I:aa B.f s [] (n+200) tk) :
  codeAny (Mo PW (WB b w)) A (ey 142 Ck t text u) (ur b w B [] s (b8 true text.cps.toList)) s:=by
 have hA1:ad (lv+1) A.in1:=hA.in1 hlv
 have hu:A.under (ey 142 Ck t text u)=A.in1:=Around.under_plain (by rfl) (by rfl)
 refine dS ?_
 rw[hu,eG]
 refine run (A:=A.in1) (hB:=B.ext) (ax _) hA1.depth hA1.units hA1.handled (Co b w n tk t u text) nM nM I λs1 I1 k1=>?_
 refine λ_ _ _=>⟨plainId_quiet gG _,dS ?_⟩
 rw[Around.under_plainId gG,eG]
 refine run (A:=A.in1) (hB:=B.ext) (ax _) hA1.depth hA1.units hA1.handled (Cp b w n tk t u text) nM nM I1 λs2 I2 k2=>?_
 refine λ_ _ _=>⟨plainId_quiet fx _,?_⟩
 have hs:text.cps.size<=200000:=by simpa using ht
 obtain⟨l,a1,a2,a3⟩:=LQ text.cps text.cps.size 0 0 (by lia) (NT _) (λi a b=>absurd b (by lia)) (by lia)
 have e:aZ []++eZ text.cps.toList Ck.cps.toList 0 l=b8 true text.cps.toList:=by
  have:Ck.cps.toList=[46,46]:=by decide
  rw[this,a2];simp[aZ,kM]
 have hl:=jw text.cps.toList true
 have hz:=l5
 refine codeAny_mono (qc (ps:=[]) (n:=0) (ep:=0) ((Hd _).on B.ext) (by lia) a1 I2 (by simp;lia) (by rw[e];lia)) ?_
 rintro r3 s3 ⟨tk3,tt,q1,q2,q3⟩
 rw[e]at q1
 refine⟨n+1,tk3,tt,q1,q2,(k1.trans k2).transNew q3 λx hx=>.inr ?_⟩
 rw[I.nx,NN.mp hx];exact NT _
theorem qg {lv:Nat}(hA:ad lv A)(hlv:lv<=12){text:Str}(ht:text.cps.toList.length<=100000){n tk u:Nat}{s:Shared}(I:aa B.f s [] (n+200) tk) :
  codeAny (Mo PW (WB b w)) A (ic text u) (ur b w B [] s (b8 true (dm text.cps.toList))) s:=by
 refine dz ?_
 refine pp (rn:=iK b w n tk u text) rfl (hB:=B.ext) (ax _) hA.depth hA.units hA.handled (Cq b w n tk u text) nM nM I λs1 I1 k1=>?_
 refine codeAny_mono (wj (n:=n+1) (hA.uq (wg ..)) (by lia) ht I1) ?_
 rintro r2 s2 ⟨n2,tk2,ty,rfl,I2,k2⟩
 have hl:(dm text.cps.toList).length<=2*text.cps.toList.length:=gE text.cps.toList false
 refine pp (rn:=iM b w n tk u text ⟨(dm text.cps.toList).toArray⟩ ty n2 tk2) rfl (hB:=B.ext) (ax _) hA.depth hA.units hA.handled (Cr b w n tk u text ⟨(dm text.cps.toList).toArray⟩ ty n2 tk2) nM nM I2 λs3 I3 k3=>?_
 refine codeAny_mono (wm (n:=n2) (hA.uq (wi ..)) (by lia) (by show(dm text.cps.toList).length<=200000;lia) I3) ?_
 rintro r4 s4 ⟨n4,tk4,tz,rfl,I4,k4⟩
 refine iA (hB:=B.ext) (ax _) hA.depth hA.units hA.handled (Cs b w n tk u text ⟨(dm text.cps.toList).toArray⟩ ⟨(b8 true (dm text.cps.toList)).toArray⟩ ty n2 tk2 tz n4 tk4) nM nM I4 λs5 I5 k5=>?_
 exact λ_ _ _=>⟨n4,tk4,tz,rfl,I5,(((k1.trans k2).trans k3).trans k4).trans k5⟩
end
noncomputable def a0 (st:Stmt)(env:Env):Sem Fin:=PySem.W.R.bindR (PySem.W.Fast.tw12563942051412417395 [st] env) λf=>.pure (.done f)
noncomputable def gX (e:Rg)(env:Env):Sem Fin:=PySem.W.R.bindR (PySem.W.Fast.tw14044960220447912780 e env) λv=>.pure (.done (.ret v))
noncomputable def qh (t:Sem Bool):Sem Fin:=PySem.W.R.bindR t λb=>.pure (.done (.ret (.bool b)))
theorem ad.deeper {d:Nat}{A:Around}{env:Env}(h:ad d A)(hd:d<=14):ad (d+1) (A.deeper env):=by
 have:=h.dep;have:=h.uni
 exact⟨by show A.depth+1<=_;lia,by show A.units+3<=_;lia,h.handled,by lia⟩
section
variable{prog:Program}{w:World}{A:Around}{s:Shared}{env:Env}
theorem ap {Q:Fin->aP}{E:Value->aP}{fin:Fin}(h:Q fin s):an prog w A Q E [] (.pure fin) s:=λ_ _ _=>h
theorem aX {st:Stmt}{Q:Flow->aP}{E:Value->aP}(h:an prog w A (λfin s'=>match fin with|.done f=>Q f s'|_=>False) E [] (a0 st env) s):wpAny (Mo prog w) A (exec st env) Q E s:=by
 intro Γ p hΓ
 have:=h Γ p hΓ
 unfold a0 at this
 rw[<-PySem.W.Fast.te12563942051412417395,<-PySem.W.R.bindR_eq]at this
 have e:=Sem.wp_bind' (Mo prog w) Γ (execs [st] env) (λf=>(.pure (.done f):Sem Fin)) (λa _ s'=>(match a with|.done f=>Q f s'|_=>False)) (λe _ s'=>E e s') p s
 have h1:=e.mp this
 rw[execs_cons,Sem.wp_bind']at h1
 refine Sem.wp_mono (Mo prog w) Γ _ (λf p' s' h'=>?_) (λ_ _ _ h'=>h') _ _ h1
 cases f<;>exact h'
theorem eA {x:Rg}{Q:Value->aP}{E:Value->aP}(h:an prog w A (λfin s'=>match fin with|.done (.ret v)=>Q v s'|_=>False) E [] (gX x env) s):wpAny (Mo prog w) A (eval x env) Q E s:=by
 intro Γ p hΓ
 have:=h Γ p hΓ
 unfold gX at this
 rw[<-PySem.W.Fast.te14044960220447912780,<-PySem.W.R.bindR_eq]at this
 exact(Sem.wp_bind' (Mo prog w) Γ (eval x env) (λv=>(.pure (.done (.ret v)):Sem Fin)) (λa _ s'=>(match a with|.done (.ret v)=>Q v s'|_=>False)) (λe _ s'=>E e s') p s).mp this
theorem iN {t:Sem Bool}{Q:Bool->aP}{E:Value->aP}(h:an prog w A (λfin s'=>match fin with|.done (.ret (.bool b))=>Q b s'|_=>False) E [] (qh t) s):wpAny (Mo prog w) A t Q E s:=by
 intro Γ p hΓ
 have:=h Γ p hΓ
 unfold qh at this
 rw[<-PySem.W.R.bindR_eq]at this
 exact(Sem.wp_bind' (Mo prog w) Γ t (λv=>(.pure (.done (.ret (.bool v))):Sem Fin)) (λa _ s'=>(match a with|.done (.ret (.bool b))=>Q b s'|_=>False)) (λe _ s'=>E e s') p s).mp this
theorem e8 {c:Code}{R:Result->aP}(h:an prog w (A.under c) (λfin s'=>match fin with|.done f=>R (.ok f) s'|.again c'=>c'.quiet=true/\codeAny (Mo prog w) A c' R s') (λe s'=>R (.error e) s') [] (aA c) s):codeAny (Mo prog w) A c R s:=by
 refine codeAny_of_tree ?_
 show wpAny _ (A.under c) (denote table c) _ _ s
 rw[eG]
 exact h
theorem gH {body:List Stmt}{R:Result->aP}(h:wpAny (Mo prog w) (A.deeper env) (execs body env) (λf s'=>R (.ok (.ret (match f with|.ret v=>v|_=>.none))) s') (λ_ _=>False) s):codeAny (Mo prog w) A (.func body env) R s:=
 codeAny_func (wpAny_mono h (λ_ _ x=>x) λ_ _ x=>x.elim)
theorem ad.under {d:Nat}{c:Code}(h:ad d A)(hd:d<=14)(hl:uc c=true):ad (d+1) (A.under c):=by
 have:=h.up (κ:=[(c,kr)]) hd (by show(match uc c with|true=>true|false=>false)=true;rw[hl]) rfl
 exact this
theorem yt {K:Nat->Option Obj}{x:Pu}{Q:Result->aP}(p:ak prog w K 9000 x)(hu:A.units<=9000)(hs:∀q∈x.st,s.heap.get? q.1=some q.2)(hb:∀a o,K a=some o->s.heap.get? a=some o)
  (h:Q (.ok (.ret (x.o.v s.toks s.heap.objs.size))) {s with heap:=pushAll s.heap x.o.news,toks:=s.toks+x.o.dt}):codeAny (Mo prog w) A x.c Q s:=by
 refine codeAny_mono (p.2 A s hu hs hb) ?_
 rintro r s' ⟨rfl,rfl⟩
 exact h
end
end Mine

namespace Mine
open PySem PySem.Builtin PySem.Builtin.Str
section
variable{prog:Program}{w:World}{K:Nat->Option Obj}{U:Nat}
noncomputable def Ct (a:Nat)(k:Nat)(v:Value):Sem Fin:=.update a none (Obj.mapSeq (·.setIfInBounds k v)) λ_=>.pure (.done (.ret .none))
theorem nG {a e t:Nat}{k:Int}{xs:aN}{v:Value}(h0:0<=k)(hfit:k<2^63)(hn:k.toNat<xs.size):a9 prog w K ⟨bc "list.__setitem__" [.ref a,.int k t,v],Ct a k.toNat v,[(a,ab xs e)]⟩:=by
 intro A R s hs hb hw
 have ho:=hs _ (.head _)
 rw[Around.under_plain (by rfl) (by rfl)]at hw
 refine codeAny_call_builtin slot_list_setitem.plain entry_list_setitem (slot_list_setitem.check _ _ _ _ _ _ _ _ ⟨_,ho,rfl⟩ (args_list_setitem _ _ _) ?_)
 show wpAny _ _ (Builtin.List.listSubscript? (.int k t) >>= _) _ _ s
 refine wpAny_bind (wpAny_listSubscript_int (fitsIndex_of h0 hfit) ?_)
 clear hfit
 obtain⟨j,rfl⟩:=QJ h0
 have hx':xs[j]?=some xs[j]:=O5 hn
 show wpAny _ _ ((seqItemAt a j >>= λr=>pure (r.map (j,·))) >>= _) _ _ s
 refine wpAny_bind (wpAny_bind (wpAny_seqItemAt ho rfl (wpAny_pure ?_)))
 rw[hx']
 show wpAny _ _ (setSeqItemAt a j v >>= _) _ _ s
 refine wpAny_bind (wpAny_setSeqItemAt ho rfl ?_)
 exact λΓ p hΓ=>(hw Γ p hΓ).2
theorem qi {a e k t:Nat}{xs:aN}{v:Value}(hk:k<xs.size)(hf:k<2^40):a9 prog w K ⟨bc "list.__setitem__" [.ref a,.int (k:Int) t,v],Ct a k v,[(a,ab xs e)]⟩:=
 nG (PY k) (by lia) hk
noncomputable def LR (xs:aN)(k:Nat)(v:Value)(e:Nat):Nat:=if(xs.setIfInBounds k v).size==xs.size then e else e+1
theorem He (xs:aN)(k:Nat)(v:Value)(e:Nat):LR xs k v e=e:=by
 unfold LR
 rw[if_pos (by simp)]
theorem nH {x y z:Str}{t u:Tok}(hs:stripSame y.cps.contains true false x=false)(h:stripped y.cps.contains true false x=z)(hl:z.length<=sizeLine):ak prog w K U ⟨bc "str.lstrip" [.str x t,.str y u],aS z,[]⟩:=
 ag F.slot_str_lstrip (λs _ _=>typeIs_str s x t) F.entry_str_lstrip (F.args_str_lstrip_2 _ _) (λA R s _ _ hR=>gives_str_lstrip_chars x y t u prog w A R s (by rw[if_neg (by simp[hs]),h];exact⟨hl,hR⟩)) nM
end
end Mine

namespace Mine
open PySem
theorem aa.ord {K:Nat->Option Obj}{s:Shared}{l:aK}{nx tok:Nat}(I:aa K s l nx tok)(m:Nat)(is:List Nat)(h:is.Nodup/\∀i∈is,i<m:=by decide):aa K s (Mine.sel l is++l.drop m) nx tok:=by
 have key:∀p∈Mine.sel l is++l.drop m,p∈l:=λp hp=>by
  rcases NK.mp hp with q|q
  ·obtain⟨i,_,e⟩:=iB q
   exact NS e
  ·exact Qc q
 refine⟨λp hp=>I.has p (key p hp),?_,I.base,λa o ha hm=>?_,I.nx,I.tok⟩
 ·rw[NO,Oh]
  refine⟨my I.nodup h.1,((Qw m l).map _).nodup I.nodup,λa ha c hc e=>?_⟩
  subst e
  obtain⟨p,hp,rfl⟩:=NL.mp ha
  obtain⟨q,hq,e2⟩:=NL.mp hc
  obtain⟨i,hi,e⟩:=iB hp
  obtain⟨j,hj⟩:=OV.mp hq
  rw[PX]at hj
  have:=pq I.nodup e hj e2.symm
  have:=h.2 i hi
  lia
 ·obtain⟨p,hp,e⟩:=NL.mp hm
  exact I.off a o ha (NL.mpr ⟨p,key p hp,e⟩)
end Mine

namespace Mine
open PySem PyProof.Rows
noncomputable abbrev aM:Obj:=⟨.type "cell",none,.cell none,#[]⟩
noncomputable abbrev Hf (vs:List Value):Obj:=⟨.type "tuple",none,.seq vs.toArray 0,#[]⟩
noncomputable def qU (q:Nat->Nat)(i t:Nat)(j:Nat):Nat:=if j=i then t else q j
noncomputable def fN (it:Nat):Sem Fin:=PySem.W.R.bindR (pyNext (.ref (it+200))) λo=>.pure (.done (match o with|some v=>.ret v|none=>.next))
noncomputable def kN (t:Rg)(env:Env)(v:Value):Sem Fin:=PySem.W.R.bindR (assign t env v) λ_=>.pure (.done .next)
noncomputable def BN (e:Rg):Rg×Rg×Rg×List Rg×Scope×Pos:=match e with
 | .ListComp elt [⟨t,i,ifs,_⟩] sc p=>(elt,t,i,ifs,sc,p)
 | _=>default
abbrev jY (e:Rg):Rg:=.ListComp (BN e).1 [⟨(BN e).2.1,(BN e).2.2.1,(BN e).2.2.2.1,0⟩] (BN e).2.2.2.2.1 (BN e).2.2.2.2.2
section
variable{prog:Program}{w:World}{A:Around}{s:Shared}
theorem bN {it:Nat}{Q:Option Value->aP}{E:Value->aP}(h:an prog w A (λfin s'=>match fin with|.done (.ret v)=>Q (some v) s'|.done .next=>Q none s'|_=>False) E [] (fN it) s):wpAny (Mo prog w) A (pyNext (.ref (it+200))) Q E s:=by
 intro Γ p hΓ
 have:=h Γ p hΓ
 unfold fN at this
 rw[<-PySem.W.R.bindR_eq]at this
 have e:=(Sem.wp_bind' (Mo prog w) Γ (pyNext (.ref (it+200))) (λo=>(.pure (.done (match o with|some v=>.ret v|none=>.next)):Sem Fin)) (λa _ s'=>(match a with|.done (.ret v)=>Q (some v) s'|.done .next=>Q none s'|_=>False)) (λe _ s'=>E e s') p s).mp this
 refine Sem.wp_mono (Mo prog w) Γ _ (λo p' s' h'=>?_) (λ_ _ _ h'=>h') _ _ e
 cases o<;>exact h'
theorem fy {t:Rg}{v:Value}{Q:Unit->aP}{E:Value->aP}(h:an prog w A (λfin s'=>match fin with|.done .next=>Q () s'|_=>False) E [] (kN t env v) s):wpAny (Mo prog w) A (assign t env v) Q E s:=by
 intro Γ p hΓ
 have:=h Γ p hΓ
 unfold kN at this
 rw[<-PySem.W.R.bindR_eq]at this
 exact(Sem.wp_bind' (Mo prog w) Γ (assign t env v) (λ_=>(.pure (.done .next):Sem Fin)) (λa _ s'=>(match a with|.done .next=>Q () s'|_=>False)) (λe _ s'=>E e s') p s).mp this
theorem iO {e:Rg}(he:e=jY e){it:Nat}{i left step:Int}{acc:Value}{env:Env}{R:Result->aP}(hit:s.heap.get? it=some (bL i left step))
  (h:codeAny (Mo prog w) A (.compLoop e 0 (.ref it) acc env) R s):codeAny (Mo prog w) A (.compStart e 0 (.ref it) acc env) R s:=by
 rw[he]at h ⊢
 exact codeAny_compStart_list h (wpAny_pyIter_rangeiter hit h)
theorem cx {e:Rg}(he:e=jY e){it l i:Nat}{acc:Value}{env:Env}{R:Result->aP}(hit:s.heap.get? it=some (ba l (i:Int)))
  (h:codeAny (Mo prog w) A (.compLoop e 0 (.ref it) acc env) R s):codeAny (Mo prog w) A (.compStart e 0 (.ref it) acc env) R s:=by
 rw[he]at h ⊢
 exact codeAny_compStart_list h (wpAny_pyIter_listiter ⟨_,hit,rfl,rfl⟩ h)
end
section
variable{b:Bool}{w:World}{B:Bx (KL (PB b w))}{A:Around}{Q:Fin->aP}{E:Value->aP}{ops:List Op}{os:List ir}{s:Shared}{pu:List Pu}{al:List Al}{ks:List Nat}
theorem rF {d:Nat}(hA:ad d A){D:SD}{R:List (Addr×Obj)}(seg:SK b w D)(hp:∀x∈D.pu,ak PW (WB b w) (KL (PB b w)) 9000 x)(ha:∀x∈D.al,a9 PW (WB b w) (KL (PB b w)) x)(I:aa B.f s (D.g.st++R) D.g.nx D.g.tok)
  (h:∀s',aa B.f s' (D.h.st++R) D.h.nx D.h.tok->bZ s s'->an PW (WB b w) A Q E D.h.κ D.h.t s') {κ:bY} {t:Sem Fin} (ek:D.g.κ=κ:=by first|with_reducible rfl|rfl) (et:D.g.t=t:=by first|with_reducible rfl|rfl):an PW (WB b w) A Q E κ t s:=ek▸et▸GQ (ax _) hA.depth hA.units hA.handled seg hp ha I h
theorem Nn {d:Nat}(hA:ad d A){t t':Sem Fin}{κ κ':bY}{st st' R:aK}{nx nx' tok tok':Nat}
  (seg:nj ks (go aA (SB b w) (KL (PB b w)) 300 ops os ⟨t,κ,st,nx,tok⟩)=nk pu ⟨t',κ',st',nx',tok'⟩ al (go aA (SB b w) (KL (PB b w)) 300 ops os ⟨t,κ,st,nx,tok⟩)) (hp:∀x∈pu,ak PW (WB b w) (KL (PB b w)) 9000 x) (ha:∀x∈al,a9 PW (WB b w) (KL (PB b w)) x) (I:aa B.f s (st++R) nx tok)
  (h:∀s',aa B.f s' (st'++R) nx' tok'->bZ s s'->an PW (WB b w) A Q E κ' t' s'):an PW (WB b w) A Q E κ t s:=GQ (ax _) hA.depth hA.units hA.handled seg hp ha I h
theorem Gc {d:Nat}(hA:ad d A){rn:Option bo}{t:Sem Fin}{κ:bY}{st₀ R:aK}{nx₀ tok₀:Nat}(hr:rn=go aA (SB b w) (KL (PB b w)) 300 ops os ⟨t,κ,st₀,nx₀,tok₀⟩){c:Code}{st:aK}{nx tok:Nat}
  (seg:mc ks rn=md pu c st nx tok al rn) (hp:∀x∈pu,ak PW (WB b w) (KL (PB b w)) 9000 x) (ha:∀x∈al,a9 PW (WB b w) (KL (PB b w)) x) (I:aa B.f s (st₀++R) nx₀ tok₀)
  (h:∀s',aa B.f s' (st++R) nx tok->bZ s s'->codeAny (Mo PW (WB b w)) (ar A (bH rn)) c (λr s''=>an PW (WB b w) A Q E (bH rn) (dH (fR rn) r) s'') s') :
  an PW (WB b w) A Q E κ t s:=JB hr (ax _) hA.depth hA.units hA.handled seg hp ha I h
theorem fz {d:Nat}(hA:ad d A){D:SC}{rn:Option bo}{R:List (Addr×Obj)}(seg:SQ D rn)(hr:rn=dR b w D)(hp:∀x∈D.pu,ak PW (WB b w) (KL (PB b w)) 9000 x)(ha:∀x∈D.al,a9 PW (WB b w) (KL (PB b w)) x)(I:aa B.f s (D.g.st++R) D.g.nx D.g.tok)
  (h:∀s',aa B.f s' (D.st++R) D.nx D.tok->bZ s s'->codeAny (Mo PW (WB b w)) (ar A (bH rn)) D.c (λr s''=>an PW (WB b w) A Q E (bH rn) (dH (fR rn) r) s'') s') {κ:bY} {t:Sem Fin} (ek:D.g.κ=κ:=by first|with_reducible rfl|rfl) (et:D.g.t=t:=by first|with_reducible rfl|rfl):
  an PW (WB b w) A Q E κ t s:=ek▸et▸Gc hA hr seg hp ha I h
theorem JW {d:Nat}(hA:ad d A){rn:Option bo}{t:Sem Fin}{κ:bY}{st₀ R:aK}{nx₀ tok₀:Nat}{c:Code}{st:aK}{nx tok:Nat}
  (seg:mc ks rn=md pu c st nx tok al rn) (hr:rn=go aA (SB b w) (KL (PB b w)) 300 ops os ⟨t,κ,st₀,nx₀,tok₀⟩) (hp:∀x∈pu,ak PW (WB b w) (KL (PB b w)) 9000 x) (ha:∀x∈al,a9 PW (WB b w) (KL (PB b w)) x) (I:aa B.f s (st₀++R) nx₀ tok₀)
  (h:∀s',aa B.f s' (st++R) nx tok->bZ s s'->codeAny (Mo PW (WB b w)) (ar A (bH rn)) c (λr s''=>an PW (WB b w) A Q E (bH rn) (dH (fR rn) r) s'') s') :
  an PW (WB b w) A Q E κ t s:=Gc hA hr seg hp ha I h
theorem rS {d:Nat}(hA:ad d A){x y:Stmt}(hy:y=x){env:Env}{Q:Flow->aP}{E:Value->aP}{f:Flow}{st st' R:aK}{nx nx' tok tok':Nat}
  (seg:nj ks (go aA (SB b w) (KL (PB b w)) 300 ops os ⟨a0 x env,[],st,nx,tok⟩)=nk pu ⟨.pure (.done f),[],st',nx',tok'⟩ al (go aA (SB b w) (KL (PB b w)) 300 ops os ⟨a0 x env,[],st,nx,tok⟩)) (hp:∀x∈pu,ak PW (WB b w) (KL (PB b w)) 9000 x) (ha:∀x∈al,a9 PW (WB b w) (KL (PB b w)) x) (I:aa B.f s (st++R) nx tok)
  (h:∀s',aa B.f s' (st'++R) nx' tok'->bZ s s'->Q f s'):wpAny (Mo PW (WB b w)) A (exec y env) Q E s:=by
 subst hy
 exact aX (GQ (ax _) hA.depth hA.units hA.handled seg hp ha I λs' I' k'=>ap (h s' I' k'))
end
end Mine

namespace Mine
open PySem PySem.Builtin
abbrev Dk:=List (Str×Nat×Value)
noncomputable def a7 (P:Params)(l:Dk):Array DictEntry:=(l.map λx=>(⟨PyData.keyHash P x.1,.str x.1 x.2.1,x.2.2⟩:DictEntry)).toArray
noncomputable def bM (l:Dk)(k:Str):Option Value:=(l.find? λx=>x.1=k).map (·.2.2)
theorem iP (P:Params)(l:Dk)(k:Str)(t:Nat)(v:Value):(a7 P l).push ⟨PyData.keyHash P k,.str k t,v⟩=a7 P (l++[(k,t,v)]):=by simp[a7]
theorem iQ (P:Params)(l:Dk):(a7 P l).size=l.length:=by simp[a7]
section
variable{prog:Program}{w:World}{K:Nat->Option Obj}{U:Nat}
theorem iR (l:Dk):KeysOf (strKind prog w) (a7 w.params l):=by
 intro e he
 simp only[a7,QG,NL]at he
 obtain⟨x,_,rfl⟩:=he
 exact⟨x.1,strKind_is prog w x.1 x.2.1,rfl⟩
theorem kO (l:Dk)(k:Str):((a7 w.params l).findIdx? λe=>(strKind prog w).is k e.key)=l.findIdx? λx=>x.1=k:=by
 simp only[a7,List.findIdx?_toArray,List.findIdx?_map]
 congr 1
theorem jx {l:Dk}{k:Str}(h:bM l k=none):(l.findIdx? λx=>x.1=k)=none:=by
 unfold bM at h
 simp only[Pf,Ps]at h
 rw[PR]
 intro x hx
 simpa using h x hx
theorem mP {l:Dk}{k:Str}{v:Value}(h:bM l k=some v):∃i t,(l.findIdx? λx=>x.1=k)=some i/\l[i]?=some (k,t,v):=by
 unfold bM at h
 obtain⟨x,hx,rfl⟩:=Pw.mp h
 cases hi:l.findIdx? λx=>decide (x.1=k)with
 | none =>
  rw[PR]at hi
  have:=QS hx
  rw[hi x (Qx hx)]at this
  cases this
 | some i =>
  have hk:x.1=k:=by simpa using QS hx
  refine⟨i,x.2.1,rfl,?_⟩
  rw[List.find?_eq_some_iff_getElem]at hx
  obtain⟨_,j,hj,e,hlt⟩:=hx
  rw[P5]at hi
  obtain⟨hi1,hi2,hi3⟩:=hi
  have:i=j:=by
   rcases Nat.lt_trichotomy i j with q|q|q
   ·have:=hlt i q;rw[hi2]at this;cases this
   ·exact q
   ·have q2:=hi3 j q
    rw[e,hk]at q2;simp at q2
  subst this
  rw[NZ hj,e,<-hk]
theorem yu {s:Shared}{a e:Nat}{es:Array DictEntry}{st:aK}(h:∀p∈(a,j1 es e)::st,s.heap.get? p.1=some p.2):s.TypeIs (.ref a) "dict":=⟨_,h _ (.head _),rfl⟩
theorem sb {s:Shared}{a e:Nat}{l:Dk}(ho:s.heap.get? a=some (j1 (a7 w.params l) e)):s.heap.MapOf (strKind prog w) a (bM l):=by
 refine⟨_,_,_,ho,⟨rfl,rfl,rfl⟩,rfl,iR l,λk=>?_⟩
 rw[findBy_of_findIdx?,kO]
 cases h:bM l k with
 | none=>rw[jx h]
 | some v =>
  obtain⟨i,t,h1,h2⟩:=mP h
  rw[h1]
  simp[a7,h2]
theorem JX {s:Shared}{a e:Nat}{l:Dk}(ho:s.heap.get? a=some (j1 (a7 w.params l) e))(h:l.length<=1000):s.heap.DictLe a sizeLine:=by
 intro o es ep ho' hd
 rw[ho]at ho'
 cases ho'
 cases hd
 rw[iQ]
 have l5:2000<=sizeLine:=by decide +kernel
 lia
theorem fZ {a e:Nat}{l:Dk}{k:Str}{t:Nat}{r:Bool}(hd:a≠1)(h:(bM l k).isSome=r):ak prog w K U ⟨bc "dict.__contains__" [.ref a,.str k t],eI (.bool r),[(a,j1 (a7 w.params l) e)]⟩:=by
 refine ag F.slot_dict_contains (λs hs _=>yu hs) F.entry_dict_contains (F.args_dict_contains_2 _ _) (λA R s hs hb hR=>?_) nM
 refine meets_dict_contains (strKind prog w) a (strKind_is prog w k t) (by simpa[sysModules]using hd) A R s ⟨_,sb (hs _ (.head _)),?_⟩
 rw[h];exact hR
theorem fC {a e:Nat}{l:Dk}{k:Str}{t:Nat}{v:Value}(h:bM l k=some v):ak prog w K U ⟨bc "dict.__getitem__" [.ref a,.str k t],eI v,[(a,j1 (a7 w.params l) e)]⟩:=by
 refine ag F.slot_dict_getitem (λs hs _=>yu hs) F.entry_dict_getitem (F.args_dict_getitem_2 _ _) (λA R s hs hb hR=>?_) nM
 exact meets_dict_getitem (strKind prog w) a (strKind_is prog w k t) A R s ⟨_,v,sb (hs _ (.head _)),h,hR⟩
theorem fD {a e:Nat}{l:Dk}{k:Str}{t:Nat}{v d:Value}(hd:a≠1)(hl:l.length<=1000)(h:bM l k=some v):ak prog w K U ⟨bc "dict.setdefault" [.ref a,.str k t,d],eI v,[(a,j1 (a7 w.params l) e)]⟩:=by
 refine ag F.slot_dict_setdefault (λs hs _=>yu hs) F.entry_dict_setdefault (F.args_dict_setdefault_3 _ _ _) (λA R s hs hb hR=>?_) nM
 exact meets_dict_setdefault (strKind prog w) a (strKind_is prog w k t) (by simpa[sysModules]using hd) d A R s ⟨_,sb (hs _ (.head _)),JX (hs _ (.head _)) hl,λv' hv=>by rw[h]at hv;cases hv;exact hR,λhn=>by rw[h]at hn;cases hn⟩
noncomputable def jZ (a:Nat)(h:Int)(k:Str)(t:Nat)(v r:Value):Sem Fin:=.fresh λ_=>.update a none (Obj.mapDictKeys (·.push ⟨h,.str k t,v⟩)) λ_=>.pure (.done (.ret r))
theorem gY {a e:Nat}{l:Dk}{k:Str}{t:Nat}{v:Value}(hl:l.length<=1000)(h:bM l k=none):a9 prog w K ⟨bc "dict.__setitem__" [.ref a,.str k t,v],jZ a (PyData.keyHash w.params k) k t v .none,[(a,j1 (a7 w.params l) e)]⟩:=by
 intro A R s hs hb hw
 have ho:=hs _ (.head _)
 rw[Around.under_plain (by rfl) (by rfl)]at hw
 refine codeAny_call_builtin F.slot_dict_setitem.plain F.entry_dict_setitem (F.slot_dict_setitem.check _ _ _ _ _ _ _ _ ⟨_,ho,rfl⟩ (F.args_dict_setitem_3 _ _ _) ?_)
 show wpAny _ _ (Builtin.Dict.notOrdered "__setitem__" ⟨[.ref a,.str k t,v],[]⟩ >>= _) _ _ s
 refine wpAny_bind (wpAny_notOrdered_dict ⟨_,ho,rfl⟩ ?_)
 show wpAny _ _ (dictSet a (.str k t) v >>= _) _ _ s
 unfold dictSet
 refine wpAny_bind (wpAny_holding (wpAny_bind ((strKind prog w).pyHash (strKind_is prog w k t) ?_)))
 unfold dictSetHashed
 refine wpAny_holding (wpAny_bind (wpAny_dictFind_of (s:={s with toks:=s.toks+1}) (strKind_is prog w k t) ho rfl (iR l) ?_))
 rw[kO,jx h]
 have l5:2000<=sizeLine:=by decide +kernel
 refine wpAny_bind (wpAny_rule (wpAny_updateDictKeys (s:={s with toks:=s.toks+1}) ho rfl ?_ (by rw[iQ];lia)))
 exact λΓ p hΓ=>(hw Γ p hΓ).2
theorem eK {a e:Nat}{l:Dk}{k:Str}{t:Nat}{v:Value}(hd:a≠1)(hl:l.length<=1000)(h:bM l k=none):a9 prog w K ⟨bc "dict.setdefault" [.ref a,.str k t,v],jZ a (PyData.keyHash w.params k) k t v v,[(a,j1 (a7 w.params l) e)]⟩:=by
 intro A R s hs hb hw
 have ho:=hs _ (.head _)
 have hd':(a==sysModules)=false:=by simpa[sysModules]using hd
 rw[Around.under_plain (by rfl) (by rfl)]at hw
 refine codeAny_call_builtin F.slot_dict_setdefault.plain F.entry_dict_setdefault (F.slot_dict_setdefault.check _ _ _ _ _ _ _ _ ⟨_,ho,rfl⟩ (F.args_dict_setdefault_3 _ _ _) ?_)
 have l5:2000<=sizeLine:=by decide +kernel
 unfold Builtin.«dict.setdefault»
 refine wpAny_bind ?_
 unfold Builtin.Dict.keyAndDefault
 refine wpAny_bind (wpAny_notOrdered_dict ⟨_,ho,rfl⟩ ?_)
 show wpAny _ _ (pure (a,Value.str k t,some v)) _ _ s
 refine wpAny_pure ?_
 show wpAny _ _ (if(a==sysModules)=true then _ else(dictSetDefault a (.str k t) v >>= _)) _ _ s
 rw[if_neg (by rw[hd'];exact Pr)]
 unfold dictSetDefault
 refine wpAny_bind (wpAny_holding (wpAny_bind ((strKind prog w).pyHash (strKind_is prog w k t) ?_)))
 refine wpAny_bind (wpAny_dictFind_of (s:={s with toks:=s.toks+1}) (strKind_is prog w k t) ho rfl (iR l) ?_)
 rw[kO,jx h]
 refine wpAny_bind (wpAny_rule (wpAny_bind (wpAny_updateDictKeys (s:={s with toks:=s.toks+1}) ho rfl ?_ (by rw[iQ];lia))))
 exact wpAny_pure (λΓ p hΓ=>(hw Γ p hΓ).2)
theorem dY {a c e f:Nat}{xs ys:aN}(hz:xs.size+ys.size<=1000):ak prog w K U ⟨bc "list.__add__" [.ref a,.ref c],aR (ab (xs++ys) 0),[(a,ab xs e),(c,ab ys f)]⟩:=by
 refine ag F.slot_list_add (λs hs _=>⟨_,hs _ (.head _),rfl⟩) F.entry_list_add (F.args_list_add_2 _ _) (λA R s hs hb hR=>?_) (by rintro x (_|⟨_,⟨⟩⟩);rfl)
 have l5:2000<=sizeLine:=by decide +kernel
 exact AutoSeq1.list___add___list_list_0 a xs e c ys f (by lia) prog w A R s ⟨hs _ (.head _),hs _ (.tail _ (.head _)),hR⟩
end
end Mine

set_option genInjectivity false
set_option genSizeOf false
set_option genCtorIdx false
namespace Mine
open PySem PyProof.Rows
noncomputable def ux:Bool->Keyed->Array Keyed->Nat->Nat->Nat->StateT SortSt Sem (Option Nat):=sortPriv% PySem.Builtin.gallop
noncomputable def qj:Array Keyed->Array Keyed->StateT SortSt Sem (Array Keyed):=sortPriv% PySem.Builtin.mergeLo
noncomputable def qk:Array Keyed->Array Keyed->StateT SortSt Sem (Array Keyed):=sortPriv% PySem.Builtin.mergeHi
def bh (xs:Array Keyed):Prop:=∀p∈xs.toList,∃x t,p.1=.str x t
structure Wb (a₀:Array Keyed)(P:Array (Nat×Nat×Nat))(st:SortSt):Prop where
 perm:(arrOf st).Perm a₀
 kind:kindOf st=oneType'
 failed:failedOf st=none
 pend:pendingOf st=P
section
variable{prog:Program}{w:World}{A:Around}{E:Value->Shared->Prop}{s:Shared}{a₀:Array Keyed}{P:Array (Nat×Nat×Nat)}
theorem Wb.size {st:SortSt}(h:Wb a₀ P st):(arrOf st).size=a₀.size:=h.perm.size_eq
theorem Wb.str {st:SortSt}(h:Wb a₀ P st)(h0:bh a₀):bh (arrOf st):=λp hp=>h0 p ((Oz.mp h.perm).mem_iff.mp hp)
theorem Wb.setArr {st:SortSt}(h:Wb a₀ P st){xs:Array Keyed}(hp:xs.Perm (arrOf st)):Wb a₀ P (setArr st xs):=⟨hp.trans h.perm,h.kind,h.failed,h.pend⟩
theorem bh.at {xs:Array Keyed}(h:bh xs){i:Nat}(hi:i<xs.size):∃x t q,xs[i]?=some (.str x t,q):=by
 obtain⟨x,t,e⟩:=h xs[i] (by simp)
 exact⟨x,t,xs[i].2,by rw[getElem?_pos xs i hi];exact congrArg some (Prod.ext e rfl)⟩
theorem bB {arr:Array Keyed}{i:Nat}{p:Keyed}(h:arr[i]?=some p){Q:Keyed->SortSt->Prop}{st:SortSt}(hq:Q p st):wpS (model prog w) A E s (elem' arr i) Q st:=by
 rw[elem'_eq,h];exact wpS_pure hq
theorem ql {x y:Str}{t u:Tok}{p q:Value}{st:SortSt}(hk:kindOf st=oneType'){Q:Option Bool->SortSt->Prop}(h:∀b,Q (some b) st):wpS (model prog w) A E s (lt' (.str x t,p) (.str y u,q)) Q st:=by
 rw[lt'_eq]
 refine wpS_bind (wpS_get ?_)
 rw[hk,keyLt'_oneType]
 refine wpS_bind (wpS_lift (wpAny_attempt (strKind_oneLt prog w A _ s _ _ _ _ rfl rfl ⟨rfl,?_⟩)))
 exact wpS_pure (h _)
theorem iS {st:SortSt}(hB:Wb a₀ P st)(h0:bh a₀){i j:Nat}(hi:i<a₀.size)(hj:j<a₀.size){Q:Option Bool->SortSt->Prop}(h:∀b,Q (some b) st):wpS (model prog w) A E s (ltAt' i j) Q st:=by
 have hs:=hB.str h0
 obtain⟨x,t,q,e⟩:=hs.at (by rw[hB.size];exact hi)
 obtain⟨y,u,r,e2⟩:=hs.at (by rw[hB.size];exact hj)
 rw[ltAt'_eq]
 refine wpS_bind (wpS_get ?_)
 show wpS _ _ _ _ (do let x <-elem' (arrOf st) i;let y <-elem' (arrOf st) j;lt' x y) Q st
 exact wpS_bind (bB e (wpS_bind (bB e2 (ql hB.kind h))))
theorem eB {m:String}{Q:Unit->SortSt->Prop}{st:SortSt}(h:Q () st):wpS (model prog w) A E s (liftM (rule m):StateT SortSt Sem Unit) Q st:=wpS_lift (wpAny_rule ⟨rfl,h⟩)
theorem f0 {i j:Nat}{st:SortSt}(hB:Wb a₀ P st){Q:Unit->SortSt->Prop}(h:∀st',Wb a₀ P st'->Q () st'):wpS (model prog w) A E s (reverseSlice' i j) Q st:=by
 rw[reverseSlice'_eq];exact wpS_modify (h _ (hB.setArr (mirror_perm _ _ _ _)))
theorem qm {lo nrem:Nat}(h0:bh a₀)(hl:lo+nrem<=a₀.size){st:SortSt}{n:Nat}(h1:1<=n)(hn:n<=nrem)(hB:Wb a₀ P st){Q:Option (Option Nat)×Nat->SortSt->Prop}(h:∀m st',Wb a₀ P st'->n<=m->m<=nrem->Q (none,m) st') :
  wpS (model prog w) A E s (forIn [n:nrem] ((none,n):Option (Option Nat)×Nat) λ_ c=>do
   match <-ltAt' (lo+c.2) (lo+c.2-1)with
   | some smaller=>if smaller=true then pure (ForInStep.done (none,c.2))else pure (ForInStep.yield (none,c.2+1))
   | _=>pure (ForInStep.done (some none,c.2))) Q st:=by
 refine wpS_forRange (I:=λi c st'=>c=(none,i)/\Wb a₀ P st') ?_ ?_ ⟨rfl,hB⟩
 ·rintro i c st' hi1 hi2 ⟨rfl,hB'⟩
  refine wpS_bind (iS hB' h0 (by dsimp only;lia) (by dsimp only;lia) λb=>?_)
  cases b
  ·exact wpS_pure ⟨rfl,hB'⟩
  ·exact wpS_pure (h i st' hB' hi1 (by lia))
 ·rintro c st' ⟨rfl,hB'⟩
  exact h _ st' hB' (Nat.le_max_left _ _) (by lia)
theorem uy {lo nrem:Nat}(h0:bh a₀)(hl:lo+nrem<=a₀.size){st:SortSt}{n:Nat}(h1:1<=n)(hn:n<=nrem)(hB:Wb a₀ P st){Q:Option (Option Nat)×Nat×Nat->SortSt->Prop}(h:∀m q st',Wb a₀ P st'->n<=m->m<=nrem->Q (none,m,q) st') :
  wpS (model prog w) A E s (forIn [n:nrem] ((none,n,0):Option (Option Nat)×Nat×Nat) λ_ c=>do
   match <-ltAt' (lo+c.2.1) (lo+c.2.1-1)with
   | some smaller =>
    if smaller=true then
     if c.2.2>0 then do
      reverseSlice' (lo+c.2.1-(c.2.2+1)) (lo+c.2.1)
      pure (ForInStep.yield (none,c.2.1+1,0))
     else pure (ForInStep.yield (none,c.2.1+1,0))
    else do
     match <-ltAt' (lo+c.2.1-1) (lo+c.2.1)with
     | some larger=>if larger=true then pure (ForInStep.done (none,c.2.1,c.2.2))else pure (ForInStep.yield (none,c.2.1+1,c.2.2+1))
     | _=>pure (ForInStep.done (some none,c.2.1,c.2.2))
   | _=>pure (ForInStep.done (some none,c.2.1,c.2.2))) Q st:=by
 refine wpS_forRange (I:=λi c st'=>(∃q,c=(none,i,q))/\Wb a₀ P st') ?_ ?_ ⟨⟨0,rfl⟩,hB⟩
 ·rintro i c st' hi1 hi2 ⟨⟨q,rfl⟩,hB'⟩
  refine wpS_bind (iS hB' h0 (by dsimp only;lia) (by dsimp only;lia) λb=>?_)
  cases b
  ·refine wpS_bind (iS hB' h0 (by dsimp only;lia) (by dsimp only;lia) λb=>?_)
   cases b
   ·exact wpS_pure ⟨⟨_,rfl⟩,hB'⟩
   ·exact wpS_pure (h i q st' hB' hi1 (by lia))
  ·dsimp only
   rw[if_pos rfl]
   split
   ·exact wpS_bind (f0 hB' λst2 hB2=>wpS_pure ⟨⟨_,rfl⟩,hB2⟩)
   ·exact wpS_pure ⟨⟨_,rfl⟩,hB'⟩
 ·rintro c st' ⟨⟨q,rfl⟩,hB'⟩
  exact h _ q st' hB' (Nat.le_max_left _ _) (by lia)
theorem qn {lo nrem:Nat}(h0:bh a₀)(hl:lo+nrem<=a₀.size)(h1:1<=nrem){st:SortSt}(hB:Wb a₀ P st){Q:Option Nat->SortSt->Prop}(h:∀n st',Wb a₀ P st'->1<=n->n<=nrem->Q (some n) st') :
  wpS (model prog w) A E s (countRun' lo nrem) Q st:=by
 rw[countRun'_eq]
 refine wpS_bind (qm h0 hl (NT 1) h1 hB λm st1 hB1 hm1 hm2=>?_)
 dsimp only
 split
 ·rename_i e
  exact wpS_pure (h m st1 hB1 hm1 hm2)
 have hlt:m+1<=nrem:=by
  rename_i e
  have:m≠nrem:=by simpa using e
  exact OO hm2 this
 have fin:∀k st2,Wb a₀ P st2->m+1<=k->k<=nrem->Q (some k) st2:=λk st2 h2 h3 h4=>h k st2 h2 (NU hm1 (OZ h3)) h4
 have hlm:lo+m<a₀.size:=Os (Nat.add_lt_add_left hlt lo) hl
 have hm0:1<=m+1:=PM (OI m)
 split
 ·refine wpS_bind (iS hB1 h0 (O7 (PL lo m) hlm) (O7 (O2 _ _) hlm) λb=>?_)
  cases b
  ·refine wpS_bind (f0 hB1 λst2 hB2=>wpS_bind (eB ?_))
   refine wpS_bind (uy h0 hl hm0 hlt hB2 λk q st3 hB3 hk1 hk2=>?_)
   dsimp only
   split
   ·exact wpS_bind (f0 hB3 λst4 hB4=>wpS_bind (f0 hB4 λst5 hB5=>wpS_bind (qm h0 hl (NU hm0 hk1) hk2 hB5 λj st6 hB6 hj1 hj2=>wpS_pure (fin j st6 hB6 (NU hk1 hj1) hj2))))
   ·exact wpS_bind (f0 hB3 λst5 hB5=>wpS_bind (qm h0 hl (NU hm0 hk1) hk2 hB5 λj st6 hB6 hj1 hj2=>wpS_pure (fin j st6 hB6 (NU hk1 hj1) hj2)))
  ·exact wpS_pure (h m st1 hB1 hm1 hm2)
 ·refine wpS_bind (eB ?_)
  refine wpS_bind (uy h0 hl hm0 hlt hB1 λk q st3 hB3 hk1 hk2=>?_)
  dsimp only
  split
  ·exact wpS_bind (f0 hB3 λst4 hB4=>wpS_bind (f0 hB4 λst5 hB5=>wpS_bind (qm h0 hl (NU hm0 hk1) hk2 hB5 λj st6 hB6 hj1 hj2=>wpS_pure (fin j st6 hB6 (NU hk1 hj1) hj2))))
  ·exact wpS_bind (f0 hB3 λst5 hB5=>wpS_bind (qm h0 hl (NU hm0 hk1) hk2 hB5 λj st6 hB6 hj1 hj2=>wpS_pure (fin j st6 hB6 (NU hk1 hj1) hj2)))
theorem yv {lo n ok:Nat}(h0:bh a₀)(hl:lo+n<=a₀.size){st:SortSt}(hB:Wb a₀ P st){Q:Bool->SortSt->Prop}(h:∀st',Wb a₀ P st'->Q true st'):wpS (model prog w) A E s (binarySort' lo n ok) Q st:=by
 rw[binarySort'_eq]
 refine wpS_bind (wpS_forRange (I:=λ_ c st'=>c=(none,())/\Wb a₀ P st') ?_ ?_ ⟨rfl,hB⟩)
 ·rintro k c st' _ hk ⟨rfl,hB'⟩
  refine wpS_bind (wpS_mono (wpS_forRange (I:=λ_ c st''=>(∃l r,c=(none,l,r)/\r<=k)/\Wb a₀ P st'') (Q:=λc st''=>(∃l r,c=(none,l,r)/\r<=k)/\Wb a₀ P st'') ?_ (λ_ _ h=>h) ⟨⟨0,k,rfl,NT k⟩,hB'⟩) ?_)
  ·rintro x c st'' _ _ ⟨⟨l,r,rfl,hr⟩,hB2⟩
   dsimp only
   split
   ·exact wpS_pure ⟨⟨l,r,rfl,hr⟩,hB2⟩
   ·refine wpS_bind (iS hB2 h0 (by lia) (by lia) λb=>?_)
    cases b
    ·exact wpS_pure ⟨⟨_,_,rfl,hr⟩,hB2⟩
    ·exact wpS_pure ⟨⟨_,_,rfl,by lia⟩,hB2⟩
  ·rintro c st'' ⟨⟨l,r,rfl,hr⟩,hB2⟩
   show wpS _ _ _ _ (do moveDown' (lo+k) (lo+l);pure (ForInStep.yield (none,()))) _ _
   rw[moveDown'_eq]
   exact wpS_bind (wpS_modify (wpS_pure ⟨rfl,hB2.setArr (bubble_perm _ _ _)⟩))
 ·rintro c st' ⟨rfl,hB'⟩
  exact wpS_pure (h st' hB')
theorem dT {left:Bool}{y:Str}{u:Tok}{r:Value}{arr:Array Keyed}(ha:bh arr){base n hint:Nat}(hb:base+n<=arr.size)(hh:hint<n){st:SortSt}(hk:kindOf st=oneType'){Q:Option Nat->SortSt->Prop}(h:∀k,k<=n->Q (some k) st) :
  wpS (model prog w) A E s (ux left (.str y u,r) arr base n hint) Q st:=by
 have bey:∀i,i<n->∀{Q':Option Bool->SortSt->Prop},(∀b,Q' (some b) st)->wpS (model prog w) A E s (do
   let x <-elem' arr (base+i)
   if left=true then lt' x (.str y u,r)
   else do
    let z <-lt' (.str y u,r) x
    pure (z.map (!·))) Q' st:=λi hi Q' hq=>by
  obtain⟨x,t,q,e⟩:=ha.at (i:=base+i) (Os (Nat.add_lt_add_left hi base) hb)
  refine wpS_bind (bB e ?_)
  cases left
  ·exact wpS_bind (ql hk λb=>wpS_pure (hq _))
  ·exact ql hk hq
 unfold ux
 refine wpS_bind (bey hint hh λb=>?_)
 cases b
 ·refine wpS_bind (wpS_mono (wpS_forRange (I:=λ_ c st'=>(∃l o,c=(none,l,o))/\st'=st) (Q:=λc st'=>(∃l o,c=(none,l,o))/\st'=st) ?_ (λ_ _ h=>h) ⟨⟨0,1,rfl⟩,rfl⟩) ?_)
  ·rintro x c st' _ _ ⟨⟨l,o,rfl⟩,rfl⟩
   dsimp only
   split
   ·exact wpS_pure ⟨⟨l,o,rfl⟩,rfl⟩
   ·refine wpS_bind (bey (hint-o) (O7 (O2 _ _) hh) λb=>?_)
    cases b
    ·exact wpS_pure ⟨⟨_,_,rfl⟩,rfl⟩
    ·exact wpS_pure ⟨⟨_,_,rfl⟩,rfl⟩
  ·rintro c st' ⟨⟨l,o,rfl⟩,rfl⟩
   refine wpS_bind (wpS_mono (wpS_forRange (I:=λ_ c st''=>(∃l h,c=(none,l,h)/\h<=n)/\st''=st') (Q:=λc st''=>(∃l h,c=(none,l,h)/\h<=n)/\st''=st') ?_ (λ_ _ h=>h) ⟨⟨_,_,rfl,by lia⟩,rfl⟩) ?_)
   ·rintro x c st'' _ _ ⟨⟨l,g,rfl,hg⟩,rfl⟩
    dsimp only
    split
    ·exact wpS_pure ⟨⟨l,g,rfl,hg⟩,rfl⟩
    ·refine wpS_bind (bey (l+(g-l) / 2) (by lia) λb=>?_)
     cases b
     ·exact wpS_pure ⟨⟨_,_,rfl,by lia⟩,rfl⟩
     ·exact wpS_pure ⟨⟨_,_,rfl,hg⟩,rfl⟩
   ·rintro c st'' ⟨⟨l,g,rfl,hg⟩,rfl⟩
    exact wpS_pure (h g hg)
 ·refine wpS_bind (wpS_mono (wpS_forRange (I:=λ_ c st'=>(∃l o,c=(none,l,o))/\st'=st) (Q:=λc st'=>(∃l o,c=(none,l,o))/\st'=st) ?_ (λ_ _ h=>h) ⟨⟨0,1,rfl⟩,rfl⟩) ?_)
  ·rintro x c st' _ _ ⟨⟨l,o,rfl⟩,rfl⟩
   dsimp only
   split
   ·exact wpS_pure ⟨⟨l,o,rfl⟩,rfl⟩
   ·refine wpS_bind (bey (hint+o) (by lia) λb=>?_)
    cases b
    ·exact wpS_pure ⟨⟨_,_,rfl⟩,rfl⟩
    ·exact wpS_pure ⟨⟨_,_,rfl⟩,rfl⟩
  ·rintro c st' ⟨⟨l,o,rfl⟩,rfl⟩
   refine wpS_bind (wpS_mono (wpS_forRange (I:=λ_ c st''=>(∃l h,c=(none,l,h)/\h<=n)/\st''=st') (Q:=λc st''=>(∃l h,c=(none,l,h)/\h<=n)/\st''=st') ?_ (λ_ _ h=>h) ⟨⟨_,_,rfl,by lia⟩,rfl⟩) ?_)
   ·rintro x c st'' _ _ ⟨⟨l,g,rfl,hg⟩,rfl⟩
    dsimp only
    split
    ·exact wpS_pure ⟨⟨l,g,rfl,hg⟩,rfl⟩
    ·refine wpS_bind (bey (l+(g-l) / 2) (by lia) λb=>?_)
     cases b
     ·exact wpS_pure ⟨⟨_,_,rfl,by lia⟩,rfl⟩
     ·exact wpS_pure ⟨⟨_,_,rfl,hg⟩,rfl⟩
   ·rintro c st'' ⟨⟨l,g,rfl,hg⟩,rfl⟩
    exact wpS_pure (h g hg)
def PI (a b out:Array Keyed)(ia ib:Nat):Prop:=(out.toList++(a.toList.drop ia++b.toList.drop ib)).Perm (a.toList++b.toList)
theorem PI.pushA {a b out:Array Keyed}{ia ib:Nat}(h:PI a b out ia ib){x:Keyed}(e:a[ia]?=some x):PI a b (out.push x) (ia+1) ib:=by
 unfold PI at *
 have e2:a.toList.drop ia=x::a.toList.drop (ia+1):=by
  obtain⟨hi,hx⟩:=PN.mp e
  rw[OD (by simpa using hi)]
  simp[hx]
 rw[e2]at h
 rw[O9,NP]
 exact h
theorem PI.pushB {a b out:Array Keyed}{ia ib:Nat}(h:PI a b out ia ib){x:Keyed}(e:b[ib]?=some x):PI a b (out.push x) ia (ib+1):=by
 unfold PI at *
 have e2:b.toList.drop ib=x::b.toList.drop (ib+1):=by
  obtain⟨hi,hx⟩:=PN.mp e
  rw[OD (by simpa using hi)]
  simp[hx]
 rw[e2]at h
 rw[O9,NP]
 exact(NQ _ (OQ (l₁:=a.toList.drop ia) (a:=x)).symm).trans h
theorem PI.appA {a b out:Array Keyed}{ia ib:Nat}(h:PI a b out ia ib)(k:Nat):PI a b (out++a.extract ia (ia+k)) (ia+k) ib:=by
 unfold PI at *
 have e2:a.toList.drop ia=(a.extract ia (ia+k)).toList++a.toList.drop (ia+k):=by
  rw[OP,OM,Pb,<-PJ,Ot]
 rw[e2]at h
 rw[Oq,NP]
 rw[NP]at h
 exact h
theorem PI.appB {a b out:Array Keyed}{ia ib:Nat}(h:PI a b out ia ib)(k:Nat):PI a b (out++b.extract ib (ib+k)) ia (ib+k):=by
 unfold PI at *
 have e2:b.toList.drop ib=(b.extract ib (ib+k)).toList++b.toList.drop (ib+k):=by
  rw[OP,OM,Pb,<-PJ,Ot]
 rw[e2]at h
 rw[Oq,NP]
 exact(NQ _ (NX _ _ _)).trans h
theorem PI.done {a b out:Array Keyed}{ia ib:Nat}(h:PI a b out ia ib):(out++a.extract ia a.size++b.extract ib b.size).Perm (a++b):=by
 unfold PI at h
 rw[Oz]
 simp only[Oq,OP,OM,NP]
 rw[Ol (by simp),Ol (by simp)]
 exact h
theorem PI.last {a b out:Array Keyed}{ia ib:Nat}(h:PI a b out ia ib):(out++b.extract ib b.size++a.extract ia a.size).Perm (a++b):=by
 refine Rc ?_ h.done
 rw[Oz]
 simp only[Oq,NP]
 exact NQ _ OW
theorem Wb.gal {st:SortSt}(h:Wb a₀ P st)(g:Nat):Wb a₀ P (SortSt.mk' (kindOf st) (arrOf st) (pendingOf st) g (failedOf st)):=⟨h.perm,h.kind,h.failed,h.pend⟩
theorem Cu {M:Model}{σ:Type}{x st:σ}{Q:PUnit->σ->Prop}(h:Q ⟨⟩ x):wpS M A E s (set x:StateT σ Sem PUnit) Q st:=by
 unfold wpS;rw[StateT.run_set];exact wpAny_pure ⟨rfl,h⟩
theorem a6 {α:Type}{c:Prop}[Decidable c]{x y:StateT SortSt Sem α}{Q:α->SortSt->Prop}{st:SortSt}(h1:c->wpS (model prog w) A E s x Q st)(h2:¬c->wpS (model prog w) A E s y Q st):wpS (model prog w) A E s (if c then x else y) Q st:=by
 split
 ·exact h1 ‹_›
 ·exact h2 ‹_›
theorem Gd {α:Type}{J:Unit->Nat->StateT SortSt Sem α}{c:Prop}{_:Decidable c}{g g':Nat}{Q:α->SortSt->Prop}{st:SortSt}(h:∀g,wpS (model prog w) A E s (J () g) Q st):wpS (model prog w) A E s (if c then J () g' else J () g) Q st:=a6 (λ_=>h _) λ_=>h _
theorem Ge {α β γ:Type}{J:Unit->β->γ->StateT SortSt Sem α}{c c1 c2:Prop}{_:Decidable c}{_:Decidable c1}{_:Decidable c2}{o o':β}{i i':γ}{r1 r2:α}{Q:α->SortSt->Prop}{st:SortSt}(inv:β->γ->Prop)(h:∀o i,inv o i->wpS (model prog w) A E s (J () o i) Q st)(h0:inv o i)(h1:Q r1 st)(h2:Q r2 st)(h3:¬c1->¬c2->inv o' i') :
  wpS (model prog w) A E s (if c then if c1 then pure r1 else if c2 then pure r2 else J () o' i' else J () o i) Q st:=
 a6 (λ_=>a6 (λ_=>wpS_pure h1) λn1=>a6 (λ_=>wpS_pure h2) λn2=>h _ _ (h3 n1 n2)) λ_=>h _ _ h0
theorem Gf {α β γ:Type}{J:Unit->β->γ->StateT SortSt Sem α}{c c1:Prop}{_:Decidable c}{_:Decidable c1}{o o':β}{i i':γ}{r1:α}{Q:α->SortSt->Prop}{st:SortSt}(inv:β->γ->Prop)(h:∀o i,inv o i->wpS (model prog w) A E s (J () o i) Q st)(h0:inv o i)(h1:Q r1 st)(h3:¬c1->inv o' i') :
  wpS (model prog w) A E s (if c then if c1 then pure r1 else J () o' i' else J () o i) Q st:=
 a6 (λ_=>a6 (λ_=>wpS_pure h1) λn1=>h _ _ (h3 n1)) λ_=>h _ _ h0
def PH (a b out:Array Keyed)(na nb:Nat):Prop:=(a.toList.take na++(b.toList.take nb++out.toList.reverse)).Perm (a.toList++b.toList)
theorem uz {a:Array Keyed}{n:Nat}{x:Keyed}(h:1<=n)(e:a[n-1]?=some x):a.toList.take n=a.toList.take (n-1)++[x]:=by
 have oo:∃k,n=k+1:=⟨n-1,by lia⟩
 obtain⟨k,rfl⟩:=oo
 rw[Nat.add_sub_cancel]at e ⊢
 rw[OT,O4,e]
 rfl
theorem qo {a:Array Keyed}{n m:Nat}(h:m<=n):a.toList.take n=a.toList.take m++(a.extract m n).toList:=by
 rw[OP,OM,<-List.take_add,Nat.add_sub_of_le h]
theorem PH.pushA {a b out:Array Keyed}{na nb:Nat}(h:PH a b out na nb)(h1:1<=na){x:Keyed}(e:a[na-1]?=some x):PH a b (out.push x) (na-1) nb:=by
 unfold PH at *
 rw[uz h1 e]at h
 rw[O9,PS,QT]
 refine Qh ?_ h
 rw[NP]
 exact NQ _ (NX _ _ _)
theorem PH.pushB {a b out:Array Keyed}{na nb:Nat}(h:PH a b out na nb)(h1:1<=nb){x:Keyed}(e:b[nb-1]?=some x):PH a b (out.push x) na (nb-1):=by
 unfold PH at *
 rw[uz h1 e]at h
 rw[O9,PS,QT]
 rw[NP]at h
 exact h
theorem PH.appA {a b out:Array Keyed}{na nb m:Nat}(h:PH a b out na nb)(h1:m<=na):PH a b (out++(a.extract m na).reverse) m nb:=by
 unfold PH at *
 rw[qo h1]at h
 rw[Oq,PS,Qd,List.reverse_reverse]
 refine Qh ?_ h
 rw[NP]
 exact NQ _ (NX _ _ _)
theorem PH.appB {a b out:Array Keyed}{na nb m:Nat}(h:PH a b out na nb)(h1:m<=nb):PH a b (out++(b.extract m nb).reverse) na m:=by
 unfold PH at *
 rw[qo h1]at h
 rw[Oq,PS,Qd,List.reverse_reverse]
 rw[NP]at h
 exact h
theorem PH.done {a b out:Array Keyed}{na nb:Nat}(h:PH a b out na nb):(a.extract 0 na++b.extract 0 nb++out.reverse).Perm (a++b):=by
 unfold PH at h
 rw[Oz]
 simp only[Oq,OP,OM,NP,Qd,Nat.sub_zero,List.drop_zero]
 exact h
theorem PH.first {a b out:Array Keyed}{na nb:Nat}(h:PH a b out na nb):(b.extract 0 nb++a.extract 0 na++out.reverse).Perm (a++b):=by
 refine Rc ?_ h.done
 rw[Oz]
 simp only[Oq]
 exact Py _ OW
end
theorem bh.at' {xs:Array Keyed}(h:bh xs){i:Nat}(hi:i<xs.size){G:Prop}(k:∀x t q,xs[i]?=some (.str x t,q)->G):G:=(h.at hi).elim λx h=>h.elim λt h=>h.elim λq e=>k x t q e
structure o9 (a₀:Array Keyed)(P:Array (Nat×Nat×Nat))(a b:Array Keyed)(st:SortSt)(k:Nat)(o:Option (Array Keyed))(out:Array Keyed)(ia ib:Nat)(st':SortSt):Prop where
 n:o=none
 pi:PI a b out ia ib
 l:ia+1<a.size
 r:ib<b.size
 s:k<=ia+ib
 w:Wb a₀ P st'
 e:arrOf st'=arrOf st
structure Jo (a₀:Array Keyed)(P:Array (Nat×Nat×Nat))(a b:Array Keyed)(st:SortSt)(o:Option (Array Keyed))(st':SortSt):Prop where
 o:∃out,o=some out/\out.Perm (a++b)
 w:Wb a₀ P st'
 e:arrOf st'=arrOf st
structure LS (a b:Array Keyed)(k:Nat)(out:Array Keyed)(na nb:Nat):Prop where
 pi:PH a b out na nb
 l:1<=na
 ml:na<=a.size
 s:na+nb+k<=a.size+b.size
structure No (a b:Array Keyed)(k:Nat)(out:Array Keyed)(m na nb:Nat):Prop where
 pi:PH a b out na nb
 r:2<=nb
 mr:nb<=b.size
 s:m+nb+k<=a.size+b.size
theorem LS.la {a b:Array Keyed}{k:Nat}{out:Array Keyed}{na nb:Nat}(H:LS a b k out na nb):na-1<a.size:=Os (O3 H.l PT) H.ml
theorem nI {n:Nat}(h:1<=n)(h2:n≠1):2<=n:=OO h h2.symm
theorem cQ {x y:Nat}(h:1<=x):x-1+y+(0+1)<=x+y:=by lia
theorem Ll {m nb x c:Nat}(h1:1<=m)(h2:2<=nb)(h:m+nb+(x+2)<=c):m-1+(nb-1)+(x+2)<=c:=by lia
structure Np (a b:Array Keyed)(k:Nat)(out:Array Keyed)(ia ib:Nat):Prop where
 pi:PI a b out ia ib
 l:ia+1<a.size
 s:k<=ia+ib
structure Nq (a b:Array Keyed)(k:Nat)(out:Array Keyed)(ia ib:Nat):Prop where
 pi:PI a b out ia ib
 r:ib<b.size
 s:k<=ia+1+ib
theorem Nr {x i k j:Nat}(h:x<=i+j):x<=i+k+j:=by lia
theorem MZ {x i k j:Nat}(h:x<=i+j):x<=i+1+(j+1+k):=by lia
theorem Nt {i k n:Nat}(h:i+1<n)(hk:k<=n-i)(h1:i+k+1≠n)(h2:i+k≠n):i+k+1<n:=by lia
theorem Nu {j k n:Nat}(h:j+1<n)(hk:k<=n-(j+1))(h1:j+1+k≠n):j+1+k<n:=by lia
theorem kP {i n:Nat}(h:i<=n):i+(n-i)<=n:=by lia
section
variable{a₀:Array Keyed}{P:Array (Nat×Nat×Nat)}{a b:Array Keyed}{st:SortSt}{k ia ib:Nat}{o:Option (Array Keyed)}{out:Array Keyed}{st':SortSt}
theorem o9.nextA (H:o9 a₀ P a b st k o out ia ib st'){x:Keyed}(e:a[ia]?=some x)(n:ia+1+1≠a.size):o9 a₀ P a b st (k+1) (none:Option (Array Keyed)) (out.push x) (ia+1) ib st':=
 ⟨rfl,H.pi.pushA e,OO H.l n,H.r,by have:=H.s;lia,H.w,H.e⟩
theorem o9.nextB (H:o9 a₀ P a b st k o out ia ib st'){x:Keyed}(e:b[ib]?=some x)(n:ib+1≠b.size):o9 a₀ P a b st (k+1) (none:Option (Array Keyed)) (out.push x) ia (ib+1) st':=
 ⟨rfl,H.pi.pushB e,H.l,OO H.r n,by have:=H.s;lia,H.w,H.e⟩
theorem o9.down {x y:Nat}(H:o9 a₀ P a b st (x+1+y+1) o out ia ib st'):o9 a₀ P a b st (x+2) o out ia ib st':=⟨H.n,H.pi,H.l,H.r,by have:=H.s;lia,H.w,H.e⟩
theorem o9.fin {q:Prop}{m:Nat}(H:o9 a₀ P a b st (m+1) o out ia ib st')(h:m=a.size+b.size):q:=absurd H.s (by have:=H.l;have:=H.r;lia)
theorem o9.fin2 {q:Prop}{m x:Nat}(H:o9 a₀ P a b st (x+1+m) o out ia ib st')(h:m=a.size+b.size):q:=absurd H.s (by have:=H.l;have:=H.r;lia)
end
structure l6 (a₀:Array Keyed)(P:Array (Nat×Nat×Nat))(a b:Array Keyed)(st:SortSt)(k:Nat)(o:Option (Array Keyed))(na nb:Nat)(out:Array Keyed)(st':SortSt):Prop where
 n:o=none
 pi:PH a b out na nb
 l:1<=na
 r:2<=nb
 ml:na<=a.size
 mr:nb<=b.size
 s:na+nb+k<=a.size+b.size
 w:Wb a₀ P st'
 e:arrOf st'=arrOf st
section
variable{a₀:Array Keyed}{P:Array (Nat×Nat×Nat)}{a b:Array Keyed}{st:SortSt}{k na nb:Nat}{o:Option (Array Keyed)}{out:Array Keyed}{st':SortSt}
theorem l6.la (H:l6 a₀ P a b st k o na nb out st'):na-1<a.size:=Os (O3 H.l PT) H.ml
theorem l6.rb (H:l6 a₀ P a b st k o na nb out st'):nb-1<b.size:=Os (O3 (OZ H.r) PT) H.mr
theorem l6.nextB (H:l6 a₀ P a b st k o na nb out st'){x:Keyed}(e:b[nb-1]?=some x)(n:nb-1≠1):l6 a₀ P a b st (k+1) (none:Option (Array Keyed)) na (nb-1) (out.push x) st':=
 ⟨rfl,H.pi.pushB (OZ H.r) e,H.l,nI (Nat.le_sub_of_add_le H.r) n,H.ml,NU (O2 _ _) H.mr,by have:=H.s;have:=H.r;lia,H.w,H.e⟩
theorem l6.nextA (H:l6 a₀ P a b st k o na nb out st'){x:Keyed}(e:a[na-1]?=some x)(n:na-1≠0):l6 a₀ P a b st (k+1) (none:Option (Array Keyed)) (na-1) nb (out.push x) st':=
 ⟨rfl,H.pi.pushA H.l e,Pg.mpr n,H.r,NU (O2 _ _) H.ml,H.mr,by have:=H.s;have:=H.l;lia,H.w,H.e⟩
theorem l6.down {x y:Nat}(H:l6 a₀ P a b st (x+1+y+1) o na nb out st'):l6 a₀ P a b st (x+2) o na nb out st':=⟨H.n,H.pi,H.l,H.r,H.ml,H.mr,by have:=H.s;lia,H.w,H.e⟩
theorem l6.fin {q:Prop}{m:Nat}(H:l6 a₀ P a b st (m+1) o na nb out st')(h:m=a.size+b.size):q:=absurd H.s (by lia)
theorem l6.fin2 {q:Prop}{m x:Nat}(H:l6 a₀ P a b st (x+1+m) o na nb out st')(h:m=a.size+b.size):q:=absurd H.s (by lia)
end
theorem cN {x y:Nat}(h:¬(x==y)=true):x≠y:=λe=>h (beq_iff_eq.mpr e)
section
variable{prog:Program}{w:World}{A:Around}{E:Value->Shared->Prop}{s:Shared}{a₀:Array Keyed}{P:Array (Nat×Nat×Nat)}
theorem JY {a b:Array Keyed}(ha:bh a)(hb:bh b)(h1:1<=a.size)(h2:1<=b.size){st:SortSt}(hB:Wb a₀ P st){Q:Array Keyed->SortSt->Prop}(h:∀out st',Wb a₀ P st'->arrOf st'=arrOf st->out.Perm (a++b)->Q out st') :
  wpS (model prog w) A E s (qj a b) Q st:=by
 unfold qj
 refine wpS_bind (eB ?_)
 refine hb.at' (i:=0) h2 λx0 t0 q0 e0=>?_
 refine wpS_bind (bB e0 ?_)
 have p0:PI a b #[(.str x0 t0,q0)] 0 1:=by
  have:PI a b #[] 0 0:=by unfold PI;simp
  exact this.pushB e0
 refine a6 (λ_=>wpS_pure (h _ st hB rfl p0.done)) λn1=>?_
 refine a6 (λ_=>wpS_pure (h _ st hB rfl p0.last)) λn2=>?_
 refine wpS_bind (wpS_get ?_)
 refine wpS_bind (wpS_mono (wpS_forRange (I:=λx c st'=>o9 a₀ P a b st (x+1) c.1 c.2.1 c.2.2.1 c.2.2.2.1 st') (Q:=λc st'=>Jo a₀ P a b st c.1 st') ?step ?fin
  ⟨rfl,p0,OO h1 (cN n2),OO h2 (cN n1),NT _,hB,rfl⟩) ?post)
 case post =>
  intro c st' H
  refine H.o.elim λout e=>?_
  rw[e.1]
  exact wpS_pure (h out st' H.w H.e e.2)
 case fin =>
  intro c st' H
  exact H.fin (QK _)
 case step =>
  intro x c st1 _ hx H1
  refine wpS_bind (wpS_mono (wpS_forRange (I:=λy c st'=>o9 a₀ P a b st (x+1+y) c.1 c.2.1 c.2.2.1 c.2.2.2.1 st')
   (Q:=λc st'=>Jo a₀ P a b st c.1 st'\/o9 a₀ P a b st (x+2) c.1 c.2.1 c.2.2.1 c.2.2.2.1 st') ?s1 ?f1 ⟨rfl,H1.pi,H1.l,H1.r,H1.s,H1.w,H1.e⟩) ?p1)
  case f1 =>
   intro c st' H
   exact H.fin2 (QK _)
  case s1 =>
   intro y c st2 _ hy H
   refine hb.at' H.r λx1 t1 r1 e1=>?_
   refine ha.at' (P6 H.l) λx2 t2 r2 e2=>?_
   refine wpS_bind (bB e1 (wpS_bind (bB e2 (wpS_bind (ql H.w.kind λbw=>?_)))))
   cases bw
   ·refine wpS_bind (bB e2 ?_)
    refine a6 (λ_=>wpS_pure (Or.inl ⟨⟨_,rfl,(H.pi.pushA e2).last⟩,H.w,H.e⟩)) λn=>?_
    exact a6 (λ_=>wpS_pure (Or.inr (H.nextA e2 (cN n)).down)) λ_=>wpS_pure (H.nextA e2 (cN n))
   ·refine wpS_bind (bB e1 ?_)
    refine a6 (λ_=>wpS_pure (Or.inl ⟨⟨_,rfl,(H.pi.pushB e1).done⟩,H.w,H.e⟩)) λn=>?_
    exact a6 (λ_=>wpS_pure (Or.inr (H.nextB e1 (cN n)).down)) λ_=>wpS_pure (H.nextB e1 (cN n))
  case p1 =>
   intro c st2 H
   refine H.elim (λH=>?_) (λH=>?_)
   ·refine H.o.elim λout e=>?_
    rw[e.1]
    exact wpS_pure ⟨⟨_,rfl,e.2⟩,H.w,H.e⟩
   ·rw[H.n]
    refine wpS_bind (eB ?_)
    refine wpS_bind (wpS_mono (wpS_forRange (I:=λy c st'=>o9 a₀ P a b st (x+2) c.1 c.2.1 c.2.2.1 c.2.2.2.1 st')
     (Q:=λc st'=>Jo a₀ P a b st c.1 st'\/o9 a₀ P a b st (x+2) c.1 c.2.1 c.2.2.1 c.2.2.2.1 st') ?s2 (λc st' H=>Or.inr H) ⟨rfl,H.pi,H.l,H.r,H.s,H.w,H.e⟩) ?p2)
    case p2 =>
     intro c st3 H
     refine H.elim (λH=>?_) (λH=>?_)
     ·refine H.o.elim λout e=>?_
      rw[e.1]
      exact wpS_pure ⟨⟨_,rfl,e.2⟩,H.w,H.e⟩
     ·rw[H.n]
      exact wpS_bind (wpS_modify (wpS_pure ⟨rfl,H.pi,H.l,H.r,H.s,H.w.gal _,H.e⟩))
    case s2 =>
     intro y c st3 _ hy H
     refine hb.at' H.r λx1 t1 r1 e1=>?_
     extract_lets
     refine Gd λg1=>?_
     refine wpS_bind (wpS_modify ?_)
     have hB4:=H.w.gal g1
     refine wpS_bind (bB e1 (wpS_bind (dT ha (base:=c.2.2.1) (n:=a.size-c.2.2.1) (hint:=0) (kP (ON (P6 H.l))) (PD (P6 H.l)) hB4.kind λk hk=>?_)))
     dsimp -zeta only
     extract_lets
     refine Ge (λo i=>Np a b (x+2) o i c.2.2.2.1) ?_ ⟨H.pi,H.l,H.s⟩ (Or.inl ⟨⟨_,rfl,(H.pi.appA k).last⟩,hB4,H.e⟩) (Or.inl ⟨⟨_,rfl,(H.pi.appA k).done⟩,hB4,H.e⟩) (λn1 n2=>⟨H.pi.appA k,Nt H.l hk (cN n1) (cN n2),Nr H.s⟩)
     intro o i I
     refine ha.at' (P6 I.l) λx2 t2 r2 e2=>?_
     refine wpS_bind (bB e1 ?_)
     have hp2:=I.pi.pushB e1
     refine a6 (λ_=>wpS_pure (Or.inl ⟨⟨_,rfl,hp2.done⟩,hB4,H.e⟩)) λn=>?_
     have hr:=OO H.r (cN n)
     refine wpS_bind (bB e2 (wpS_bind (dT hb (base:=c.2.2.2.1+1) (n:=b.size-(c.2.2.2.1+1)) (hint:=0) (kP (ON hr)) (PD hr) hB4.kind λk2 hk2=>?_)))
     dsimp -zeta only
     extract_lets
     refine Gf (λo j=>Nq a b (x+2) o i j) ?_ ⟨hp2,hr,MZ (k:=0) I.s⟩ (Or.inl ⟨⟨_,rfl,(hp2.appB k2).done⟩,hB4,H.e⟩) (λn3=>⟨hp2.appB k2,Nu hr hk2 (cN n3),MZ I.s⟩)
     intro o j J
     refine wpS_bind (bB e2 ?_)
     have hp4:=J.pi.pushA e2
     refine a6 (λ_=>wpS_pure (Or.inl ⟨⟨_,rfl,hp4.last⟩,hB4,H.e⟩)) λn4=>?_
     have m4:=OO I.l (cN n4)
     exact a6 (λ_=>wpS_pure (Or.inr ⟨rfl,hp4,m4,J.r,J.s,hB4,H.e⟩)) λ_=>wpS_pure ⟨rfl,hp4,m4,J.r,J.s,hB4,H.e⟩
theorem JZ {a b:Array Keyed}(ha:bh a)(hb:bh b)(h1:1<=a.size)(h2:1<=b.size){st:SortSt}(hB:Wb a₀ P st){Q:Array Keyed->SortSt->Prop}(h:∀out st',Wb a₀ P st'->arrOf st'=arrOf st->out.Perm (a++b)->Q out st') :
  wpS (model prog w) A E s (qk a b) Q st:=by
 unfold qk
 refine wpS_bind (eB ?_)
 refine ha.at' (i:=a.size-1) (O3 h1 PT) λx0 t0 q0 e0=>?_
 refine wpS_bind (bB e0 ?_)
 have p0:PH a b #[(.str x0 t0,q0)] (a.size-1) b.size:=by
  have:PH a b #[] a.size b.size:=by
   unfold PH
   rw[Ol (by simp),Ol (by simp)]
   simp
  exact this.pushA h1 e0
 refine a6 (λ_=>wpS_pure (h _ st hB rfl p0.done)) λn1=>?_
 refine a6 (λ_=>wpS_pure (h _ st hB rfl p0.first)) λn2=>?_
 refine wpS_bind (wpS_get ?_)
 refine wpS_bind (wpS_mono (wpS_forRange (I:=λx c st'=>l6 a₀ P a b st (x+1) c.1 c.2.1 c.2.2.1 c.2.2.2.1 st') (Q:=λc st'=>Jo a₀ P a b st c.1 st') ?step ?fin
  ⟨rfl,p0,Pg.mpr (cN n1),nI h2 (cN n2),O2 _ _,NT _,cQ h1,hB,rfl⟩) ?post)
 case post =>
  intro c st' H
  refine H.o.elim λout e=>?_
  rw[e.1]
  exact wpS_pure (h out st' H.w H.e e.2)
 case fin =>
  intro c st' H
  exact H.fin (QK _)
 case step =>
  intro x c st1 _ hx H1
  refine wpS_bind (wpS_mono (wpS_forRange (I:=λy c st'=>l6 a₀ P a b st (x+1+y) c.1 c.2.1 c.2.2.1 c.2.2.2.1 st')
   (Q:=λc st'=>Jo a₀ P a b st c.1 st'\/l6 a₀ P a b st (x+2) c.1 c.2.1 c.2.2.1 c.2.2.2.1 st') ?s1 ?f1 ⟨rfl,H1.pi,H1.l,H1.r,H1.ml,H1.mr,H1.s,H1.w,H1.e⟩) ?p1)
  case f1 =>
   intro c st' H
   exact H.fin2 (QK _)
  case s1 =>
   intro y c st2 _ hy H
   refine hb.at' H.rb λx1 t1 r1 e1=>?_
   refine ha.at' H.la λx2 t2 r2 e2=>?_
   refine wpS_bind (bB e1 (wpS_bind (bB e2 (wpS_bind (ql H.w.kind λbw=>?_)))))
   cases bw
   ·refine wpS_bind (bB e1 ?_)
    refine a6 (λ_=>wpS_pure (Or.inl ⟨⟨_,rfl,(H.pi.pushB (OZ H.r) e1).first⟩,H.w,H.e⟩)) λn=>?_
    exact a6 (λ_=>wpS_pure (Or.inr (H.nextB e1 (cN n)).down)) λ_=>wpS_pure (H.nextB e1 (cN n))
   ·refine wpS_bind (bB e2 ?_)
    refine a6 (λ_=>wpS_pure (Or.inl ⟨⟨_,rfl,(H.pi.pushA H.l e2).done⟩,H.w,H.e⟩)) λn=>?_
    exact a6 (λ_=>wpS_pure (Or.inr (H.nextA e2 (cN n)).down)) λ_=>wpS_pure (H.nextA e2 (cN n))
  case p1 =>
   intro c st2 H
   refine H.elim (λH=>?_) (λH=>?_)
   ·refine H.o.elim λout e=>?_
    rw[e.1]
    exact wpS_pure ⟨⟨_,rfl,e.2⟩,H.w,H.e⟩
   ·rw[H.n]
    refine wpS_bind (eB ?_)
    refine wpS_bind (wpS_mono (wpS_forRange (I:=λy c st'=>l6 a₀ P a b st (x+2) c.1 c.2.1 c.2.2.1 c.2.2.2.1 st')
     (Q:=λc st'=>Jo a₀ P a b st c.1 st'\/l6 a₀ P a b st (x+2) c.1 c.2.1 c.2.2.1 c.2.2.2.1 st') ?s2 (λc st' H=>Or.inr H) ⟨rfl,H.pi,H.l,H.r,H.ml,H.mr,H.s,H.w,H.e⟩) ?p2)
    case p2 =>
     intro c st3 H
     refine H.elim (λH=>?_) (λH=>?_)
     ·refine H.o.elim λout e=>?_
      rw[e.1]
      exact wpS_pure ⟨⟨_,rfl,e.2⟩,H.w,H.e⟩
     ·rw[H.n]
      exact wpS_bind (wpS_modify (wpS_pure ⟨rfl,H.pi,H.l,H.r,H.ml,H.mr,H.s,H.w.gal _,H.e⟩))
    case s2 =>
     intro y c st3 _ hy H
     refine hb.at' H.rb λx1 t1 r1 e1=>?_
     extract_lets
     refine Gd λg1=>?_
     refine wpS_bind (wpS_modify ?_)
     have hB4:=H.w.gal g1
     refine wpS_bind (bB e1 (wpS_bind (dT ha (base:=0) (n:=c.2.1) (hint:=c.2.1-1) (by rw[OF];exact H.ml) (O3 H.l PT) hB4.kind λk hk=>?_)))
     dsimp -zeta only
     extract_lets
     refine Gf (λm o=>LS a b (x+2) o m c.2.2.1) ?_ ⟨H.pi,H.l,H.ml,H.s⟩ (Or.inl ⟨⟨_,rfl,(H.pi.appA hk).done⟩,hB4,H.e⟩) (λn1=>⟨H.pi.appA hk,Pg.mpr (cN n1),NU hk H.ml,NU (PK (PK hk _) _) H.s⟩)
     intro m o I
     refine ha.at' I.la λx2 t2 r2 e2=>?_
     refine wpS_bind (bB e1 ?_)
     have hp2:=I.pi.pushB (OZ H.r) e1
     refine a6 (λ_=>wpS_pure (Or.inl ⟨⟨_,rfl,hp2.first⟩,hB4,H.e⟩)) λn=>?_
     have hr:2<=c.2.2.1-1:=nI (Nat.le_sub_of_add_le H.r) (cN n)
     refine wpS_bind (bB e2 (wpS_bind (dT hb (base:=0) (n:=c.2.2.1-1) (hint:=c.2.2.1-1-1) (by rw[OF];exact NU (O2 _ _) H.mr) (O3 (OZ hr) PT) hB4.kind λk2 hk2=>?_)))
     dsimp -zeta only
     extract_lets
     have s2:=I.s
     have r2:=H.r
     have l2:=I.l
     refine Ge (λj o=>No a b (x+2) o (m-1) m j) ?_ ⟨hp2,hr,NU (O2 _ _) H.mr,Ll l2 r2 s2⟩ (Or.inl ⟨⟨_,rfl,(hp2.appB hk2).first⟩,hB4,H.e⟩) (Or.inl ⟨⟨_,rfl,(hp2.appB hk2).done⟩,hB4,H.e⟩) (λn3 n4=>⟨hp2.appB hk2,nI (Pg.mpr (cN n4)) (cN n3),NU hk2 (NU (O2 _ _) H.mr),NU (PK (Pn hk2 _) _) (Ll l2 r2 s2)⟩)
     intro j o J
     refine wpS_bind (bB e2 ?_)
     have hp4:=J.pi.pushA I.l e2
     refine a6 (λ_=>wpS_pure (Or.inl ⟨⟨_,rfl,hp4.done⟩,hB4,H.e⟩)) λn4=>?_
     have m4:1<=m-1:=Pg.mpr (cN n4)
     have m6:=NU (O2 m 1) I.ml
     exact a6 (λ_=>wpS_pure (Or.inr ⟨rfl,hp4,m4,J.r,m6,J.mr,J.s,hB4,H.e⟩)) λ_=>wpS_pure ⟨rfl,hp4,m4,J.r,m6,J.mr,J.s,hB4,H.e⟩
noncomputable def gI (sa:Nat)(m:Array Keyed)(xs:Array Keyed):Array Keyed:=m.toList.zipIdx.foldl (λa (p,j)=>a.setIfInBounds (sa+j) p) xs
theorem yw (sa:Nat):∀(l:List Keyed) (k:Nat) (xs:Array Keyed),sa+k+l.length<=xs.size->((l.zipIdx k).foldl (λa (p,j)=>a.setIfInBounds (sa+j) p) xs).toList=xs.toList.take (sa+k)++(l++xs.toList.drop (sa+k+l.length))
 | [],k,xs,_=>by simp
 | p::l,k,xs,h=>by
  rw[List.zipIdx_cons,O1]
  simp only[NV]at h
  rw[yw sa l (k+1) _ (by rw[Array.size_setIfInBounds];lia)]
  rw[Array.toList_setIfInBounds,show sa+(k+1)=sa+k+1 by lia,List.drop_set_of_lt (by lia),OT,List.take_set_of_le (NT _),P8 (by simp;lia)]
  simp only[NV,Option.toList_some,NP,Oi,OU]
  rw[show sa+k+1+l.length=sa+k+(l.length+1) by lia]
theorem yx {sa n:Nat}{m xs:Array Keyed}(hn:sa+n<=xs.size)(hm:m.Perm (xs.extract sa (sa+n))):(gI sa m xs).Perm xs:=by
 have hl:m.toList.length=n:=by
  have:=hm.size_eq
  rw[P0]at this
  rw[OB];lia
 rw[Oz]
 unfold gI
 rw[yw sa m.toList 0 xs (by lia),hl,Pq]
 have h2:=Oz.mp hm
 rw[OP,OM,Pb]at h2
 have e:xs.toList=xs.toList.take sa++((xs.toList.drop sa).take n++xs.toList.drop (sa+n)):=by
  rw[<-PJ,Ot,Ot]
 conv=>rhs;rw[e]
 exact NQ _ (Py _ h2)
theorem bh.ext {xs:Array Keyed}(h:bh xs)(i j:Nat):bh (xs.extract i j):=λp hp=>by
 rw[OP,OM]at hp
 exact h p (Qc (Qe hp))
theorem si {n1 n2 p q:Nat}(h0:bh a₀)(h1:1<=n1)(h2:1<=n2)(hn:n1+n2=a₀.size){st:SortSt}(hB:Wb a₀ #[(0,n1,p),(n1,n2,q)] st){Q:Bool->SortSt->Prop}(h:∀st',Wb a₀ #[(0,n1+n2,p)] st'->Q true st') :
  wpS (model prog w) A E s (mergeAt' 0) Q st:=by
 unfold mergeAt'
 refine wpS_bind (wpS_get ?_)
 have hs:=hB.str h0
 have hz:=hB.size
 obtain⟨kd,ar,pd,mg,fl⟩:=st
 have hp:pd=#[(0,n1,p),(n1,n2,q)]:=hB.pend
 subst hp
 have hs':bh ar:=hs
 have hz':ar.size=a₀.size:=hz
 have hB1:Wb a₀ #[(0,n1+n2,p)] (SortSt.mk' kd ar #[(0,n1+n2,p)] mg fl):=⟨hB.perm,hB.kind,hB.failed,rfl⟩
 have hall:n1+n2<=ar.size:=OA (hn.trans hz'.symm)
 have hlt:n1<ar.size:=Os (Nat.lt_add_of_pos_right h2) hall
 obtain⟨x1,t1,r1,e1⟩:=hs'.at (i:=n1) hlt
 refine wpS_bind (Cu ?_)
 have hB2:Wb a₀ #[(0,n1+n2,p)] (SortSt.mk' kd ar ((#[(0,n1,p),(n1,n2,q)].setIfInBounds 0 (0,n1+n2,p)).eraseIdxIfInBounds (0+1)) mg fl):=⟨hB.perm,hB.kind,hB.failed,by show(#[(0,n1,p),(n1,n2,q)].setIfInBounds 0 (0,n1+n2,p)).eraseIdxIfInBounds (0+1)=_;simp[QA]⟩
 refine wpS_bind (bB e1 (wpS_bind (dT hs' (base:=0) (n:=n1) (hint:=0) (NU (OA (OF n1)) (ON hlt)) h1 hB2.kind λk hk=>?_)))
 refine a6 (λ_=>wpS_pure (h _ hB2)) λm1=>?_
 have m1':n1-k≠0:=by simpa using m1
 obtain⟨x2,t2,r2,e2⟩:=hs'.at (i:=0+k+(n1-k)-1) (O7 (O2 _ _) (by rw[OF,OS hk];exact hlt))
 refine wpS_bind (bB e2 (wpS_bind (dT hs' (base:=n1) (n:=n2) (hint:=n2-1) hall (O3 h2 PT) hB2.kind λj hj=>?_)))
 refine a6 (λ_=>wpS_pure (h _ hB2)) λm2=>?_
 have m2':j≠0:=by simpa using m2
 have hnj:n1+j<=ar.size:=NU (Pn hj n1) hall
 have s1:1<=(ar.extract (0+k) n1).size:=by rw[P0,PU (ON hlt),OF];exact PZ m1'
 have s2:1<=(ar.extract n1 (n1+j)).size:=by rw[P0,PU hnj,Pb];exact PZ m2'
 have fin:∀(m:Array Keyed) (st':SortSt),Wb a₀ #[(0,n1+n2,p)] st'->arrOf st'=ar->m.Perm (ar.extract (0+k) n1++ar.extract n1 (n1+j))->Q (failedOf (setArr st' (gI (0+k) m (arrOf st')))).isNone (setArr st' (gI (0+k) m (arrOf st'))):=λm st' hB3 ea hm=>by
  have hB4:Wb a₀ #[(0,n1+n2,p)] (setArr st' (gI (0+k) m (arrOf st'))):=by
   refine hB3.setArr ?_
   rw[ea]
   refine yx (n:=n1-k+j) (by rw[OF,<-Q7,OS hk];exact hnj) ?_
   have e:ar.extract (0+k) n1++ar.extract n1 (n1+j)=ar.extract (0+k) (0+k+(n1-k+j)):=by
    rw[Array.extract_append_extract]
    congr 1<;>lia
   rw[<-e];exact hm
  rw[show(failedOf (setArr st' (gI (0+k) m (arrOf st')))).isNone=true by rw[hB4.failed];rfl]
  exact h _ hB4
 refine a6 (λ_=>?_) (λ_=>?_)
 ·refine wpS_bind (JY (hs'.ext _ _) (hs'.ext _ _) s1 s2 hB2 λm st' hB3 ea hm=>wpS_bind (wpS_modify (wpS_bind (wpS_get (wpS_pure ?_)))))
  exact fin m st' hB3 ea hm
 ·refine wpS_bind (JZ (hs'.ext _ _) (hs'.ext _ _) s1 s2 hB2 λm st' hB3 ea hm=>wpS_bind (wpS_modify (wpS_bind (wpS_get (wpS_pure ?_)))))
  exact fin m st' hB3 ea hm
theorem Wb.pnd {P':Array (Nat×Nat×Nat)}{st:SortSt}(h:Wb a₀ P st):Wb a₀ P' (setPending st P'):=⟨h.perm,h.kind,h.failed,rfl⟩
inductive WR (a₀:Array Keyed):Option Unit×Nat->SortSt->Prop
 | z {st:SortSt} (h:Wb a₀ #[] st):WR a₀ (none,0) st
 | o {st:SortSt} (n p:Nat) (h1:32<=n) (h2:n<64) (h:Wb a₀ #[(0,n,p)] st):WR a₀ (none,n) st
 | f {st:SortSt} (p:Nat) (h:Wb a₀ #[(0,64,p)] st):WR a₀ (none,64) st
 | t {st:SortSt} (n p q:Nat) (h1:1<=n) (h2:n<64) (h:Wb a₀ #[(0,n,p),(n,64-n,q)] st):WR a₀ (none,64) st
inductive WP (a₀:Array Keyed)(st:SortSt):Prop
 | s (P:Array (Nat×Nat×Nat)) (h:Wb a₀ P st) (k:P.size<=1):WP a₀ st
 | t (n p q:Nat) (h1:1<=n) (h2:n<64) (h:Wb a₀ #[(0,n,p),(n,64-n,q)] st):WP a₀ st
structure WQ (a₀:Array Keyed)(c:Option Unit×Nat)(st:SortSt):Prop where
 e:c.1=none
 h:WP a₀ st
structure WS (a₀:Array Keyed)(c:Option Unit×Unit)(st:SortSt):Prop where
 e:c=(none,())
 h:WP a₀ st
structure WT (Q:Unit->SortSt->Prop)(c:Option Unit×Unit)(st:SortSt):Prop where
 e:c=(none,())
 h:Q () st
theorem WR.fin {a₀:Array Keyed}{c:Option Unit×Nat}{st:SortSt}(H:WR a₀ c st):WQ a₀ c st:=by
 cases H with
 | z h=>exact⟨rfl,.s _ h (OI 1)⟩
 | o n p _ _ h=>exact⟨rfl,.s _ h (NT 1)⟩
 | f p h=>exact⟨rfl,.s _ h (NT 1)⟩
 | t n p q h1 h2 h=>exact⟨rfl,.t n p q h1 h2 h⟩
theorem WR.last {a₀:Array Keyed}{st:SortSt}{m:Nat}(h:Wb a₀ #[] st)(h1:32<=m)(h2:m<=64):WR a₀ (none,0+m) (setPending st ((pendingOf st).push (0,m,0))):=by
 rw[h.pend,OF]
 rcases Pt h2 with q|rfl
 ·exact .o m 0 h1 q h.pnd
 ·exact .f 0 h.pnd
theorem WR.two {a₀:Array Keyed}{st':SortSt}{lo p g m:Nat}(hB':Wb a₀ #[(0,lo,p)] st')(hm:lo+m=64)(h1:1<=lo)(h2:lo<64):WR a₀ (none,lo+m) (setPending (setPending st' ((pendingOf st').modify ((pendingOf st').size-1) λx=>(x.1,x.2.1,g))) ((pendingOf (setPending st' ((pendingOf st').modify ((pendingOf st').size-1) λx=>(x.1,x.2.1,g)))).push (lo,m,0))):=by
 have e:(pendingOf st').modify ((pendingOf st').size-1) (λx=>(x.1,x.2.1,g))=#[(0,lo,g)]:=by
  rw[hB'.pend]
  simp[Array.modify,Array.modifyM,Id.run]
  rfl
 rw[e,hm,show m=64-lo by lia]
 exact .t lo g 0 h1 h2 (hB'.pnd (P':=#[(0,lo,g)])).pnd
theorem Cv {st:SortSt}(h0:bh a₀)(hz:a₀.size=64)(hB:Wb a₀ #[] st){Q:Unit->SortSt->Prop}(h:∀P st',Wb a₀ P st'->Q () st'):wpS (model prog w) A E s sortRuns' Q st:=by
 rw[sortRuns'_eq]
 refine wpS_bind (wpS_get ?_)
 have hmr:minRun' 64 64 0=32:=by rfl
 dsimp only
 rw[hB.size,hz,hmr]
 refine wpS_bind (wpS_mono (wpS_forRange (I:=λx c st'=>WR a₀ c st') (Q:=λc st'=>WQ a₀ c st') ?step (λ_ _ H=>H.fin) (.z hB)) ?post)
 case step =>
  intro x c st' _ hx H
  cases H with
  | z hB =>
   refine a6 (λhc=>absurd hc (by decide)) λ_=>?_
   refine wpS_bind (qn h0 (OA hz.symm) (by decide) hB λn st2 hB2 hn1 hn2=>?_)
   refine a6 (λhlt=>?_) (λhge=>?_)
   ·refine wpS_bind (eB (wpS_bind (yv h0 (NU (by decide) (OA hz.symm)) hB2 λst3 hB3=>a6 (λhc=>absurd hc (by decide)) λ_=>wpS_bind (wpS_get ?_))))
    rw[hB3.pend]
    exact wpS_bind (wpS_modify (wpS_pure (WR.last (m:=32) hB3 (by decide) (by decide))))
   ·refine wpS_bind (wpS_get ?_)
    rw[hB2.pend]
    exact wpS_bind (wpS_modify (wpS_pure (WR.last (m:=n) hB2 (by lia) hn2)))
  | o lo p hl1 hl2 hB =>
   have h64:lo+(64-lo)=64:=OS (ON hl2)
   have hall:lo+(64-lo)<=a₀.size:=OA (h64.trans hz.symm)
   have hlo:1<=lo:=NU (by decide) hl1
   refine a6 (λhc=>absurd hc (QE.mpr hl2)) λ_=>?_
   refine wpS_bind (qn h0 hall (PD hl2) hB λn st2 hB2 hn1 hn2=>?_)
   refine a6 (λhlt=>?_) (λhge=>?_)
   ·refine wpS_bind (eB (wpS_bind (yv h0 (NU (Pn (Nat.min_le_left _ _) lo) hall) hB2 λst3 hB3=>a6 (λhc=>absurd hc (by decide)) λ_=>wpS_bind (wpS_get ?_))))
    rw[hB3.pend]
    refine wpS_bind (wpS_mono (wpS_forRange (I:=λ_ c st'=>WT (λ_=>Wb a₀ #[(0,lo,p)]) c st') (Q:=λc st'=>WT (λ_=>Wb a₀ #[(0,lo,p)]) c st') ?_ (λ_ _ h=>h) ⟨rfl,hB3⟩) ?_)
    ·rintro x c st' _ _ ⟨rfl,hB'⟩
     refine wpS_bind (wpS_get ?_)
     rw[hB'.pend]
     exact wpS_pure ⟨rfl,hB'⟩
    ·rintro c st' ⟨rfl,hB'⟩
     exact wpS_bind (wpS_modify (wpS_bind (wpS_modify (wpS_pure (WR.two (m:=min (64-lo) 32) hB' (by rw[PU (Nat.sub_le_of_le_add (Pn hl1 32))];exact h64) hlo hl2)))))
   ·refine wpS_bind (wpS_get ?_)
    rw[hB2.pend]
    refine wpS_bind (wpS_mono (wpS_forRange (I:=λ_ c st'=>WT (λ_=>Wb a₀ #[(0,lo,p)]) c st') (Q:=λc st'=>WT (λ_=>Wb a₀ #[(0,lo,p)]) c st') ?_ (λ_ _ h=>h) ⟨rfl,hB2⟩) ?_)
    ·rintro x c st' _ _ ⟨rfl,hB'⟩
     refine wpS_bind (wpS_get ?_)
     rw[hB'.pend]
     exact wpS_pure ⟨rfl,hB'⟩
    ·rintro c st' ⟨rfl,hB'⟩
     exact wpS_bind (wpS_modify (wpS_bind (wpS_modify (wpS_pure (WR.two (m:=n) hB' (by lia) hlo hl2)))))
  | f p hB=>exact a6 (λ_=>wpS_pure ⟨rfl,.s _ hB (NT 1)⟩) λhc=>absurd (NT 64) hc
  | t n p q h1 h2 hB=>exact a6 (λ_=>wpS_pure ⟨rfl,.t n p q h1 h2 hB⟩) λhc=>absurd (NT 64) hc
 case post =>
  rintro⟨r,lo⟩ st1 H
  obtain rfl:r=none:=H.e
  refine wpS_bind (wpS_mono (wpS_forRange (I:=λ_ c st'=>WS a₀ c st') (Q:=λc st'=>WT Q c st') ?_ (λc st' H=>⟨H.e,H.h.casesOn (λP hB _=>h P st' hB) λn p q _ _ hB=>h _ st' hB⟩) ⟨rfl,H.h⟩) ?_)
  ·rintro x c st' _ _ ⟨rfl,H⟩
   refine wpS_bind (wpS_get ?_)
   cases H with
   | s P hB' hP=>exact a6 (λ_=>wpS_pure ⟨rfl,h P st' hB'⟩) λhn=>absurd (hB'.pend▸hP) hn
   | t n p q h1 h2 hB' =>
    refine a6 (λ_=>wpS_pure ⟨rfl,h _ st' hB'⟩) λhn=>?_
    rw[hB'.pend]
    refine wpS_bind (si (n1:=n) (n2:=64-n) h0 h1 (PD h2) ((OS (ON h2)).trans hz.symm) hB' λst2 hB2=>?_)
    exact a6 (λhc=>absurd hc (by decide)) λ_=>wpS_pure ⟨rfl,.s _ hB2 (NT 1)⟩
  ·rintro c st' ⟨rfl,hQ⟩
   exact wpS_pure hQ
theorem kQ {vs:List Value}{xs:Array Keyed}(h:xs.Perm (pairsOf vs)):(xs.map (·.2)).toList.Perm vs:=by
 have h1:=(Oz.mp h).map (·.2)
 rw[pairsOf_toList]at h1
 rw[Array.toList_map]
 have e:(vs.zip vs).map (·.2)=vs:=by rw[show(λp:Value×Value=>p.2)=Prod.snd from rfl,List.map_snd_zip (NT _)]
 rw[e]at h1
 exact h1
theorem yz {vs:List Value}{ss:List Str}(hS:StrsAre vs ss)(h:2<=vs.length):keyKind' vs.toArray=pure oneType':=by
 cases vs with
 | nil=>exact absurd h (Nat.not_succ_le_zero 1)
 | cons a r=>cases r with
  | nil=>exact absurd h (Nat.not_succ_le_self 1)
  | cons b r=>exact keyKind_strs hS
theorem wn {a:Addr}{vs:List Value}{ss:List Str}{n:Nat}{P:Fin->Shared->Prop}(ho:s.heap.get? a=some (seqObj "list" vs.toArray n))(hS:StrsAre vs ss)(h64:vs.length<=64)
  (h:∀out:Array Value,out.toList.Perm vs->P (.done (.ret .none)) {s with heap:=sortedHeap s.heap a vs out}) :
  wpAny (model prog w) A (Builtin.«list.sort» ⟨[.ref a],[]⟩) P E s:=by
 by_cases hlt:vs.length<64
 ·exact list_sort_treeK strKind_oneLt ho hS.keysOf (λv₁ v₂ rest e=>by subst e;exact keyKind_strs hS) hlt λst' hp _=>h _ (kQ hp)
 have h64':vs.length=64:=by lia
 rw[list_sort_plain]
 have ha:a<s.heap.objs.size:=Heap.lt_size ho
 refine wpAny_bind (listItems_at ho rfl ?_)
 refine wpAny_bind (listUpdate_at ho rfl ?_)
 have oo:∃e1,(s.heap.update a (Obj.mapSeq λ_=>#[])).get? a=some (seqObj "list" #[] e1):=⟨_,get?_update_seq ho (λ_=>#[])⟩
 obtain⟨e1,ho1⟩:=oo
 refine wpAny_bind (seqEpoch_at ho1 rfl ?_)
 refine wpAny_bind (wpAny_newTuple (wpAny_bind (wpAny_newList (wpAny_holding ?_))))
 have ho6:(((s.heap.update a (Obj.mapSeq λ_=>#[])).push (seqObj "tuple" vs.toArray 0)).push (seqObj "list" #[] 0)).get? a=some (seqObj "list" #[] e1):=by
  rw[Heap.get?_push_ne _ _ _ (by rw[size_push',Heap.size_update];exact Q9 (Nat.lt_succ_of_lt ha)),Heap.get?_push_ne _ _ _ (by rw[Heap.size_update];exact Q9 ha)]
  exact ho1
 have cQ:vs.toArray.size=64:=by simpa using h64'
 have h2:¬vs.toArray.size<2:=by rw[cQ];decide
 rw[if_neg h2,if_neg h2]
 rw[yz hS (by lia)]
 refine wpAny_bind (wpAny_pure (wpAny_bind (wpAny_mono (Cv (a₀:=pairsOf vs) (st:=SortSt.mk' oneType' (vs.toArray.zip vs.toArray) #[] 7 none)
   (Q:=λ_ st'=>(arrOf st').Perm (pairsOf vs)/\failedOf st'=none)
   (λp hp=>by
    rw[pairsOf_toList]at hp
    exact hS.all _ (mem_zip_self hp).2) (by rw[pairsOf_size];exact h64') ⟨Array.Perm.refl _,rfl,rfl,rfl⟩ λP st' hB=>⟨hB.perm,hB.failed⟩) ?_ λ_ _ e=>e)))
 rintro⟨⟨⟩,st'⟩ s' ⟨rfl,hp,hf⟩
 refine wpAny_bind (seqEpoch_at ho6 rfl (wpAny_bind (listUpdate_at ho6 rfl ?_ (hsz2:=by refine NU (OA ((Array.size_map ..).trans (hp.size_eq.trans (pairsOf_size _)))) ?_;rw[sizeLine_eq];lia))))
 dsimp only
 rw[hf]
 simp only[bne_self_eq_false,Pi,if_false]
 exact wpAny_pure (h _ (kQ hp))
end
end Mine

namespace Mine
open PySem
abbrev Tx:=Str×Nat
noncomputable abbrev bK (L:List Tx):List Value:=L.map λp=>.str p.1 p.2
noncomputable abbrev kR (w:World):Bool:=w.params.followText "set-order"
noncomputable abbrev cJ (es:Array (Int×Value))(ep:Nat)(t:SetTable):Obj:=⟨.type "set",none,.set es ep t,#[]⟩
structure f6 (prog:Program)(w:World)(o:Obj)(L:List Tx):Prop where
 has:∃es ep t,o=cJ es ep t/\t.fits es.size=true/\t.led=!kR w/\(1<=es.size->t.plain=false)/\ElemsOf (strKind prog w) es.toList/\(es.toList.map (·.2)).Perm (bK L)
 few:L.length+1<scanBound
theorem qp (t:SetTable)(n:Nat):(t.standIn n).led=t.led/\(t.standIn n).plain=false:=⟨rfl,rfl⟩
theorem yA (t:SetTable)(es:Array (Int×Value))(h:Int)(x:Value):(layNew t es h x).2.1.led=t.led:=by
 unfold layNew
 split
 ·unfold SetTable.orStandIn
  dsimp only
  split<;>rfl
 ·rfl
theorem qq (t:SetTable)(es:Array (Int×Value))(n:Nat)(hp:t.plain=false):(relayAll t es n).2.1.led=t.led/\(relayAll t es n).2.1.plain=false:=by
 unfold relayAll
 split
 ·rename_i t' order e
  dsimp only
  split
  ·unfold SetTable.relaid SetTable.laid at e
   cases h:SetTable.layClean (SetTable.sizeAbove n-1) (es.map (·.1))with
   | none=>rw[h]at e;cases e
   | some owner=>rw[h]at e;cases e;exact⟨rfl,hp⟩
  ·exact qp _ _
 ·exact qp _ _
section
variable{prog:Program}{w:World}{A:Around}{E:Value->aP}{s:Shared}
theorem Cw {L:List Tx}{x:Str}:(∃v∈bK L,(strKind prog w).is x v=true)↔x∈L.map (·.1):=by
 constructor
 ·rintro⟨v,hv,h⟩
  obtain⟨p,hp,rfl⟩:=NL.mp hv
  have h':Value.isStrOf x (.str p.1 p.2)=true:=h
  obtain⟨t,e⟩:=Value.isStrOf_shape h'
  cases e
  exact NL.mpr ⟨p,hp,rfl⟩
 ·intro h
  obtain⟨p,hp,rfl⟩:=NL.mp h
  refine⟨_,NL.mpr ⟨p,hp,rfl⟩,?_⟩
  show Value.isStrOf p.1 (.str p.1 p.2)=true
  simp[Value.isStrOf]
noncomputable def dC (L:List Tx)(x:Tx):List Tx:=if x.1∈L.map (·.1)then L else L++[x]
theorem wq (L:List Tx)(x:Tx):(dC L x).length<=L.length+1:=by unfold dC;split<;>simp
inductive M0 (prog:Program)(w:World)(a:Addr)(s:Shared)(L:List Tx)(x:Tx)(r:Option Bool)(s':Shared):Prop
 | mk (o':Obj) (h':Heap) (e1:r=some true) (e2:s'={s with heap:=h',toks:=s.toks+1}) (e3:f6 prog w o' (dC L x)) (e4:h'.get? a=some o') (e5:Heap.SameBut a s.heap h')
theorem Hg {a:Addr}{o:Obj}{L:List Tx}{x:Tx}(ho:s.heap.get? a=some o)(hS:f6 prog w o L)(hroom:L.length+2<scanBound){Q:Bool->aP}
  (h:∀(o':Obj) (h':Heap) (b:Bool),f6 prog w o' (dC L x)->h'.get? a=some o'->Heap.SameBut a s.heap h'->Q b {s with heap:=h',toks:=s.toks+1}) :
  wpAny (model prog w) A (setAdd a (.str x.1 x.2)) Q E s:=by
 obtain⟨es,ep,t,ho',hf,hled,hpl,hel,hperm⟩:=hS.has
 subst ho'
 have hd:(cJ es ep t).data=.set es ep t:=rfl
 have hkey:(strKind prog w).is x.1 (.str x.1 x.2)=true:=by show Value.isStrOf x.1 (.str x.1 x.2)=true;simp[Value.isStrOf]
 have hlen:es.size=L.length:=by have:=hperm.length_eq;simpa using this
 unfold setAdd
 refine wpAny_holding (wpAny_bind ((strKind prog w).pyHash hkey ?_))
 unfold setAddHashed setAddHashedIn
 refine wpAny_holding (wpAny_bind (wpAny_setState_of (s:={s with toks:=s.toks+1}) ho hd hf ?_))
 dsimp only
 rw[byScan_of (knd:=strKind prog w) rfl (by have:=hS.few;lia) hel]
 simp only[↓reduceIte]
 unfold setAddByScan
 refine wpAny_bind (wpAny_bind (wpAny_rule (wpAny_bind (wpAny_setScan_of (s:={s with toks:=s.toks+1}) hkey ho hd hf hel ?_))))
 have key:(∃e∈es.toList,(strKind prog w).is x.1 e.2=true)↔x.1∈L.map (·.1):=by
  rw[<-Cw (prog:=prog) (w:=w)]
  constructor
  ·rintro⟨e,he,q⟩
   exact⟨e.2,hperm.mem_iff.mp (NL.mpr ⟨e,he,rfl⟩),q⟩
  ·rintro⟨v,hv,q⟩
   obtain⟨e,he,rfl⟩:=NL.mp (hperm.mem_iff.mpr hv)
   exact⟨e,he,q⟩
 cases hr:List.findIdx? (λe=>(strKind prog w).is x.1 e.2) es.toList with
 | some j =>
  dsimp only
  obtain⟨hj,hpj,_⟩:=P5.mp hr
  have hin:dC L x=L:=if_pos (key.mp ⟨_,List.getElem_mem hj,hpj⟩)
  refine wpAny_pure (wpAny_pure ?_)
  exact h _ s.heap _ (by rw[hin];exact hS) ho (Heap.SameBut.refl a s.heap)
 | none =>
  have hin:dC L x=L++[x]:=if_neg λq=>by
   obtain⟨e,he,hp⟩:=key.mpr q
   have:=PR.mp hr e he
   rw[hp]at this;cases this
  have hgw:∀(b:Bool) {s₁:Shared} {Q':Unit->aP},Q' () s₁->wpAny (model prog w) A (match b with|true=>rule "set.scan.the-table-gave-way" | false=>pure ()) Q' E s₁:=
   λb s₁ Q' hq=>by cases b<;>first|exact wpAny_pure hq|exact wpAny_rule hq
  have hp1:=layNew_perm t es ((strKind prog w).hash x.1) (.str x.1 x.2)
  have hf1:=layNew_fits t es ((strKind prog w).hash x.1) (.str x.1 x.2)
  have hl1:=yA t es ((strKind prog w).hash x.1) (.str x.1 x.2)
  generalize hL:layNew t es ((strKind prog w).hash x.1) (.str x.1 x.2)=T1 at hp1 hf1 hl1 ⊢
  obtain⟨es1,t1,wasDummy,gave⟩:=T1
  dsimp only at hp1 hf1 hl1 ⊢
  rw[O9]at hp1
  have hel1:ElemsOf (strKind prog w) es1.toList:=(hel.push hkey rfl).perm hp1
  have hpm1:(es1.toList.map (·.2)).Perm (bK (L++[x])):=by
   refine(hp1.map _).trans ?_
   rw[NO,bK,NO]
   exact hperm.append_right _
  have hsz1:es1.size=L.length+1:=by have:=hpm1.length_eq;simpa using this
  have mk:∀(es2:Array (Int×Value)) (t2:SetTable) (ep2:Nat),es2.toList.Perm es1.toList->t2.fits es2.size=true->t2.led=t.led->t2.plain=false->f6 prog w (cJ es2 ep2 t2) (dC L x):=λes2 t2 ep2 q1 q2 q3 q4=>by
   rw[hin]
   exact⟨⟨es2,ep2,t2,rfl,q2,q3.trans hled,λ_=>q4,hel1.perm q1,(q1.map _).trans hpm1⟩,by rw[NR];exact hroom⟩
  have tail:∀t2:SetTable,t2.fits es1.size=true->t2.led=t.led->t2.plain=false->wpAny (model prog w) A (do
    storeSet a es1 t2
    if(!wasDummy&&t2.tooFull)=true then do
     (match(relayAll t2 es1 (SetTable.grown es1.size)).2.2 with|true=>rule "set.scan.the-table-gave-way" | false=>pure ())
     storeSet a (relayAll t2 es1 (SetTable.grown es1.size)).1 (relayAll t2 es1 (SetTable.grown es1.size)).2.1
     pure (some true)
    else pure (some true)) (M0 prog w a s L x) E {s with toks:=s.toks+1}:=λt2 q1 q2 q3=>by
   have hb:es1.size<scanBound:=by rw[hsz1];lia
   refine wpAny_bind (wpAny_storeSet_of (s:={s with toks:=s.toks+1}) ho hd ?_ (fits_of_scanBound hb))
   have g1:(s.heap.update a (Obj.putSet es1 t2)).get? a=some (cJ es1 (ep+1) t2):=by
    have:=Heap.get?_update_self (Obj.putSet es1 t2) ho (by rw[putSet_of es1 t2 hd];rfl)
    rw[putSet_of es1 t2 hd]at this;exact this
   split
   ·have hp2:=relayAll_perm t2 es1 (SetTable.grown es1.size)
    have hf2:=relayAll_fits t2 es1 (SetTable.grown es1.size)
    have hl2:=qq t2 es1 (SetTable.grown es1.size) q3
    generalize relayAll t2 es1 (SetTable.grown es1.size)=R at hp2 hf2 hl2 ⊢
    obtain⟨es2,t3,gave2⟩:=R
    dsimp only at hp2 hf2 hl2 ⊢
    have hsz2:es2.size=es1.size:=by rw[<-OB,hp2.length_eq,OB]
    refine wpAny_bind (hgw _ (wpAny_bind (wpAny_storeSet_of (s:={s with heap:=s.heap.update a (Obj.putSet es1 t2),toks:=s.toks+1}) g1 rfl (wpAny_pure ?_) (fits_of_scanBound (by rw[hsz2];exact hb)))))
    have g2:=Heap.get?_update_self (Obj.putSet es2 t3) g1 (by rw[putSet_of es2 t3 rfl];rfl)
    rw[putSet_of es2 t3 rfl]at g2
    exact⟨_,_,rfl,rfl,mk es2 t3 (ep+1+1) hp2 hf2 (hl2.1.trans q2) hl2.2,g2,(Heap.SameBut.update _ _ _).trans (Heap.SameBut.update _ _ _)⟩
   ·exact wpAny_pure ⟨_,_,rfl,rfl,mk es1 t2 (ep+1) (.refl _) q1 q2 q3,g1,Heap.SameBut.update _ _ _⟩
  have fin:∀(r:Option Bool) s',M0 prog w a s L x r s'->wpAny (model prog w) A (match r with|some added=>pure added|none=>setAddHashedIn a (.str x.1 x.2) ((strKind prog w).hash x.1) 99999) Q E s':=by
   rintro r s' ⟨o',h',rfl,rfl,q1,q2,q3⟩
   exact wpAny_pure (h o' h' true q1 q2 q3)
  refine wpAny_bind (hgw _ ?_)
  cases hpp:t1.plain with
  | true =>
   simp only[↓reduceIte]
   refine wpAny_bind ?_
   rw[hashByValue_scannable 8 rfl]
   refine wpAny_pure ?_
   exact wpAny_mono (tail {t1 with plain:=false} (SetTable.fits_plain_off hf1) hl1 rfl) fin λ_ _ e=>e
  | false =>
   refine wpAny_bind (wpAny_pure ?_)
   exact wpAny_mono (tail t1 hf1 hl1 hpp) fin λ_ _ e=>e
structure Kp (ads:List Addr)(s s':Shared):Prop where
 old:∀b o,s.heap.get? b=some o->b∉ads->s'.heap.get? b=some o
 sam:bZ s s'
theorem Kp.trans {ads:List Addr}{s s' s'':Shared}(a:Kp ads s s')(b:Kp ads s' s''):Kp ads s s'':=⟨λx o h n=>b.old x o (a.old x o h n) n,a.sam.trans b.sam⟩
theorem nJ {a:Addr}{h':Heap}{n:Nat}{ads:List Addr}(h:Heap.SameBut a s.heap h')(ha:a∈ads):Kp ads s {s with heap:=h',toks:=n}:=
 ⟨λb o hb hn=>(h.2 b λe=>hn (e▸ha)).trans hb,rfl,rfl,rfl⟩
theorem yB {a:Addr}{h':Heap}{n:Nat}{ads:List Addr}(h:Heap.ExtBut a s.heap h')(ha:a∈ads):Kp ads s {s with heap:=h',toks:=n}:=
 ⟨λb o hb hn=>h b o (λe=>hn (e▸ha)) hb,rfl,rfl,rfl⟩
theorem aa.kp {K:Nat->Option Obj}{s s':Shared}{st:aK}{nx tok:Nat}{ads:List Addr}(I:aa K s st nx tok)(k:Kp ads s s')(h1:∀p∈st,p.1∉ads)(h2:∀a o,K a=some o->a∉ads):aa K s' st s'.heap.objs.size s'.toks:=
 ⟨λp hp=>k.old _ _ (I.has p hp) (h1 p hp),I.nodup,λa o h=>k.old a o (I.base a o h) (h2 a o h),I.off,rfl,rfl⟩
theorem uA (hh:A.handled=none){S I l e:Nat}{Lst:List Tx}(hSI:S≠I)(hSl:S≠l)(hIl:I≠l)(hroom:Lst.length+2<scanBound){R:Result->aP}:∀(k i:Nat) (s:Shared) (o:Obj) (L:List Tx),i+k=Lst.length->L.length<=i ->
  s.heap.get? l=some ⟨.type "list",none,.seq (bK Lst).toArray e,#[]⟩->s.heap.IsListIter I l i->s.heap.get? S=some o->f6 prog w o L ->
  (∀s' o',s'.heap.get? S=some o'->f6 prog w o' ((Lst.drop i).foldl dC L)->Kp [S,I] s s'->R (.ok (.ret .none)) s') ->
  codeAny (model prog w) A (.builtin "set.update.loop" ⟨[.ref S,.ref I],[]⟩) R s
 | 0,i,s,o,L,hi,hL,hl,hI,hS,hA,h=>by
  refine codeAny_builtin PyProof.Rows.F.entry_set_update_loop ?_
  rw[Around.under_plainId PyProof.Rows.F.plain_set_update_loop _]
  show wpAny _ A.in1 (pyNext (.ref I) >>= _) _ _ s
  have hi':i=Lst.length:=hi
  refine wpAny_bind (wpAny_pyNext_list_end (items:=(bK Lst).toArray) hh hI ⟨_,hl,rfl,_,rfl⟩ (by rw[hi'];simp) λh' hx=>?_)
  refine wpAny_pure (h _ o (hx S _ hSI hS) ?_ (yB (n:=s.toks) hx (.tail _ (.head _))))
  rw[hi',List.drop_length];exact hA
 | k+1,i,s,o,L,hi,hL,hl,hI,hS,hA,h=>by
  refine codeAny_builtin PyProof.Rows.F.entry_set_update_loop ?_
  rw[Around.under_plainId PyProof.Rows.F.plain_set_update_loop _]
  show wpAny _ A.in1 (pyNext (.ref I) >>= _) _ _ s
  with_reducible refine gx (l:=Lst) (i:=i) (by lia) λx hx=>?_
  refine wpAny_bind (wpAny_pyNext_list_item (items:=(bK Lst).toArray) (x:=.str x.1 x.2) hI ⟨_,hl,rfl,_,rfl⟩ (by simp[bK,hx]) λh1 hI1 hs1=>?_)
  have hl1:h1.get? l=_:=(hs1.2 l (Ne.symm hIl)).trans hl
  have hS1:h1.get? S=_:=(hs1.2 S hSI).trans hS
  refine wpAny_bind (wpAny_holding (Hg (s:={s with heap:=h1}) hS1 hA (by lia) λo2 h2 b hA2 hS2 hs2=>?_))
  have hl2:h2.get? l=_:=(hs2.2 l (Ne.symm hSl)).trans hl1
  obtain⟨oi,hoi,hci,hdi⟩:=hI1
  have hI2:h2.IsListIter I l (i+1):=⟨oi,(hs2.2 I (Ne.symm hSI)).trans hoi,hci,hdi⟩
  refine wpAny_pure ⟨plainId_quiet PyProof.Rows.F.plain_set_update_loop _,uA hh hSI hSl hIl hroom k (i+1) _ o2 _ (by lia) (NU (wq L x) (PM hL)) hl2 hI2 hS2 hA2 λs' o' hS' hA' k'=>?_⟩
  refine h s' o' hS' ?_ ?_
  ·have e:Lst.drop i=x::Lst.drop (i+1):=by
    obtain⟨hi2,hx2⟩:=NW.mp hx
    rw[OD hi2,hx2]
   rw[e];exact hA'
  ·exact(Kp.trans (nJ (n:=s.toks) hs1 (.tail _ (.head _))) (nJ (s:={s with heap:=h1}) hs2 (.head _))).trans k'
end
abbrev xE (x:Nat)(l:Array (Int×Value))(e:Nat)(t:SetTable):Addr×Obj:=(x+200,cJ l e t)
end Mine
namespace Mine
open PySem PySem.Builtin
theorem bp:Slot "set_iterator" "__next__" "set_iterator.__next__" :=
 .of (owner:="set_iterator") (n:="__next__") (by rw[typeLookup_type,builtinLookup_eq_fast];kernel_rfl) (by decide +kernel) (by decide +kernel) (by decide +kernel)
  (by first|exact .inl (by decide +kernel)|exact .inr (by decide +kernel)) (by rw[isSubtype_type];kernel_rfl)
theorem cL:entryFor table "set_iterator.__next__" = some Builtin.«set_iterator.__next__»:=entryFor_of_tree (by kernel_rfl)
theorem cT (a:Value):argsOk "set_iterator.__next__" ⟨[a],[]⟩:=by unfold argsOk;kernel_rfl
theorem kS:entryFor table "set.__iter__" = some Builtin.«frozenset.__iter__»:=entryFor_alias (id':="frozenset.__iter__") (by kernel_rfl) (by decide +kernel) (by decide +kernel) (by kernel_rfl)
noncomputable abbrev gZ (vs:aN):Obj:=⟨.type "tuple",none,.seq vs 0,#[]⟩
noncomputable abbrev b9 (first:Value)(i:Int)(S:Nat)(n ep:Int):Obj:=⟨.type "set_iterator",none,.fields #[first,.int i 0,.ref S,.int n 0,.int ep 0],#[]⟩
noncomputable def Lm (it:Nat)(i:Int)(nxt:Nat)(x:Value):Sem Fin:=do setField (.ref it) 0 (rawInt nxt);setField (.ref it) 1 (rawInt (i+1));ret x
noncomputable def Ln (it:Nat)(i:Int)(x:Value):Sem Fin:=do setField (.ref it) 1 (rawInt (i+1));ret x
noncomputable def Lo (it:Nat):Sem Fin:=do setField (.ref it) 2 .none;SmallTypes.stopIteration
noncomputable def Lp (it:Nat):Sem Fin:=do setField (.ref it) 0 (rawInt 0);setField (.ref it) 2 .none;SmallTypes.stopIteration
theorem kT {α:Type}{l:List α}{i:Nat}(h:i<l.length):(l[i]::l.eraseIdx i).Perm l:=by
 rw[List.eraseIdx_eq_take_drop_succ]
 refine OQ.symm.trans ?_
 rw[QU,Ot]
section
variable{prog:Program}{w:World}{A:Around}{E:Value->aP}
theorem nK {src:Source}{n:Nat}{s:Shared}(hn:n≠0){Q:Nat->aP}(h:∀i d,i<n->Q i {s with drawn:=d}):wpAny (model prog w) A (choose src n) Q E s:=λΓ p _=>by
 show Sem.wp _ Γ (.choose src n .pure) _ _ p s
 rw[Sem.wp_choose]
 exact⟨hn,h _ _ (Qj _ (PZ hn))⟩
theorem sj {α:Type}(n:Nat):∀(xs:List α) (s:Shared) {Q:List α->aP},n=xs.length->(∀ys d,ys.Perm xs->Q ys {s with drawn:=d})->wpAny (model prog w) A (drawOrder n xs) Q E s:=by
 induction n with
 | zero =>
  intro xs s Q hn h
  have:xs=[]:=P2.mp hn.symm
  subst this
  exact wpAny_pure (h [] s.drawn (.refl _))
 | succ n ih =>
  intro xs s Q hn h
  rcases xs with _|⟨x,r⟩
  ·exact absurd hn (O6 n)
  unfold drawOrder
  refine wpAny_bind (nK (by simp) λi d hi=>?_)
  have oo:∃y,(x::r)[i]?=some y:=⟨_,NZ hi⟩
  obtain⟨y,hy⟩:=oo
  rw[hy]
  refine wpAny_bind (ih ((x::r).eraseIdx i) _ (by rw[Qo hi];exact Nat.succ.inj hn) λys d' hp=>wpAny_pure (h _ d' ?_))
  obtain⟨hi',rfl⟩:=NW.mp hy
  refine(hp.cons _).trans ?_
  exact(kT hi)
end
inductive ig (w:World)(es:Array (Int×Value))(ep:Nat)(t:SetTable)(S:Nat):aK->Value->List Value->Nat->Prop
 | text {k i:Nat}:kR w=true->ig w es ep t S [] (.int k 0) ((pickOrder (w.params.setOrder S ep) es).toList.map (·.2)) i
 | one {k i:Nat}:kR w=false->t.led=true->es.size<=1->(∀j,t.place[0]?=some j->k=if i=0 then 0 else j+1)->ig w es ep t S [] (.int k 0) (es.toList.map (·.2)) i
 | drawn {tup i:Nat} {ps:List Nat}:kR w=false->t.plain=false->1<es.size->ps.Perm (Oy es.size)->ig w es ep t S [(tup,⟨.type "tuple",none,.seq (ps.map λp:Nat=>Value.int p 0).toArray 0,#[]⟩)] (.ref tup) (ps.map λp=>(es.getD p default).2) i
theorem wr {α:Type}(next:Nat->Nat)(xs:Array α):(pickOrder next xs).toList.Perm xs.toList:=by
 have go:∀(f k:Nat) (left:List α) (out:Array α),f=left.length->(pickOrder.go next f k left out).toList.Perm (out.toList++left):=by
  intro f
  induction f with
  | zero =>
   intro k left out h
   have:left=[]:=P2.mp h.symm
   subst this
   unfold pickOrder.go
   simp
  | succ f ih =>
   intro k left out h
   unfold pickOrder.go
   have hi:next k%left.length<left.length:=Qj _ (by lia)
   rw[NZ hi]
   dsimp only
   refine(ih (k+1) _ _ (by rw[Qo hi];lia)).trans ?_
   rw[O9,NP]
   exact NQ _ (kT hi)
 unfold pickOrder
 refine(go xs.size 0 xs.toList #[] (by simp)).trans ?_
 simp
theorem ig.perm {w:World}{es:Array (Int×Value)}{ep:Nat}{t:SetTable}{S:Nat}{tp:aK}{f:Value}{order:List Value}{i:Nat}(h:ig w es ep t S tp f order i):order.Perm (es.toList.map (·.2)):=by
 cases h with
 | text _=>exact(wr _ _).map _
 | one _ _ _ _=>exact .refl _
 | @drawn tup i ps _ _ _ hp =>
  refine(hp.map _).trans ?_
  apply OG
  apply List.ext_getElem (by simp)
  intro j h1 h2
  have hj:j<es.size:=by simpa using h1
  simp[Array.getD,hj]
section
variable{prog:Program}{w:World}{A:Around}{E:Value->aP}{K:Nat->Option Obj}
theorem dy {α:Type}{c:Prop}{_:Decidable c}{x y:Sem α}{Q:α->aP}{s:Shared}(h1:c->wpAny (model prog w) A x Q E s)(h2:¬c->wpAny (model prog w) A y Q E s):wpAny (model prog w) A (if c then x else y) Q E s:=by
 split
 ·exact h1 ‹_›
 ·exact h2 ‹_›
theorem nL {s:Shared}{Q:Bool->aP}(h:Q (kR w) s):wpAny (model prog w) A setsByText Q E s:=by
 unfold setsByText
 exact wpAny_bind (wpAny_askSetting (wpAny_pure h))
theorem mm {s:Shared}{S:Nat}{es:Array (Int×Value)}{ep:Nat}{t:SetTable}{L:List Tx}{st:aK}{nx tok:Nat}(hA:f6 prog w (cJ es ep t) L)(I:aa K s st nx tok)(hm:(S,cJ es ep t)∈st){R:Result->aP}
  (h:∀(s':Shared) (tp:aK) (f:Value) (order:List Value) (it nx':Nat),ig w es ep t S tp f order 0->order.Perm (bK L)->aa K s' (st++tp++[(it,b9 f 0 S es.size ep)]) nx' tok->nx<=it->s'.gens=s.gens->s'.os=s.os->R (.ok (.ret (.ref it))) s') :
  codeAny (model prog w) A (.call (.builtin "set.__iter__") ⟨[.ref S],[]⟩) R s:=by
 obtain⟨es',ep',t',e,hf,hled,hpl,hel,hperm⟩:=hA.has
 cases e
 have ho:s.heap.get? S=some (cJ es ep t):=I.has _ hm
 refine codeAny_call_builtin F.slot_set_iter.plain kS (F.slot_set_iter.check _ _ _ _ _ _ _ _ ⟨_,ho,rfl⟩ (F.args_set_iter_1 _) ?_)
 unfold Builtin.«frozenset.__iter__»
 refine wpAny_bind (m:=Builtin.Frozenset.slot0 "__iter__" ⟨[.ref S],[]⟩) (wpAny_pure ?_)
 refine wpAny_bind (m:=Frozenset.sizeOf S) (wpAny_bind (wpAny_setEntries_of ho rfl hf (wpAny_pure ?_)))
 have fin:∀(s1:Shared) (tp:aK) (f:Value) (order:List Value) (nx1:Nat),ig w es ep t S tp f order 0->aa K s1 (st++tp) nx1 tok->nx<=nx1->s1.gens=s.gens->s1.os=s.os ->
   wpAny (model prog w) A.in1 (do
    let z <-setEpoch S
    let y <-newFields "set_iterator" [f,rawInt 0,Value.ref S,rawInt (es.size:Int),rawInt (z:Int)]
    ret y) (λfin s'=>match fin with|Fin.done f=>R (Except.ok f) s'|Fin.again c'=>c'.quiet=true/\codeAny (model prog w) A c' R s') (λe s'=>R (Except.error e) s') s1:=λs1 tp f order nx1 hS I1 hle hg hos=>by
  have ho1:s1.heap.get? S=some (cJ es ep t):=I1.has _ (List.mem_append_left _ hm)
  refine wpAny_bind (wpAny_setEpoch_of ho1 rfl hf ?_)
  refine wpAny_bind (wpAny_newObj_type (wpAny_pure ?_))
  have I2:=I1.push (o:=b9 f 0 S es.size ep) rfl
  rw[gu]at I2
  have e:s1.heap.objs.size=nx1:=I1.nx
  rw[e]
  exact h _ tp f order nx1 (nx1+1) hS (hS.perm.trans hperm) I2 hle hg hos
 refine wpAny_bind (m:=setDrawn S) ?_
 unfold setDrawn
 refine wpAny_bind (wpAny_setState_of ho rfl hf (wpAny_bind (nL (wpAny_pure ?_))))
 by_cases hs:kR w=true
 ·rw[hs]
  simp only[Bool.not_true,Bool.false_and,Pi,if_false]
  refine wpAny_bind (wpAny_pure ?_)
  exact fin s [] _ _ nx (.text hs) (by rw[Oc];exact I) (NT _) rfl rfl
 ·have hs':kR w=false:=by simpa using hs
  by_cases h1:1<es.size
  ·have hp:=hpl (ON h1)
   have e:(!kR w&&(!t.plain&&decide (es.size>1)))=true:=by rw[hs',hp];simp;exact h1
   refine dy (λ_=>?_) λn=>absurd e n
   refine wpAny_bind (sj es.size (Oy es.size) _ (by simp) λps d hps=>wpAny_bind (wpAny_newTuple ?_ (by
    have q1:=hps.length_eq
    have q2:=hperm.length_eq
    have q3:=hA.few
    simp only[Qu,NM,OB]at q1 q2
    rw[NM]
    exact fits_of_scanBound (by lia))))
   have I1:aa K {s with drawn:=d} st nx tok:=⟨I.has,I.nodup,I.base,I.off,I.nx,I.tok⟩
   have I2:=I1.push (o:=⟨.type "tuple",none,.seq (ps.map λp:Nat=>Value.int p 0).toArray 0,#[]⟩) rfl
   rw[gu]at I2
   have e:s.heap.objs.size=nx:=I.nx
   have:=fin _ [(nx,⟨.type "tuple",none,.seq (ps.map λp:Nat=>Value.int p 0).toArray 0,#[]⟩)] (.ref nx) _ (nx+1) (.drawn hs' hp h1 hps) I2 (Pj _) rfl rfl
   rw[<-e]at this
   rw[e]at this ⊢
   exact this
  ·have e:(!kR w&&(!t.plain&&decide (es.size>1)))=false:=by simp[h1]
   refine dy (λn=>absurd (n.symm.trans e) (by decide)) λ_=>?_
   refine wpAny_bind (wpAny_pure ?_)
   exact fin s [] _ _ nx (.one hs' (by rw[hled,hs'];rfl) (Nat.le_of_not_lt h1) (λj _=>rfl)) (by rw[Oc];exact I) (NT _) rfl rfl
def nN (prog:Program)(w:World)(S k i:Nat)(es:Array (Int×Value))(ep:Nat)(t:SetTable)(r:Option (Value×Nat)):Prop:=
 ∀(A:Around) (s:Shared) (Q:Option (Value×Nat)->aP) (E:Value->aP),s.heap.get? S=some (cJ es ep t)->Q r s->wpAny (model prog w) A (setNext S k i ep) Q E s
theorem uB {it S k i:Nat}{es:Array (Int×Value)}{ep:Nat}{t:SetTable}{x:Value}{nxt:Nat}(hf:t.fits es.size=true)(hn:nN prog w S k i es ep t (some (x,nxt))) :
  a9 prog w K ⟨bc "set_iterator.__next__" [.ref it],Lm it (i:Int) nxt x,[(it,b9 (.int k 0) (i:Int) S es.size ep),(S,cJ es ep t)]⟩:=by
 intro A R s hst hb hw
 have ho:=hst _ (.head _)
 have hS:=hst _ (.tail _ (.head _))
 rw[Around.under_plain (by rfl) (by rfl)]at hw
 refine codeAny_call_builtin bp.plain cL (bp.check _ _ _ _ _ _ _ _ ⟨_,ho,rfl⟩ (cT _) ?_)
 refine wpAny_bind (m:=slotArgs "__next__" 0 ⟨[.ref it],[]⟩) (wpAny_pure ?_)
 refine wpAny_bind (wpAny_fieldsOf ho rfl (wpAny_bind (wpAny_setEntries_of hS rfl hf (dy (λn=>absurd n (by simp)) λ_=>wpAny_bind (hn _ _ _ _ hS ?_)))))
 exact hw
theorem yC {it S k i:Nat}{es:Array (Int×Value)}{ep:Nat}{t:SetTable}(hf:t.fits es.size=true)(hn:nN prog w S k i es ep t none) :
  a9 prog w K ⟨bc "set_iterator.__next__" [.ref it],Lo it,[(it,b9 (.int k 0) (i:Int) S es.size ep),(S,cJ es ep t)]⟩:=by
 intro A R s hst hb hw
 have ho:=hst _ (.head _)
 have hS:=hst _ (.tail _ (.head _))
 rw[Around.under_plain (by rfl) (by rfl)]at hw
 refine codeAny_call_builtin bp.plain cL (bp.check _ _ _ _ _ _ _ _ ⟨_,ho,rfl⟩ (cT _) ?_)
 refine wpAny_bind (m:=slotArgs "__next__" 0 ⟨[.ref it],[]⟩) (wpAny_pure ?_)
 refine wpAny_bind (wpAny_fieldsOf ho rfl (wpAny_bind (wpAny_setEntries_of hS rfl hf (dy (λn=>absurd n (by simp)) λ_=>wpAny_bind (hn _ _ _ _ hS ?_)))))
 exact hw
theorem mQ {S k i:Nat}{es:Array (Int×Value)}{ep:Nat}{t:SetTable}(hs:kR w=true)(hf:t.fits es.size=true) :
  nN prog w S k i es ep t ((((pickOrder (w.params.setOrder S ep) es).toList.map (·.2))[i]?).map λx=>(x,k)):=by
 intro A s Q E hS hq
 unfold setNext
 refine wpAny_bind (wpAny_setState_of hS rfl hf (wpAny_bind (nL (dy (λ_=>?_) λn=>absurd hs n))))
 refine dy (λn=>absurd n (by simp)) λ_=>?_
 refine wpAny_bind ?_
 unfold setWalk
 refine wpAny_bind (wpAny_setState_of hS rfl hf (wpAny_bind (nL (dy (λ_=>wpAny_bind (wpAny_askSetting (wpAny_pure (wpAny_pure ?_)))) λn=>absurd hs n))))
 have e:(pickOrder (w.params.setOrder S ep) es)[i]?.map (λe=>(e.2,k))=(((pickOrder (w.params.setOrder S ep) es).toList.map (·.2))[i]?).map λx=>(x,k):=by
  rw[N7,O4,Option.map_map];rfl
 show Q ((pickOrder (w.params.setOrder S ep) es)[i]?.map λe=>(e.2,k)) s
 rw[e];exact hq
theorem wu {j k:Nat}:SetTable.below #[j] k=if j<k then 1 else 0:=by
 unfold SetTable.below
 show SetTable.below.go #[j] k 1 0 1=_
 unfold SetTable.below.go
 rw[if_pos (by decide)]
 show(if j<k then SetTable.below.go #[j] k 0 1 1 else SetTable.below.go #[j] k 0 0 0)=_
 split<;>rfl
theorem qt {S k i:Nat}{es:Array (Int×Value)}{ep:Nat}{t:SetTable}(hs:kR w=false)(hf:t.fits es.size=true)(hl:t.led=true)(h1:es.size<=1)(hk:∀j,t.place[0]?=some j->k=if i=0 then 0 else j+1) :
  ∃nxt,nN prog w S k i es ep t (((es.toList.map (·.2))[i]?).map λx=>(x,nxt))/\∀j,t.place[0]?=some j->nxt=j+1:=by
 have hz:t.place.size=es.size:=by
  simp only[SetTable.fits,Pd,beq_iff_eq,decide_eq_true_eq]at hf
  exact hf.1
 refine⟨(t.place[0]?.getD 0)+1,λA s Q E hS hq=>?_,λj hj=>by rw[hj];rfl⟩
 unfold setNext
 refine wpAny_bind (wpAny_setState_of hS rfl hf (wpAny_bind (nL (dy (λn=>by rw[hs]at n;cases n) λ_=>?_))))
 refine dy (λn=>?_) λ_=>?_
 ·have:(!t.plain&&decide (es.size>1))=true:=n
  rw[Pd,decide_eq_true_eq]at this
  exact absurd this.2 (Q6.mpr h1)
 refine wpAny_bind (dy (λn=>?_) λ_=>wpAny_pure (wpAny_pure ?_))
 ·have:(!t.led&&!es.isEmpty)=true:=n
  rw[hl]at this;cases this
 obtain⟨el⟩:=es
 generalize hP:t.place=P at *
 obtain⟨pl⟩:=P
 have h1':el.length<=1:=h1
 have hz':pl.length=el.length:=hz
 cases el with
 | nil=>cases pl with
  | nil=>exact hq
  | cons=>exact absurd hz' (O6 _)
 | cons y er=>cases er with
  | cons=>exact absurd h1' (QE.mpr (Nat.succ_lt_succ (OY _)))
  | nil=>cases pl with
   | nil=>exact absurd hz'.symm (O6 _)
   | cons j pr=>cases pr with
    | cons=>exact absurd (Nat.succ.inj hz') (O6 _)
    | nil =>
     have hk':=hk j rfl
     show Q (match(⟨[y]⟩:Array (Int×Value))[SetTable.below #[j] k]?,(#[j]:Array Nat)[SetTable.below #[j] k]? with|some (_,x),some j=>some (x,j+1)|_,_=>none) s
     rw[wu]
     cases i with
     | zero =>
      rw[if_neg (by rw[hk',if_pos rfl];exact QV j)]
      exact hq
     | succ i =>
      rw[if_pos (by rw[hk',if_neg (O6 i)];exact Og j)]
      have e:([y].map (·.2))[i+1]?=none:=by simp
      rw[e]at hq
      exact hq
theorem yD {it S tup i:Nat}{es:Array (Int×Value)}{ep:Nat}{t:SetTable}{ps:List Nat}{p:Nat}{x:Int×Value}(hf:t.fits es.size=true)(hp:ps[i]?=some p)(hx:es[p]?=some x) :
  a9 prog w K ⟨bc "set_iterator.__next__" [.ref it],Ln it (i:Int) x.2,[(it,b9 (.ref tup) (i:Int) S es.size ep),(S,cJ es ep t),(tup,⟨.type "tuple",none,.seq (ps.map λp:Nat=>Value.int p 0).toArray 0,#[]⟩)]⟩:=by
 intro A R s hst hb hw
 have ho:=hst _ (.head _)
 have hS:=hst _ (.tail _ (.head _))
 have hT:=hst _ (.tail _ (.tail _ (.head _)))
 rw[Around.under_plain (by rfl) (by rfl)]at hw
 refine codeAny_call_builtin bp.plain cL (bp.check _ _ _ _ _ _ _ _ ⟨_,ho,rfl⟩ (cT _) ?_)
 refine wpAny_bind (m:=slotArgs "__next__" 0 ⟨[.ref it],[]⟩) (wpAny_pure ?_)
 refine wpAny_bind (wpAny_fieldsOf ho rfl (wpAny_bind (wpAny_setEntries_of hS rfl hf (dy (λn=>absurd n (by simp)) λ_=>wpAny_bind (wpAny_seqItems hT rfl ?_)))))
 have e:(ps.map λp:Nat=>Value.int p 0).toArray[((i:Int)).toNat]?=some (.int p 0):=by simp[hp]
 dsimp only
 rw[e]
 refine wpAny_bind ?_
 unfold setNextDrawn
 refine wpAny_bind (wpAny_setState_of hS rfl hf (dy (λn=>absurd n (by simp)) λ_=>?_))
 have e2:es[((p:Int)).toNat]?=some (x.1,x.2):=hx
 rw[e2]
 exact wpAny_pure hw
theorem nO {it S tup i:Nat}{es:Array (Int×Value)}{ep:Nat}{t:SetTable}{ps:List Nat}(hf:t.fits es.size=true)(hp:ps[i]?=none) :
  a9 prog w K ⟨bc "set_iterator.__next__" [.ref it],Lp it,[(it,b9 (.ref tup) (i:Int) S es.size ep),(S,cJ es ep t),(tup,⟨.type "tuple",none,.seq (ps.map λp:Nat=>Value.int p 0).toArray 0,#[]⟩)]⟩:=by
 intro A R s hst hb hw
 have ho:=hst _ (.head _)
 have hS:=hst _ (.tail _ (.head _))
 have hT:=hst _ (.tail _ (.tail _ (.head _)))
 rw[Around.under_plain (by rfl) (by rfl)]at hw
 refine codeAny_call_builtin bp.plain cL (bp.check _ _ _ _ _ _ _ _ ⟨_,ho,rfl⟩ (cT _) ?_)
 refine wpAny_bind (m:=slotArgs "__next__" 0 ⟨[.ref it],[]⟩) (wpAny_pure ?_)
 refine wpAny_bind (wpAny_fieldsOf ho rfl (wpAny_bind (wpAny_setEntries_of hS rfl hf (dy (λn=>absurd n (by simp)) λ_=>wpAny_bind (wpAny_seqItems hT rfl ?_)))))
 have e:(ps.map λp:Nat=>Value.int p 0).toArray[((i:Int)).toNat]?=none:=by simpa using hp
 dsimp only
 rw[e]
 exact hw
theorem ig.next {it S i:Nat}{es:Array (Int×Value)}{ep:Nat}{t:SetTable}{tp:aK}{f:Value}{order:List Value}{x:Value}(h:ig w es ep t S tp f order i)(hf:t.fits es.size=true)(hi:order[i]?=some x) :
  (∃nxt:Nat,ig w es ep t S tp (.int nxt 0) order (i+1)/\a9 prog w K ⟨bc "set_iterator.__next__" [.ref it],Lm it (i:Int) nxt x,[(it,b9 f (i:Int) S es.size ep),(S,cJ es ep t)]⟩) \/
  (∃tu ps,tp=[(tu,gZ ps)]/\ig w es ep t S tp f order (i+1)/\a9 prog w K ⟨bc "set_iterator.__next__" [.ref it],Ln it (i:Int) x,[(it,b9 f (i:Int) S es.size ep),(S,cJ es ep t),(tu,gZ ps)]⟩):=by
 cases h with
 | @text k _ hs =>
  have hn:=mQ (prog:=prog) (S:=S) (k:=k) (i:=i) (ep:=ep) hs hf
  rw[hi]at hn
  exact .inl ⟨k,.text hs,uB hf hn⟩
 | @one k _ hs hl h1 hk =>
  obtain⟨nxt,hn,hj⟩:=qt (prog:=prog) (S:=S) (ep:=ep) hs hf hl h1 hk
  rw[hi]at hn
  exact .inl ⟨nxt,.one hs hl h1 λj hj2=>by rw[if_neg (O6 i)];exact hj j hj2,uB hf hn⟩
 | @drawn tup _ ps hs hp h1 hps =>
  obtain⟨p,hp2,rfl⟩:∃p,ps[i]?=some p/\(es.getD p default).2=x:=by
   rw[N7]at hi
   cases e:ps[i]? with
   | none=>rw[e]at hi;cases hi
   | some p=>rw[e]at hi;cases hi;exact⟨p,rfl,rfl⟩
  have hlt:p<es.size:=Q4.mp (hps.mem_iff.mp (NS hp2))
  have hx:es[p]?=some (es.getD p default):=by simp[Array.getD,hlt]
  exact .inr ⟨_,_,rfl,.drawn hs hp h1 hps,yD hf hp2 hx⟩
theorem ig.stop {it S i:Nat}{es:Array (Int×Value)}{ep:Nat}{t:SetTable}{tp:aK}{f:Value}{order:List Value}(h:ig w es ep t S tp f order i)(hf:t.fits es.size=true)(hi:order[i]?=none) :
  a9 prog w K ⟨bc "set_iterator.__next__" [.ref it],Lo it,[(it,b9 f (i:Int) S es.size ep),(S,cJ es ep t)]⟩ \/
  ∃tu ps,tp=[(tu,gZ ps)]/\a9 prog w K ⟨bc "set_iterator.__next__" [.ref it],Lp it,[(it,b9 f (i:Int) S es.size ep),(S,cJ es ep t),(tu,gZ ps)]⟩:=by
 cases h with
 | @text k _ hs =>
  have hn:=mQ (prog:=prog) (S:=S) (k:=k) (i:=i) (ep:=ep) hs hf
  rw[hi]at hn
  exact .inl (yC hf hn)
 | @one k _ hs hl h1 hk =>
  obtain⟨nxt,hn,hj⟩:=qt (prog:=prog) (S:=S) (ep:=ep) hs hf hl h1 hk
  rw[hi]at hn
  exact .inl (yC hf hn)
 | @drawn tup _ ps hs hp h1 hps =>
  refine .inr ⟨_,_,rfl,nO hf ?_⟩
  simpa using hi
end
end Mine

namespace Mine
open PySem PySem.Builtin PySem.Builtin.Str PyProof.Rows
section
variable{prog:Program}{w:World}{A:Around}{Q:Fin->aP}{E:Value->aP}
theorem Cx {f:Value}{args:List Value}{κ:bY}{g:Bool}{l:List Value}{k:Result->Sem Fin}{s:Shared}(h:wpAny (Mo prog w) (ar A κ) (call f args) (λv s'=>an prog w A Q E κ (k (.ok (.ret v))) s') (λ_ _=>False) s) :
  an prog w A Q E κ (.call (.call f ⟨args,[]⟩) none g l k) s:=λΓ p hΓ=>by
 have h1:=(Sem.wp_bind' (Mo prog w) Γ (PySem.run (.call f ⟨args,[]⟩)) _ _ _ p s).mp (h Γ p hΓ)
 refine wpCode_mono (λr s' x=>?_) h1
 cases r with
 | ok fl=>cases fl with
  | ret v=>exact x Γ p hΓ
  | _=>exact x.elim
 | error e=>exact x.elim
theorem M2 {b:Bool}{B:Bx (KL (PB b w))}{ops:List Op}{os:List ir}{s:Shared}{pu:List Pu}{al:List Al}{ks:List Nat}{d:Nat}(hA:ad d A){rn:Option bo}{t:Sem Fin}{κ:bY}{st₀ R:aK}{nx₀ tok₀:Nat}(hr:rn=go aA (SB b w) (KL (PB b w)) 300 ops os ⟨t,κ,st₀,nx₀,tok₀⟩){f:Value}{args:List Value}{st:aK}{nx tok:Nat}
  (seg:mc ks rn=md pu (.call f ⟨args,[]⟩) st nx tok al rn) (hp:∀x∈pu,ak PW (WB b w) (KL (PB b w)) 9000 x) (ha:∀x∈al,a9 PW (WB b w) (KL (PB b w)) x) (I:aa B.f s (st₀++R) nx₀ tok₀)
  (h:∀s',aa B.f s' (st++R) nx tok->bZ s s'->wpAny (Mo PW (WB b w)) (ar A (bH rn)) (call f args) (λv s''=>an PW (WB b w) A Q E (bH rn) (dH (fR rn) (.ok (.ret v))) s'') (λ_ _=>False) s') :
  an PW (WB b w) A Q E κ t s:=by
 subst hr
 rcases hy:go aA (SB b w) (KL (PB b w)) 300 ops os ⟨t,κ,st₀,nx₀,tok₀⟩with _|y
 ·rw[hy]at seg;exact nomatch seg
 ·rw[hy]at seg h
  simp only[mc,md,Oj.injEq,Prod.mk.injEq]at seg
  obtain⟨e1,e2,e3,e3',e4,e5,e6,e7⟩:=seg
  subst e3 e3'
  refine ix (B:=(B.more R).f) (B.more R).ext (ax _) hA.depth hA.units (NT _) hA.handled ops os ⟨t,κ,st₀,nx₀,tok₀⟩ y s hy ⟨ha,e1,e2,hp⟩ I.fr λs' I' k=>?_
  have h':=h s' (I.un (by rw[<-e5,<-e6,<-e7];exact I'.pick ks)) k.sm
  dsimp only[bH,fR]at h'
  generalize y.g.t=t at e4 h' ⊢
  revert h'
  apply po e4;intro gd l k0 h'
  exact Cx h'
end
theorem aa.after {K:Nat->Option Obj}{s s':Shared}{st:aK}{nx tok:Nat}(I:aa K s st nx tok)(h:∀b o,s.heap.get? b=some o->s'.heap.get? b=some o){p:Addr×Obj}(hp:p∈st)(h2:200<=p.1):∃n' tk',aa K s' st (n'+200) tk':=by
 have h3:=Heap.lt_size (h _ _ (I.has p hp))
 have h4:(200:Nat)<s'.heap.objs.size:=O7 h2 h3
 exact⟨s'.heap.objs.size-200,s'.toks,λq hq=>h _ _ (I.has q hq),I.nodup,λa o ha=>h _ _ (I.base a o ha),I.off,by lia,rfl⟩
section
variable{prog:Program}{w:World}{K:Nat->Option Obj}{U:Nat}
theorem bC {x:Str}{t:Nat}{c:Int}(hc:c=(x.length:Int))(hs:x.length<2^40):ak prog w K U ⟨bc "len" [.str x t],aL c,[]⟩:=by
 subst hc
 refine kx kind_len plain_len entry_len (args_len1 _) (λA R s hs' _ hR=>?_) nM
 have hT:s.TypeIs (.str x t) "str":=typeIs_str s x t
 unfold Builtin.«len»
 refine wpAny_bind (m:=oneArg "len" _) (wpAny_pure ?_)
 refine wpAny_bind (m:=callSpecial? (.str x t) (Rf "__len__")) (wpAny_callSpecial?_slot (name:=Rf "__len__") hT F.slot_str_len
  (wpAny_call_entry F.slot_str_len hT F.entry_str_len ?_ (F.args_str_len_1 _)))
 show wpAny _ _ (retInt (x.length:Int)) _ _ s
 refine wpAny_bind (wpAny_mkInt (wpAny_pure ⟨_,rfl,?_⟩))
 refine wpAny_bind (wpAny_holding (wpAny_pure ?_))
 refine wpAny_bind (wpAny_letGo ?_)
 show wpAny _ _ (if((x.length:Nat):Int)<0 then _ else _) _ _ _
 rw[if_neg (by lia)]
 show wpAny _ _ (if((x.length:Nat):Int)>=2^63 then _ else _) _ _ _
 rw[if_neg (by lia)]
 exact wpAny_bind (wpAny_mkInt (wpAny_pure hR))
theorem f7 {x:Str}{j c t u:Nat}(h:x.cps[j]?=some c)(hj:j<1000):ak prog w K U ⟨bc "str.__getitem__" [.str x t,.int (j:Int) u],aS ⟨#[c]⟩,[]⟩:=by
 refine ag F.slot_str_getitem (λs _ _=>typeIs_str s x t) F.entry_str_getitem (F.args_str_getitem_2 _ _) (λA R s _ _ hR=>?_) nM
 have hl:j<x.length:=by
  have:=(PN.mp h).1
  exact this
 refine gives_str_getitem x (j:Int) t u c (by simp;lia) ?_ prog w A R s ⟨by show 1<=sizeLine;decide +kernel,hR⟩
 have e:seqIndex? (j:Int) x.length=some j:=by
  unfold seqIndex?
  simp;lia
 rw[e]
 exact h
end
theorem f8 (L:List Nat):∀k,preSum (λi=>((L[i]?.getD 0:Nat):Int)) k=(((L.take k).sum:Nat):Int)
 | 0=>by simp[preSum]
 | k+1=>by
  rw[preSum,f8 L k,OT]
  cases L[k]? with
  | none=>simp
  | some x=>simp
theorem yE (L:List Nat)(c:Nat)(h:∀x∈L,x<=c):L.sum<=L.length*c:=by
 induction L with
 | nil=>simp
 | cons x r ih =>
  have h1:=h x (.head _)
  have h2:=ih λy hy=>h y (.tail _ hy)
  rw[List.sum_cons,NV,QM];lia
noncomputable def nQ (ps:List (Nat×Nat)):Array (Int×Tok):=(ps.map λp=>((p.1:Int),p.2)).toArray
theorem Cy (ps:List (Nat×Nat)):intItems (nQ ps)=aO ps:=by simp[intItems,nQ,aO]
theorem uC (ps:List (Nat×Nat))(i:Nat):numAt (nQ ps) i=(((dh ps)[i]?.getD 0:Nat):Int):=by
 simp only[numAt,nQ,dh,PE,N7]
 cases ps[i]?<;>rfl
theorem uD {n:Nat}(h:n<=1000000):InLong (n:Int):=by unfold InLong;lia
def Nv (s s':Shared):Prop:=∀b o,s.heap.get? b=some o->s'.heap.get? b=some o
section
variable{prog:Program}{w:World}{A:Around}{E:Value->aP}{s:Shared}{Q:Value->aP}
theorem yF (hh:A.handled=none){l e:Nat}{ps:List (Nat×Nat)}(hl:s.heap.get? l=some (ab (aO ps) e))(hlen:ps.length<=1000)(hb:∀p∈ps,p.1<=1000)
  (h:∀(s':Shared) (t:Nat),Nv s s'->bZ s s'->Q (.int (((dh ps).sum:Nat):Int) t) s'):wpAny (model prog w) A (call (.builtin "sum") [.ref l]) Q E s:=by
 have e1:numAt (nQ ps)=λi=>(((dh ps)[i]?.getD 0:Nat):Int):=funext λi=>uC ps i
 have hle:∀k,((dh ps).take k).sum<=1000000:=λk=>by
  have:=yE ((dh ps).take k) 1000 λx hx=>by
   obtain⟨p,hp,rfl⟩:=NL.mp (Qe hx)
   exact hb p hp
  have h2:((dh ps).take k).length<=1000:=by rw[OR];simp only[dh,NM];lia
  have:=Nat.mul_le_mul_right 1000 h2
  lia
 refine sum_intList hh (xs:=nQ ps) ⟨_,hl,rfl,_,by rw[Cy]⟩ (λj hj=>?_) λh' tk t' hk=>?_
 ·have h1:=hle (j+1)
  have h2:(dh ps)[j]?.getD 0<=1000:=by
   cases q:(dh ps)[j]? with
   | none=>simp
   | some x =>
    obtain⟨p,hp,rfl⟩:=NL.mp (NS q)
    exact hb p hp
  exact⟨by rw[uC];exact uD (by lia),by rw[e1,f8];exact uD h1⟩
 ·have e2:preSum (numAt (nQ ps)) (nQ ps).size=(((dh ps).sum:Nat):Int):=by
   rw[e1,f8,Ol (by simp[nQ])]
  rw[e2]
  exact h _ t' hk ⟨rfl,rfl,rfl⟩
end
theorem qu {α:Type}{l:List α}{i:Nat}{x:α}(h:l[i]?=some x):l.set i x=l:=by
 obtain⟨hi,rfl⟩:=NW.mp h
 exact List.set_getElem_self hi
section
variable{α:Type}{f:α->aK}
theorem qv {l:List α}{i:Nat}{x:α}(h:l[i]?=some x):(l.flatMap f).Perm (f x++((l.take i).flatMap f++(l.drop (i+1)).flatMap f)):=by
 obtain⟨hi,hx⟩:=NW.mp h
 have e:l=l.take i++x::l.drop (i+1):=by rw[<-hx,QU,Ot]
 rw[show l.flatMap f=(l.take i++x::l.drop (i+1)).flatMap f from congrArg _ e,Pc,O0]
 exact NX _ _ _
theorem Cz {l:List α}{i:Nat}{x y:α}(h:l[i]?=some x):(f y++((l.take i).flatMap f++(l.drop (i+1)).flatMap f)).Perm ((l.set i y).flatMap f):=by
 have hi:=(NW.mp h).1
 have h2:(l.set i y)[i]?=some y:=by rw[P8 hi]
 have:=(qv (f:=f) h2).symm
 rw[List.take_set_of_le (NT i),List.drop_set_of_lt (Og i)]at this
 exact this
noncomputable abbrev mR (f:α->aK)(l:List α)(i:Nat):aK:=(l.take i).flatMap f++(l.drop (i+1)).flatMap f
variable{K:Nat->Option Obj}{s:Shared}{nx tok:Nat}{H R:aK}
theorem aa.out {l:List α}{i:Nat}{x:α}(h:l[i]?=some x)(I:aa K s (H++(l.flatMap f++R)) nx tok):aa K s (H++(f x++(mR f l i++R))) nx tok:=by
 refine I.perm (NQ _ ?_)
 refine(Py _ (qv h)).trans ?_
 exact OG (by rw[NP])
theorem aa.into {l:List α}{i:Nat}{x y:α}(h:l[i]?=some x)(I:aa K s (H++(f y++(mR f l i++R))) nx tok):aa K s (H++((l.set i y).flatMap f++R)) nx tok:=by
 refine I.perm (NQ _ ?_)
 refine(OG (by simp only[NP])).trans (Py _ (Cz (y:=y) h))
theorem aa.swp {M N:aK}(I:aa K s (H++(M++(N++R))) nx tok):aa K s (H++(N++(M++R))) nx tok:=
 I.perm (NQ _ (NX _ _ _))
theorem aa.asc {M N:aK}(I:aa K s (M++(N++R)) nx tok):aa K s ((M++N)++R) nx tok:=I.perm (OG (NP M N R).symm)
theorem aa.asd {M N:aK}(I:aa K s ((M++N)++R) nx tok):aa K s (M++(N++R)) nx tok:=I.perm (OG (NP M N R))
theorem aa.sw {M N:aK}(I:aa K s (M++(N++R)) nx tok):aa K s (N++(M++R)) nx tok:=I.perm (NX _ _ _)
end
theorem aa.tk {K:Nat->Option Obj}{s:Shared}{M R:aK}{nx tok:Nat}(I:aa K s (M++R) nx tok){p:Addr×Obj}(hp:p∈R):∃R',R.Perm (p::R')/\aa K s (M++(p::R')) nx tok:=by
 obtain⟨l1,l2,rfl⟩:=List.append_of_mem hp
 exact⟨l1++l2,OQ,I.perm (NQ _ OQ)⟩
theorem aa.pb {K:Nat->Option Obj}{s:Shared}{M R R':aK}{nx tok:Nat}{p:Addr×Obj}(I:aa K s (M++(p::R')) nx tok)(h:R.Perm (p::R')):aa K s (M++R) nx tok:=I.perm (NQ _ h.symm)
theorem aa.mem_of {K:Nat->Option Obj}{s:Shared}{R:aK}{nx tok:Nat}(I:aa K s R nx tok){a:Addr}{o o':Obj}(h:(a,o)∈R)(h':(a,o')∈R):o=o':=by
 have h1:=I.has _ h
 have h2:=I.has _ h'
 have h3:some o=some o':=h1.symm.trans h2
 exact Oj.inj h3
end Mine

namespace Mine
open PySem
noncomputable def sk (st:Stmt):Rg:=match st with|.Assign _ e _=>e|_=>default
noncomputable def nR (s:Scope):Scope:=⟨s.kind,s.names.map λx=>(x.1,match x.2 with|.free=>.cell|k=>k),s.isGenerator,s.isCoroutine,s.more⟩
abbrev jd (P:Params)(vv:Bool)(k:String)(dk:Nat)(v:Value):Obj:=if vv then cy [eT P k dk v] 1 else cy [] 0
noncomputable abbrev nS (word:Str)(tw:Nat)(style:Int)(ts:Nat):Code:=.call (.ref 173) ⟨[.str word tw,.int style ts],[]⟩
def wv (i:Nat):Stmt:=((cA 16).2.1[i]?).getD default
noncomputable abbrev CA (F:Nat):List (Str×Addr):=[⟨Rf "done",F+2+200⟩,⟨Rf "word",F+1+200⟩]
abbrev dD (F:Nat):Env:={scope:=(cA 16).2.2,locals:=F+200,globals:=3,cells:=CA F,qual:=Rf "_law_spelled.<locals>.",func:=some 173,code:=.ref 172,frame:=some (F+200),builtins:=0}
structure Sv where
 q:Nat->Nat
 style:Int
 (ts sh tt fit:Nat)
 text:Str
abbrev Hh (P:Params)(X:Sv):List DictEntry:=
 [eT P "style" (X.q 0) (.int X.style X.ts),eT P "shapes" (X.q 1) (.ref (X.sh+200)),eT P "text" (X.q 2) (.str X.text X.tt),eT P "fit" (X.q 3) (.ref (X.fit+200))]
abbrev M3 (P:Params)(X:Sv)(m:Nat):Obj:=bO ((Hh P X).take m) m
def Gg:Rg×List Stmt:=match wv 4 with|.While t bd _ _=>(t,bd)|_=>default
def CB (i:Nat):Stmt:=(Gg.2[i]?).getD default
abbrev uE (F:Nat):Code:=.whileLoop Gg.1 Gg.2 [] (dD F)
noncomputable abbrev Hi (F:Nat):Sem Fin:=qh (isTrue Gg.1 (dD F) (eval Gg.1 (dD F)))
def Jp:Rg:=sk (CB 0)
abbrev Gh (F:Nat)(e:Rg)(D:Nat):Env:=⟨nR (BN e).2.2.2.2.1,D+200,3,[⟨Rf "word",F+1+200⟩,⟨Rf "done",F+2+200⟩],Rf "_law_spelled.<locals>.",none,.ref 172,some (F+200),0⟩
abbrev jy (F it acc D:Nat):Code:=.compLoop Jp 0 (.ref (it+200)) (.ref (acc+200)) (Gh F Jp D)
abbrev CC (F it acc D:Nat):Code:=.compStart Jp 0 (.ref (it+200)) (.ref (acc+200)) (Gh F Jp D)
abbrev g5 (x y:Str)(t u:Nat):Obj:=Hf [.str x t,.str y u]
abbrev Hj (n tk:Nat):aK:=[(n+0+200,g5 ⟨#[102,102,105]⟩ ⟨#[64259]⟩ (tk+0) (tk+1)),(n+1+200,g5 ⟨#[102,102]⟩ ⟨#[64256]⟩ (tk+2) (tk+3)),(n+2+200,g5 ⟨#[102,105]⟩ ⟨#[64257]⟩ (tk+4) (tk+5)),(n+3+200,g5 ⟨#[102]⟩ ⟨#[70]⟩ (tk+6) (tk+7)),(n+4+200,g5 ⟨#[105]⟩ ⟨#[73]⟩ (tk+8) (tk+9)),(n+5+200,g5 ⟨#[102]⟩ ⟨#[119813]⟩ (tk+10) (tk+11)),(n+6+200,g5 ⟨#[105]⟩ ⟨#[8464]⟩ (tk+12) (tk+13)),(n+7+200,g5 ⟨#[102]⟩ ⟨#[102]⟩ (tk+14) (tk+15)),(n+8+200,g5 ⟨#[105]⟩ ⟨#[105]⟩ (tk+16) (tk+17))]
noncomputable abbrev Hk (n:Nat):aN:=#[.ref (n+0+200),.ref (n+1+200),.ref (n+2+200),.ref (n+3+200),.ref (n+4+200),.ref (n+5+200),.ref (n+6+200),.ref (n+7+200),.ref (n+8+200)]
noncomputable abbrev Gi:Str:=⟨#[173,8203,8288,65024]⟩
abbrev je (b:Bool)(w:World)(F:Nat)(X:Sv)(i:Nat):Addr×Obj:=(F+200,M3 (PB b w) X i)
abbrev c5 (b:Bool)(w:World)(D:Nat)(v:Bool)(k:Nat)(x:Value):Addr×Obj:=(D+200,jd (PB b w) v "word" k x)
abbrev CD (x:Nat)(a c:Str)(t u:Nat):Addr×Obj:=(x+200,g5 a c t u)
section
variable(b:Bool)(w:World)(n tk:Nat)(word:Str)(tw:Nat)(style:Int)(ts:Nat)
abbrev Hl:SD:=⟨[0,0,0],[.b,.b,.a,.a,.a,az,jI,ac,bi,.s],[],⟨aA (nS word tw style ts),[],[],n+200,tk⟩,
 [],⟨.pure (.again (.func (cA 16).2.1 (dD n))),[],[(n+200,bO [eT (PB b w) "style" tk (.int style ts)] 1),pC (n+1) (.str word tw),(n+2+200,aM)],n+203,tk+1⟩,[]⟩
theorem CE:SK b w (Hl b w n tk word tw style ts):=by apply bq1 b;kernel_rfl
end
section
variable(b:Bool)(w:World)(F:Nat)(X:Sv)(n tk:Nat)
abbrev Hm:SD:=⟨[0,0,0,0,0,0,0,0,0,0,0],[.a,.a,.a,.a,.a,.a,.a,.a,.a,.a,ac,bi],[],⟨a0 (wv 0) (dD F),[],[je b w F X 1],n+200,tk⟩,
 [],⟨.pure (.done .next),[],[je b w F {X with sh:=n+9,q:=qU X.q 1 (tk+18)} 2]++Hj n tk++[pL (n+9) (Hk n) 0],n+210,tk+19⟩,[]⟩
theorem CF:SK b w (Hm b w F X n tk):=by apply bq1 b;kernel_rfl
end
section
variable(b:Bool)(w:World)(F:Nat)(X:Sv)(n tk:Nat)(r1:Nat)(xs ys zs us:aN)
abbrev Hn:SD:=⟨[0,0,4],[ac,ac,.o,.a,az,az,az,.h [1,0],ac,ac,.o,.a,az,az,az,.h [1,2],bf,b6,bf,.h [3,1],ac,bi],[aI (r1:Int),aR (ab ys 0),aI (r1:Int),aR (ab zs 0),aR (ab us 0)],⟨a0 (wv 1) (dD F),[],[je b w F X 2,pL X.sh xs 0],n+200,tk⟩,
 [⟨bc "int.__mod__" [.int X.style X.3,.int ((9:Nat):Int) tk],aI (r1:Int),[]⟩,⟨bc "list.__getitem__" [.ref (X.4+200),.ref (n+200)],aR (ab ys 0),[((X.4+200),ab xs 0),((n+200),bq (.int ((r1:Nat):Int) (tk+1)) .none .none)]⟩,⟨bc "int.__mod__" [.int X.style X.3,.int ((9:Nat):Int) (tk+2)],aI (r1:Int),[]⟩,⟨bc "list.__getitem__" [.ref (X.4+200),.ref (n+202)],aR (ab zs 0),[((X.4+200),ab xs 0),((n+202),bq .none (.int ((r1:Nat):Int) (tk+3)) .none)]⟩,⟨bc "list.__add__" [.ref (n+201),.ref (n+203)],aR (ab us 0),[((n+201),ab ys 0),((n+203),ab zs 0)]⟩],⟨.pure (.done .next),[],[je b w F {X with sh:=n+4} 2,pL X.sh xs 0,pL (n+4) us 0],n+205,tk+5⟩,[]⟩
theorem CG:SK b w (Hn b w F X n tk r1 xs ys zs us):=by apply bq1 b;kernel_rfl
end
section
variable(b:Bool)(w:World)(F:Nat)(X:Sv)(n tk:Nat)
abbrev Ho:SD:=⟨[0],[ac,bi],[],⟨a0 (wv 2) (dD F),[],[je b w F X 2],n+200,tk⟩,
 [],⟨.pure (.done .next),[],[je b w F {X with text:=⟨#[]⟩,tt:=tk,q:=qU X.q 2 (tk+1)} 3],n+200,tk+2⟩,[]⟩
theorem CH:SK b w (Ho b w F X n tk):=by apply bq1 b;kernel_rfl
end
abbrev Hp (b:Bool)(w:World)(F:Nat)(X:Sv)(n tk:Nat):SD:=⟨[0],[ac,bi],[],⟨a0 (wv 3) (dD F),[],[(F+2+200,aM)],n+200,tk⟩,
 [],⟨.pure (.done .next),[],[pC (F+2) (.int 0 tk)],n+200,tk+1⟩,[]⟩
theorem CI (b:Bool)(w:World)(F:Nat)(X:Sv)(n tk:Nat):SK b w (Hp b w F X n tk):=by apply bq1 b;kernel_rfl
section
variable(b:Bool)(w:World)(F n tk:Nat)
abbrev uF:SC:=⟨[],[],[],⟨a0 (wv 4) (dD F),[],[],n+200,tk⟩,
 [],uE F,[],n+200,tk,[]⟩
def kU:Option bo:=dR b w (uF F n tk)
theorem yG:SQ (uF F n tk) (kU b w F n tk):=by apply bq1 b;kernel_rfl
theorem sn:aY (kU b w F n tk):=af (by apply bq1 b;kernel_rfl)
end
section
variable(b:Bool)(w:World)(F n tk n2 tk2:Nat)
abbrev CJ:SD:=⟨[],[],[],gC (kU b w F n tk) (.ok .next) [] (n2+200) tk2,
 [],⟨.pure (.done .next),[],[],n2+200,tk2⟩,[]⟩
theorem yH:SK b w (CJ b w F n tk n2 tk2):=by apply bq1 b;kernel_rfl
end
abbrev Hq (b:Bool)(w:World)(F n tk:Nat)(word:Str)(tw:Nat)(d:Int)(td:Nat)(c:Int)(r:Bool):SD:=⟨[0,0],[az,.b,.b,ac,.o,.o],[aL c,aB r],⟨Hi F,[],[pC (F+1) (.str word tw),pC (F+2) (.int d td)],n+200,tk⟩,
 [⟨bc "len" [.str word tw],aL c,[]⟩,⟨bc "int.__lt__" [.int d td,.int c (tk+1)],aB r,[]⟩],⟨.pure (.done (.ret (.bool (r)))),[],[pC (F+1) (.str word tw),pC (F+2) (.int d td)],n+200,tk+2⟩,[]⟩
theorem CK (b:Bool)(w:World)(F n tk:Nat)(word:Str)(tw:Nat)(d:Int)(td:Nat)(c:Int)(r:Bool):SK b w (Hq b w F n tk word tw d td c r):=by apply bq1 b;kernel_rfl
section
variable(b vv:Bool)(w:World)(F:Nat)(X:Sv)(n tk:Nat)(xs:aN)
abbrev uG:SC:=⟨[0,0,0,0,0],[ac,az,az,.i,az,.a,au,.a,.a],[],⟨a0 (CB 0) (dD F),[],[je b w F X (if vv then 4 else 3),pL X.sh xs 0],n+200,tk⟩,
 [],CC F n (n+1) (n+2),[je b w F X (if vv then 4 else 3),pL X.sh xs 0,pI n (X.sh+200) 0,pL (n+1) #[] 0,(n+2+200,cy [] 0)],n+203,tk,[]⟩
def kW:Option bo:=dR b w (uG b vv w F X n tk xs)
theorem yI:SQ (uG b vv w F X n tk xs) (kW b vv w F X n tk xs):=by apply bq2 b vv;kernel_rfl
theorem so:aY (kW b vv w F X n tk xs):=af (by apply bq2 b vv;kernel_rfl)
end
section
variable(b vv:Bool)(w:World)(F it acc D n tk ae tu t u i:Nat)(xs av:aN)(dk:Nat)(dv:Value)(x y word:Str)(tw td:Nat)(d c k:Int)(sl:Str)(sf:Nat->Nat)(sd S:Nat)
abbrev yJ:SD:=⟨[0,0,0,0,0,0,0],[ac,.x (bW (it+200) (i:Int) (.ref (tu+200))) [0,0],ac,bi,au,fV,bf,b7,b7,.b,.b,au,iy,iy,iy,.i,iy,iy,.o,.o,.a,.h [7],au,iy,iy,iy,.i,iy,iy,.o,au,.x (b5 (acc+200) (.ref (tu+200))) [5],xP],[aL c,aI k,aG sl sf sd,aB true],⟨aA (jy F it acc D),[],[pI it (S+200) (i:Int),pL S xs 0,(D+200,jd (PB b w) vv "shape" dk dv),pC (F+1) (.str word tw),pC (F+2) (.int d td),pL acc av ae,CD tu x y t u],n+200,tk⟩,
 [⟨bc "len" [.str x t],aL c,[]⟩,⟨bc "int.__add__" [.int d td,.int c (tk+3)],aI k,[]⟩,⟨bc "str.__getitem__" [.str word tw,.ref (n+200)],aG sl sf sd,[((n+200),bq (.int d td) (.int k (tk+4)) .none)]⟩,⟨bc "str.__eq__" [.str sl ((sf (tk+5))),.str x t],aB true,[]⟩],⟨.pure (.again (jy F it acc D)),[],[pI it (S+200) ((i:Int)+1),pL S xs 0,(D+200,jd (PB b w) true "shape" (if vv then dk else tk) (.ref (tu+200))),pC (F+1) (.str word tw),pC (F+2) (.int d td),pL acc (av.push (.ref (tu+200))) (bU av (.ref (tu+200)) ae),CD tu x y t u],n+201,tk+5+sd+1⟩,[⟨bc "list_iterator.__next__" [.ref (it+200)],bW (it+200) (i:Int) (.ref (tu+200)),[((it+200),ba (S+200) ((i:Nat):Int)),((S+200),ab xs 0)]⟩,⟨bc "list.append" [.ref (acc+200),.ref (tu+200)],b5 (acc+200) (.ref (tu+200)),[((acc+200),ab av ae)]⟩]⟩
theorem CL:SK b w (yJ b vv w F it acc D n tk ae tu t u i xs av dk dv x y word tw td d c k sl sf sd S):=by apply bq2 b vv;kernel_rfl
abbrev yK:SD:=⟨[0,0,0,0,0,0,0],[ac,.x (bW (it+200) (i:Int) (.ref (tu+200))) [0,0],ac,bi,au,fV,bf,b7,b7,.b,.b,au,iy,iy,iy,.i,iy,iy,.o,.o,.a,.h [7],au,iy,iy,iy,.i,iy,iy,.o],[aL c,aI k,aG sl sf sd,aB false],⟨aA (jy F it acc D),[],[pI it (S+200) (i:Int),pL S xs 0,(D+200,jd (PB b w) vv "shape" dk dv),pC (F+1) (.str word tw),pC (F+2) (.int d td),pL acc av ae,CD tu x y t u],n+200,tk⟩,
 [⟨bc "len" [.str x t],aL c,[]⟩,⟨bc "int.__add__" [.int d td,.int c (tk+3)],aI k,[]⟩,⟨bc "str.__getitem__" [.str word tw,.ref (n+200)],aG sl sf sd,[((n+200),bq (.int d td) (.int k (tk+4)) .none)]⟩,⟨bc "str.__eq__" [.str sl ((sf (tk+5))),.str x t],aB false,[]⟩],⟨.pure (.again (jy F it acc D)),[],[pI it (S+200) ((i:Int)+1),pL S xs 0,(D+200,jd (PB b w) true "shape" (if vv then dk else tk) (.ref (tu+200))),pC (F+1) (.str word tw),pC (F+2) (.int d td),pL acc av ae,CD tu x y t u],n+201,tk+5+sd+1⟩,[⟨bc "list_iterator.__next__" [.ref (it+200)],bW (it+200) (i:Int) (.ref (tu+200)),[((it+200),ba (S+200) ((i:Nat):Int)),((S+200),ab xs 0)]⟩]⟩
theorem CM:SK b w (yK b vv w F it acc D n tk ae tu t u i xs av dk dv x y word tw td d c k sl sf sd S):=by apply bq2 b vv;kernel_rfl
end
abbrev yL (b:Bool)(w:World)(F it acc D n tk i S:Nat)(xs:aN):SD:=⟨[1],[ac,.x (dr (it+200)) [0,0],ac,bi,.a,.a,bf],[],⟨aA (jy F it acc D),[],[pI it (S+200) (i:Int),pL S xs 0],n+200,tk⟩,
 [],⟨.pure (.done .next),[],[pL S xs 0],n+202,tk⟩,[⟨bc "list_iterator.__next__" [.ref (it+200)],dr (it+200),[((it+200),ba (S+200) ((i:Nat):Int)),((S+200),ab xs 0)]⟩]⟩
theorem CN (b:Bool)(w:World)(F it acc D n tk i S:Nat)(xs:aN):SK b w (yL b w F it acc D n tk i S xs):=by apply bq1 b;kernel_rfl
section
variable(b vv:Bool)(w:World)(F:Nat)(X:Sv)(n tk:Nat)(xs:aN)(n2 tk2 dk:Nat)(dv:Value)
abbrev uH:SD:=⟨[0],[ac,bi,az,az,jI],[],gC (kW b vv w F X n tk xs) (.ok .next) [je b w F X (if vv then 4 else 3),(n+2+200,jd (PB b w) true "shape" dk dv)] (n2+200) tk2,
 [],⟨.pure (.done .next),[],[je b w F {X with fit:=n+1,q:=qU X.q 3 (if vv then X.q 3 else tk2)} 4],n2+200,tk2+1⟩,[]⟩
theorem yM:SK b w (uH b vv w F X n tk xs n2 tk2 dk dv):=by apply bq2 b vv;kernel_rfl
end
section
variable(b:Bool)(w:World)(F:Nat)(X:Sv)(n tk:Nat)(tu t u:Nat)(x y:Str)(fv:aN)(fe:Nat)(z:Str)(zf:Nat->Nat)(zd:Nat)
abbrev yN:SD:=⟨[0,0,0],[ac,ac,az,az,az,.h [1],au,au,au,.i,au,au,.i,.o,ac,bi],[aV (.ref (tu+200)),aG z zf zd],⟨a0 (CB 1) (dD F),[],[je b w F X 4,pL X.fit fv fe,CD tu x y t u],n+200,tk⟩,
 [⟨bc "list.__getitem__" [.ref (X.6+200),.int ((0:Nat):Int) tk],aV (.ref (tu+200)),[((X.6+200),ab fv fe)]⟩,⟨bc "str.__add__" [.str X.text X.5,.str y u],aG z zf zd,[]⟩],⟨.pure (.done .next),[],[je b w F {X with text:=z,tt:=zf (tk+2)} 4,pL X.fit fv fe,CD tu x y t u],n+200,tk+2+zd+1⟩,[]⟩
theorem CO:SK b w (yN b w F X n tk tu t u x y fv fe z zf zd):=by apply bq1 b;kernel_rfl
end
section
variable(b:Bool)(w:World)(F:Nat)(X:Sv)(n tk tu t u:Nat)(x y:Str)(fv:aN)(fe:Nat)(d:Int)(td:Nat)(c k:Int)
abbrev Hr:SD:=⟨[0,0,0,0],[bf,.b,.b,ac,az,az,az,.h [1],au,au,au,.i,au,au,.i,.o,.o,bf,j0],[aV (.ref (tu+200)),aL c,aI k],⟨a0 (CB 2) (dD F),[],[je b w F X 4,pL X.fit fv fe,CD tu x y t u,pC (F+2) (.int d td)],n+200,tk⟩,
 [⟨bc "list.__getitem__" [.ref (X.6+200),.int ((0:Nat):Int) tk],aV (.ref (tu+200)),[((X.6+200),ab fv fe)]⟩,⟨bc "len" [.str x t],aL c,[]⟩,⟨bc "int.__add__" [.int d td,.int c (tk+3)],aI k,[]⟩],⟨.pure (.done .next),[],[je b w F X 4,pL X.fit fv fe,CD tu x y t u,pC (F+2) (.int k (tk+4))],n+200,tk+5⟩,[]⟩
theorem CP:SK b w (Hr b w F X n tk tu t u x y fv fe d td c k):=by apply bq1 b;kernel_rfl
end
section
variable(b:Bool)(w:World)(F:Nat)(X:Sv)(n tk:Nat)(k1 k2:Int)(sg z:Str)(zf:Nat->Nat)(zd:Nat)
abbrev Hs:SD:=⟨[0],[ac,ac,.o,.o,.o,.o],[aI k1,aI k2,aS sg,aG z zf zd],⟨a0 (wv 5) (dD F),[],[je b w F X 4],n+200,tk⟩,
 [⟨bc "int.__floordiv__" [.int X.style X.3,.int ((9:Nat):Int) (tk+1)],aI k1,[]⟩,⟨bc "int.__mod__" [.int k1 (tk+2),.int ((4:Nat):Int) (tk+3)],aI k2,[]⟩,⟨bc "str.__getitem__" [.str (Rf "­​⁠︀") tk,.int k2 (tk+4)],aS sg,[]⟩,⟨bc "str.__add__" [.str X.text X.5,.str sg (tk+5)],aG z zf zd,[]⟩],⟨.pure (.done (.ret (.str z ((zf (tk+6)))))),[],[je b w F X 4],n+200,tk+6+zd⟩,[]⟩
theorem CQ:SK b w (Hs b w F X n tk k1 k2 sg z zf zd):=by apply bq1 b;kernel_rfl
end
end Mine

namespace Mine
open PySem PySem.Builtin PySem.Builtin.Str
noncomputable def uI (m k:Nat)(t u:Nat):Nat:=if k=m then t else u
noncomputable def rc (m k:Nat):Nat:=if k=m then 0 else 1
theorem yO (x:List Nat){i j:Nat}(hij:i<=j)(hj:j<=x.length):(strSliceIndices (some (i:Int)) (some (j:Int)) 1 x.length).filterMap (x.toArray[·]?)=(x.drop i).take (j-i)/\(strSliceIndices (some (i:Int)) (some (j:Int)) 1 x.length).length=((x.drop i).take (j-i)).length:=by
 rw[StrLaws.strSliceIndices_plain hij hj]
 refine⟨?_,?_⟩
 ·rw[show(λk=>x.toArray[k]?)=(λk=>x[k]?)from funext λk=>PE]
  exact StrLaws.picks x (j-i) i (NU (OA (OS hij)) hj)
 ·rw[NM,Qu,OR,Of]
  exact(PU (Qb hj i)).symm
theorem qw (x:List Nat){i j:Nat}(hi:i<=x.length)(hij:i<=j):(strSliceIndices (some (i:Int)) (some (j:Int)) 1 x.length).filterMap (x.toArray[·]?)=(x.drop i).take (j-i)/\(strSliceIndices (some (i:Int)) (some (j:Int)) 1 x.length).length=((x.drop i).take (j-i)).length:=by
 rcases Nat.le_total j x.length with q|q
 ·exact yO x hij q
 ·have e:strSliceIndices (some (i:Int)) (some (j:Int)) 1 x.length=strSliceIndices (some (i:Int)) (some (x.length:Int)) 1 x.length:=by
   have n1:¬((j:Int)<0):=Int.not_lt.mpr (PY j)
   have n2:¬((x.length:Int)<0):=Int.not_lt.mpr (PY _)
   simp only[strSliceIndices,n1,n2,if_false,Int.min_eq_right (Int.ofNat_le.mpr q),Int.min_self];rfl
  have e2:(x.drop i).take (j-i)=(x.drop i).take (x.length-i):=by
   rw[Ol (by rw[Of];exact Qb q i),Ol (OA Of)]
  rw[e,e2]
  exact yO x hi (NT _)
section
variable{prog:Program}{w:World}{K:Nat->Option Obj}{U:Nat}
theorem qx {x y:List Nat}{t a:Nat}{o:Obj}{lo hi:Option (Int×Tok)}(ho:∀s:Shared,s.heap.get? a=some o->s.heap.IsSlice a lo hi none)
  (hp:(slicePicked ⟨x.toArray⟩ lo hi none).filterMap (x.toArray[·]?)=y/\(slicePicked ⟨x.toArray⟩ lo hi none).length=y.length) (hs:y.Sublist x) (hl:y.length<=1000) :
  ak prog w K U ⟨bc "str.__getitem__" [.str ⟨x.toArray⟩ t,.ref a],aG ⟨y.toArray⟩ (uI x.length y.length t) (rc x.length y.length),[(a,o)]⟩:=by
 refine ag F.slot_str_getitem (λs _ _=>typeIs_str s _ t) F.entry_str_getitem (F.args_str_getitem_2 _ _) (λA R s hs' _ hR=>?_) nM
 refine meets_str_getitem_slice ⟨x.toArray⟩ t a lo hi none rfl prog w A R s ⟨ho s (hs' _ (.head _)),?_⟩
 have hc:((((none:Option (Int×Tok)).map (·.1)).getD 1==1&&(slicePicked ⟨x.toArray⟩ lo hi none).length==(⟨x.toArray⟩:Str).length)=true)=(y.length=x.length):=by
  rw[hp.2];simp[Str.length]
 unfold sliceMade
 by_cases h:y.length=x.length
 ·rw[if_pos (hc▸h)]
  have hR:R (.ok (.ret (.str ⟨y.toArray⟩ (if y.length=x.length then t else s.toks)))) {s with heap:=s.heap,toks:=s.toks+(if y.length=x.length then 0 else 1)}:=hR
  rw[if_pos h,if_pos h,hs.eq_of_length h]at hR
  exact hR
 ·rw[if_neg λq=>h (hc▸q)]
  have hR:R (.ok (.ret (.str ⟨y.toArray⟩ (if y.length=x.length then t else s.toks)))) {s with heap:=s.heap,toks:=s.toks+(if y.length=x.length then 0 else 1)}:=hR
  rw[if_neg h,if_neg h]at hR
  refine⟨?_,?_⟩
  ·show(List.toArray _).size<=sizeLine
   rw[hp.1];exact NU hl (by decide +kernel)
  ·rw[hp.1];exact hR
theorem ww {x y:List Nat}{t a i j:Nat}{jz:Int}{ti tj:Nat}(hj:jz=(j:Int))(hi:i<=x.length)(hij:i<=j)(hy:(x.drop i).take (j-i)=y)(hl:y.length<=1000) :
  ak prog w K U ⟨bc "str.__getitem__" [.str ⟨x.toArray⟩ t,.ref a],aG ⟨y.toArray⟩ (uI x.length y.length t) (rc x.length y.length),[(a,bq (.int (i:Int) ti) (.int jz tj) .none)]⟩:=by
 subst hj hy
 exact qx (lo:=some ((i:Int),ti)) (hi:=some ((j:Int),tj)) (λ_ h=>⟨_,h,rfl,rfl⟩) (qw x hi hij) ((List.take_sublist _ _).trans (Qw _ _)) hl
theorem ii {x y:List Nat}{t a i:Nat}{iz:Int}{ti:Nat}(hz:iz=(i:Int))(hi:i<=x.length)(hy:x.drop i=y)(hl:y.length<=1000) :
  ak prog w K U ⟨bc "str.__getitem__" [.str ⟨x.toArray⟩ t,.ref a],aG ⟨y.toArray⟩ (uI x.length y.length t) (rc x.length y.length),[(a,bq (.int iz ti) .none .none)]⟩:=by
 subst hz hy
 refine qx (lo:=some ((i:Int),ti)) (hi:=none) (λ_ h=>⟨_,h,rfl,rfl⟩) ?_ (Qw _ _) hl
 have:=qw x hi hi
 rw[<-StrLaws.sliceIdx_none_hi,Ol (OA Of)]at this
 exact this
theorem dK {x y:List Nat}{t u:Tok}{r:Bool}(h:decide (y <+: x)=r):ak prog w K U ⟨bc "str.startswith" [.str ⟨x.toArray⟩ t,.str ⟨y.toArray⟩ u],aB r,[]⟩:=by
 refine ag F.slot_str_startswith (λs _ _=>typeIs_str s _ t) F.entry_str_startswith (F.args_str_startswith_2 _ _) (λA R s _ _ hR=>gives_str_startswith _ _ t u prog w A R s ?_) nM
 have e:(decide (0+(⟨y.toArray⟩:Str).length<=(⟨x.toArray⟩:Str).length)&&subAt ⟨x.toArray⟩ ⟨y.toArray⟩ 0)=r:=by
  subst h
  rw[StrLaws.subAt_eq,List.drop_zero,Bool.eq_iff_iff]
  simp only[Pd,decide_eq_true_eq,beq_iff_eq,Str.length,OC,OF]
  constructor
  ·rintro⟨_,h2⟩
   rw[QN];exact h2.symm
  ·intro h
   exact⟨h.length_le,(QN.mp h).symm⟩
 show R _ _
 rw[e];exact hR
end
end Mine

namespace Mine
open PySem PyProof.Rows
theorem a8 {A:Around}{e:Rg}(he:e=jY e){it acc:Value}{env:Env}:A.under (.compLoop e 0 it acc env)=A:=by
 rw[he];exact Around.under_of_weight (by rfl) (by rfl)
structure Sh where
 (a t u:Nat)
 (x y:List Nat)
noncomputable abbrev Sh.own (g:Sh):Addr×Obj:=(CD g.a ⟨g.x.toArray⟩ ⟨g.y.toArray⟩ g.t g.u)
noncomputable def c6 (l:List Sh):aN:=(l.map λg=>Value.ref (g.a+200)).toArray
theorem yP (l:List Sh)(g:Sh):(c6 l).push (.ref (g.a+200))=c6 (l++[g]):=by simp[c6]
theorem ff (l:List Sh):(c6 l).size=l.length:=by simp[c6]
theorem yQ {l:List Sh}{i:Nat}{g:Sh}(h:l[i]?=some g):(c6 l)[i]?=some (.ref (g.a+200)):=by simp[c6,h]
noncomputable def dL (word:List Nat)(d:Nat)(g:Sh):Bool:=decide ((word.drop d).take g.x.length=g.x)
noncomputable def f9:List (List Nat×List Nat):=[([102,102,105],[64259]),([102,102],[64256]),([102,105],[64257]),([102],[70]),([105],[73]),([102],[119813]),([105],[8464]),([102],[102]),([105],[105])]
structure qy (x:List Nat):Prop where
 l1:1<=x.length
 l4:x.length<=4
 sg:∀c∈x,c=102\/c=105
inductive dJ (word y:List Nat):Prop
 | mk (gs:List (List Nat×List Nat)) (sep:Nat) (h0:(∀g∈gs,g∈f9)) (h1:(gs.map (·.1)).flatten=word) (h2:sep∈[173,8203,8288,65024]) (h3:y=(gs.map (·.2)).flatten++[sep])
theorem sq:Jp=jY Jp:=by kernel_rfl
theorem Ht:Gg.2=[CB 0,CB 1,CB 2]:=by kernel_rfl
theorem wx:(cA 16).2.1=[wv 0,wv 1,wv 2,wv 3,wv 4,wv 5]:=by kernel_rfl
section
variable{b:Bool}{w:World}{B:Bx (KL (PB b w))}{A:Around}{s:Shared}{Q:Result->aP}{R:aK}
theorem CR {lv:Nat}(hA:ad lv A){F it acc D S:Nat}{word:List Nat}{tw d td:Nat}{shs:List Sh}(hd:d<=word.length)(h9:shs.length<=9)(h4:word.length<=4)(h3:∀g∈shs,g.x.length<=3)(hR:∀g∈shs,g.own∈R) :
  ∀(left i:Nat) (vv:Bool) (n tk ae dk:Nat) (dv:Value) (s:Shared),i+left=shs.length->vv=decide (0<i) ->
  aa B.f s ([pI it (S+200) (i:Int),pL S (c6 shs) 0,(D+200,jd (PB b w) vv "shape" dk dv),pC (F+1) (.str ⟨word.toArray⟩ tw),pC (F+2) (.int (d:Int) td),pL acc (c6 ((shs.take i).filter (dL word d))) ae]++R) (n+200) tk ->
  (∀(s':Shared) (n' tk' ae' dk':Nat) (dv':Value),aa B.f s' ([pL S (c6 shs) 0,(D+200,jd (PB b w) (decide (0<shs.length)) "shape" dk' dv'),pC (F+1) (.str ⟨word.toArray⟩ tw),pC (F+2) (.int (d:Int) td),pL acc (c6 (shs.filter (dL word d))) ae']++R) (n'+200) tk'->bZ s s'->Q (.ok .next) s') ->
  codeAny (Mo PW (WB b w)) A (jy F it acc D) Q s:=by
 intro left
 induction left with
 | zero =>
  intro i vv n tk ae dk dv s hi hvv I h
  refine aF (a8 sq) ?_
  have e:i=shs.length:=by lia
  subst hvv
  subst e
  refine rF hA (CN b w F it acc D n tk shs.length S (c6 shs)) nP (fc ⟨aU (by rw[N8,ff];lia),bu⟩) (R:=[(D+200,jd (PB b w) (decide (0<shs.length)) "shape" dk dv),pC (F+1) (.str ⟨word.toArray⟩ tw),pC (F+2) (.int (d:Int) td),pL acc (c6 ((shs.take shs.length).filter (dL word d))) ae]++R) I λs1 I1 k1=>?_
  all_goals try dsimp only[yL]at I1
  rw[Om]at I1
  exact λ_ _ _=>h s1 _ _ ae dk dv I1 k1
 | succ left ih =>
  intro i vv n tk ae dk dv s hi hvv I h
  with_reducible refine gx (l:=shs) (i:=i) (by lia) λg hg=>?_
  have hgm:=NS hg
  have hx:=h3 g hgm
  obtain⟨R',hp,J⟩:=I.tk (hR g hgm)
  have et:shs.take (i+1)=shs.take i++[g]:=by rw[OT,hg];rfl
  have hal:((shs.take i).filter (dL word d)).length<=9:=by
   have:=Pk (dL word d) (shs.take i)
   rw[OR]at this;lia
  refine aF (a8 sq) ?_
  have oo:∃sl,(word.drop d).take g.x.length=sl:=⟨_,rfl⟩
  obtain⟨sl,hsl⟩:=oo
  have p1:ak PW (WB b w) (KL (PB b w)) 9000 ⟨bc "len" [.str ⟨g.x.toArray⟩ g.t],aL (g.x.length:Int),[]⟩:=bC (by simp[Str.length]) (by simp[Str.length];lia)
  have p2:ak PW (WB b w) (KL (PB b w)) 9000 ⟨bc "int.__add__" [.int (d:Int) td,.int (g.x.length:Int) (tk+3)],aI ((d+g.x.length:Nat):Int),[]⟩:=cb (by lia)
  have p3:ak PW (WB b w) (KL (PB b w)) 9000 ⟨bc "str.__getitem__" [.str ⟨word.toArray⟩ tw,.ref (n+200)],aG ⟨sl.toArray⟩ (uI word.length sl.length tw) (rc word.length sl.length),[(n+200,bq (.int (d:Int) td) (.int ((d+g.x.length:Nat):Int) (tk+4)) .none)]⟩:=
   ww rfl hd (by lia) (by rw[Pb];exact hsl) (by have:=congrArg N9 hsl;rw[OR]at this;lia)
  by_cases hf:sl=g.x
  ·have hfit:dL word d g=true:=decide_eq_true (by rw[hsl];exact hf)
   refine rF hA (CL b vv w F it acc D n tk ae g.a g.t g.u i (c6 shs) (c6 ((shs.take i).filter (dL word d))) dk dv ⟨g.x.toArray⟩ ⟨g.y.toArray⟩ ⟨word.toArray⟩ tw td (d:Int) (g.x.length:Int) ((d+g.x.length:Nat):Int) ⟨sl.toArray⟩ (uI word.length sl.length tw) (rc word.length sl.length) S)
    (fc ⟨p1,fc ⟨p2,fc ⟨p3,fc ⟨bA (by simp[hf]),bu⟩⟩⟩⟩) (fc ⟨aH (yQ hg),fc ⟨aD (by rw[ff];lia),bu⟩⟩) J λs1 I1 k1=>?_
   dsimp only[yJ]at I1
   have e2:(shs.take (i+1)).filter (dL word d)=(shs.take i).filter (dL word d)++[g]:=by rw[et,P1];simp[hfit]
   rw[yP,<-e2,show(i:Int)+1=((i+1:Nat):Int) by lia]at I1
   have I2:=aa.pb (M:=[pI it (S+200) ((i+1:Nat):Int),pL S (c6 shs) 0,(D+200,jd (PB b w) true "shape" (if vv=true then dk else tk) (.ref (g.a+200))),pC (F+1) (.str ⟨word.toArray⟩ tw),pC (F+2) (.int (d:Int) td),pL acc (c6 ((shs.take (i+1)).filter (dL word d))) (bU (c6 ((shs.take i).filter (dL word d))) (.ref (g.a+200)) ae)]) I1 hp
   exact λ_ _ _=>⟨by rfl,ih (i+1) true (n+1) _ _ _ _ s1 (by lia) (by simp) I2 λs' n' tk' ae' dk' dv' q1 q2=>h s' n' tk' ae' dk' dv' q1 (k1.trans q2)⟩
  ·have hfit:dL word d g=false:=decide_eq_false (by rw[hsl];exact hf)
   refine rF hA (CM b vv w F it acc D n tk ae g.a g.t g.u i (c6 shs) (c6 ((shs.take i).filter (dL word d))) dk dv ⟨g.x.toArray⟩ ⟨g.y.toArray⟩ ⟨word.toArray⟩ tw td (d:Int) (g.x.length:Int) ((d+g.x.length:Nat):Int) ⟨sl.toArray⟩ (uI word.length sl.length tw) (rc word.length sl.length) S)
    (fc ⟨p1,fc ⟨p2,fc ⟨p3,fc ⟨bA (by simp[hf]),bu⟩⟩⟩⟩) (fc ⟨aH (yQ hg),bu⟩) J λs1 I1 k1=>?_
   dsimp only[yK]at I1
   have e2:(shs.take (i+1)).filter (dL word d)=(shs.take i).filter (dL word d):=by rw[et,P1];simp[hfit]
   rw[<-e2,show(i:Int)+1=((i+1:Nat):Int) by lia]at I1
   have I2:=aa.pb (M:=[pI it (S+200) ((i+1:Nat):Int),pL S (c6 shs) 0,(D+200,jd (PB b w) true "shape" (if vv=true then dk else tk) (.ref (g.a+200))),pC (F+1) (.str ⟨word.toArray⟩ tw),pC (F+2) (.int (d:Int) td),pL acc (c6 ((shs.take (i+1)).filter (dL word d))) ae]) I1 hp
   exact λ_ _ _=>⟨by rfl,ih (i+1) true (n+1) _ _ _ _ s1 (by lia) (by simp) I2 λs' n' tk' ae' dk' dv' q1 q2=>h s' n' tk' ae' dk' dv' q1 (k1.trans q2)⟩
end
def sr (word:List Nat)(d:Nat)(txt:List Nat):Prop:=d<=word.length/\∃gs:List (List Nat×List Nat),(∀g∈gs,g∈f9)/\(gs.map (·.1)).flatten=word.take d/\txt=(gs.map (·.2)).flatten
theorem sr.step {word txt x y:List Nat}{d:Nat}(h:sr word d txt)(hg:(x,y)∈f9)(hf:(word.drop d).take x.length=x):sr word (d+x.length) (txt++y):=by
 obtain⟨hd,gs,h1,h2,h3⟩:=h
 have hl:=congrArg N9 hf
 rw[OR,Of]at hl
 refine⟨by lia,gs++[(x,y)],λg hg'=>?_,?_,?_⟩
 ·rcases NK.mp hg' with q|q
  ·exact h1 g q
  ·rw[NN.mp q];exact hg
 ·rw[NO,Po,h2,List.take_add,hf];simp
 ·rw[NO,Po,<-h3];simp
theorem yR {word:List Nat}(hw:qy word){d:Nat}(hd:d<word.length){shs:List Sh}(hs:∀p∈f9,∃g∈shs,(g.x,g.y)=p):∃g0 r,shs.filter (dL word d)=g0::r/\g0∈shs/\dL word d g0=true:=by
 have h1:∃g∈shs,dL word d g=true:=by
  have e:word.drop d=word[d]::word.drop (d+1):=OD hd
  rcases hw.sg word[d] (List.getElem_mem hd)with q|q
  ·obtain⟨g,hg,e2⟩:=hs ([102],[102]) (by decide)
   refine⟨g,hg,decide_eq_true ?_⟩
   have e3:g.x=[102]:=congrArg Prod.fst e2
   rw[e3,e,q];rfl
  ·obtain⟨g,hg,e2⟩:=hs ([105],[105]) (by decide)
   refine⟨g,hg,decide_eq_true ?_⟩
   have e3:g.x=[105]:=congrArg Prod.fst e2
   rw[e3,e,q];rfl
 obtain⟨g,hg,hf⟩:=h1
 have hm:g∈shs.filter (dL word d):=OH.mpr ⟨hg,hf⟩
 cases hl:shs.filter (dL word d)with
 | nil=>rw[hl]at hm;exact nomatch hm
 | cons g0 r =>
  have h0:g0∈shs.filter (dL word d):=by rw[hl];exact .head _
  exact⟨g0,r,rfl,(OH.mp h0).1,(OH.mp h0).2⟩
theorem nT:∀p∈f9,1<=p.1.length/\p.1.length<=3/\p.2.length=1:=by decide
section
variable{b:Bool}{w:World}{B:Bx (KL (PB b w))}{A:Around}{s:Shared}{Q:Result->aP}{R:aK}
abbrev su (P:Params)(F:Nat)(X:Sv)(m:Nat)(word:List Nat)(tw d td:Nat)(shs:List Sh):aK:=[(F+200,M3 P X m),pL X.sh (c6 shs) 0,pC (F+1) (.str ⟨word.toArray⟩ tw),pC (F+2) (.int (d:Int) td)]
theorem CS {lv:Nat}(hA:ad lv A)(hlv:lv<=13){F n tk tw d td:Nat}{X:Sv}{word txt:List Nat}{shs:List Sh}{vv:Bool}(hw:qy word)(hd:d<word.length)(h9:shs.length<=9)(hs:∀p∈f9,∃g∈shs,(g.x,g.y)=p)(hs2:∀g∈shs,(g.x,g.y)∈f9)(hR:∀g∈shs,g.own∈R)(hX:X.text=⟨txt.toArray⟩)(hp:sr word d txt)(ht:txt.length<=100)
  (I:aa B.f s (su (PB b w) F X (if vv then 4 else 3) word tw d td shs++R) (n+200) tk) {Q:Flow->aP} {E:Value->aP}
  (h:∀(s':Shared) (X':Sv) (n' tk' d' td':Nat) (txt':List Nat),X'.style=X.style->X'.sh=X.sh->X'.text=⟨txt'.toArray⟩->sr word d' txt'->d<d'->txt'.length<=txt.length+1->aa B.f s' (su (PB b w) F X' 4 word tw d' td' shs++R) (n'+200) tk'->bZ s s'->Q .next s') :
  wpAny (Mo PW (WB b w)) A (execs Gg.2 (dD F)) Q E s:=by
 rw[Ht]
 obtain⟨g0,r,hfit,hg0,hf0⟩:=yR hw hd hs
 have hm0:=hs2 g0 hg0
 have l0:1<=g0.x.length/\g0.x.length<=3/\g0.y.length=1:=nT _ hm0
 have hr9:r.length<=9:=by have:=Pk (dL word d) shs;rw[hfit,NV]at this;lia
 have h0:0<shs.length:=P9 hg0
 refine wpAny_execs_cons (aX ?_)
 refine fz hA (yI b vv w F X n tk (c6 shs)) rfl nP nP (R:=[pC (F+1) (.str ⟨word.toArray⟩ tw),pC (F+2) (.int (d:Int) td)]++R) I λs1 I1 k1=>?_
 have J1:aa B.f s1 ([pI n (X.sh+200) ((0:Nat):Int),pL X.sh (c6 shs) 0,(n+2+200,jd (PB b w) false "shape" 0 .none),pC (F+1) (.str ⟨word.toArray⟩ tw),pC (F+2) (.int (d:Int) td),pL (n+1) (c6 ((shs.take 0).filter (dL word d))) 0]++((je b w F X (if vv then 4 else 3))::R)) (n+3+200) tk:=I1.ord 7 [2,1,4,5,6,3,0]
 refine cx sq (J1.has (pI n (X.sh+200) ((0:Nat):Int)) (.head _)) ?_
 refine CR (hA.uq (so ..)) (ON hd) h9 hw.l4 (λg hg=>(nT _ (hs2 g hg)).2.1) (λg hg=>.tail _ (hR g hg)) shs.length 0 false (n+3) tk 0 0 .none s1 (by lia) rfl J1 ?_
 intro s2 n2 tk2 ae2 dk2 dv2 I2 k2
 rw[decide_eq_true h0,hfit]at I2
 have J2:aa B.f s2 ([je b w F X (if vv then 4 else 3),(n+2+200,jd (PB b w) true "shape" dk2 dv2)]++([pL X.sh (c6 shs) 0,pC (F+1) (.str ⟨word.toArray⟩ tw),pC (F+2) (.int (d:Int) td),pL (n+1) (c6 (g0::r)) ae2]++R)) (n2+200) tk2:=I2.ord 6 [5,1,0,2,3,4]
 refine rF hA (yM b vv w F X n tk (c6 shs) n2 tk2 dk2 dv2) nP nP J2 λs3 I3 k3=>ap ?_
 dsimp only[uH]at I3
 with_reducible refine nm ({X with fit:=n+1,q:=qU X.q 3 (if vv then X.q 3 else tk2)}:Sv) λX3 hX3=>?_
 rw[<-hX3]at I3
 have e3:X3.style=X.style/\X3.sh=X.sh/\X3.text=⟨txt.toArray⟩/\X3.fit=n+1:=by rw[hX3];exact⟨rfl,rfl,hX,rfl⟩
 clear hX3
 rw[<-e3.2.1,<-e3.2.2.2]at I3
 obtain⟨R',hpm,J3⟩:=aa.tk (M:=[je b w F X3 4,pL X3.sh (c6 shs) 0,pC (F+1) (.str ⟨word.toArray⟩ tw),pC (F+2) (.int (d:Int) td),pL X3.fit (c6 (g0::r)) ae2]) I3 (hR g0 hg0)
 have J4:aa B.f s3 ([je b w F X3 4,pL X3.fit (c6 (g0::r)) ae2,g0.own]++([pC (F+2) (.int (d:Int) td),pL X3.sh (c6 shs) 0,pC (F+1) (.str ⟨word.toArray⟩ tw)]++R')) (n2+200) (tk2+1):=J3.ord 6 [0,4,5,3,1,2]
 have l5:2000<=sizeLine:=by decide +kernel
 refine wpAny_execs_cons (aX (rF hA (CO b w F X3 n2 (tk2+1) g0.a g0.t g0.u ⟨g0.x.toArray⟩ ⟨g0.y.toArray⟩ (c6 (g0::r)) ae2 ⟨(txt++g0.y).toArray⟩ (xD ⟨txt.toArray⟩ ⟨g0.y.toArray⟩ X3.tt g0.u) (BL ⟨txt.toArray⟩ ⟨g0.y.toArray⟩)) (fc ⟨aq (k:=0) rfl (by lia),fc ⟨by rw[e3.2.2.1];exact dq (by apply Str.ext';show _=_++_;simp) (by simp[Str.length];lia),bu⟩⟩) nP J4 λs4 I4 k4=>ap ?_))
 dsimp only[yN]at I4
 with_reducible refine nm ({X3 with text:=⟨(txt++g0.y).toArray⟩,tt:=xD ⟨txt.toArray⟩ ⟨g0.y.toArray⟩ X3.tt g0.u (tk2+1+2)}:Sv) λX4 hX4=>?_
 rw[<-hX4]at I4
 have e4:X4.style=X.style/\X4.sh=X.sh/\X4.text=⟨(txt++g0.y).toArray⟩/\X4.fit=X3.fit/\X4.sh=X3.sh:=by rw[hX4];exact⟨e3.1,e3.2.1,rfl,rfl,rfl⟩
 clear hX4
 rw[<-e4.2.2.2.1,<-e4.2.2.2.2]at I4
 refine wpAny_execs_cons (aX (rF hA (CP b w F X4 n2 _ g0.a g0.t g0.u ⟨g0.x.toArray⟩ ⟨g0.y.toArray⟩ (c6 (g0::r)) ae2 (d:Int) td (g0.x.length:Int) ((d+g0.x.length:Nat):Int)) (fc ⟨aq (k:=0) rfl (by lia),fc ⟨bC (by simp[Str.length]) (by simp[Str.length];lia),fc ⟨cb (by lia),bu⟩⟩⟩) nP
  (R:=[pL X4.sh (c6 shs) 0,pC (F+1) (.str ⟨word.toArray⟩ tw)]++R') I4 λs5 I5 k5=>ap (wpAny_execs_nil ?_)))
 have J5:=aa.pb (M:=[je b w F X4 4,pL X4.sh (c6 shs) 0,pC (F+1) (.str ⟨word.toArray⟩ tw),pC (F+2) (.int ((d+g0.x.length:Nat):Int) _)]) (I5.ord 6 [0,4,5,3,2]) hpm
 exact h s5 X4 n2 _ (d+g0.x.length) _ (txt++g0.y) e4.1 e4.2.1 e4.2.2.1 (hp.step hm0 (of_decide_eq_true hf0)) (by lia) (by rw[NR,l0.2.2];exact NT _) J5 ((((k1.trans k2).trans k3).trans k4).trans k5)
inductive M4 (b:Bool)(w:World)(B:Bx (KL (PB b w)))(s:Shared)(R:aK)(F:Nat)(tw:Nat)(X:Sv)(word:List Nat)(shs:List Sh)(k:Nat)(s':Shared):Prop
 | mk (X':Sv) (n' tk' d td':Nat) (txt':List Nat) (vv:Bool) (h1:k=word.length-d) (h2:vv=decide (0<d)) (h3:X'.style=X.style) (h4:X'.sh=X.sh) (h5:X'.text=⟨txt'.toArray⟩) (h6:sr word d txt') (h7:txt'.length<=d) (h8:(0<d->1<=txt'.length)) (h9:aa B.f s' (su (PB b w) F X' (if vv then 4 else 3) word tw d td' shs++R) (n'+200) tk') (h10:bZ s s'):M4 b w B s R F tw X word shs k s'
theorem yS {lv:Nat}(hA:ad lv A)(hlv:lv<=13){F n tk tw td:Nat}{X:Sv}{word:List Nat}{shs:List Sh}(hw:qy word)(h9:shs.length<=9)(hs:∀p∈f9,∃g∈shs,(g.x,g.y)=p)(hs2:∀g∈shs,(g.x,g.y)∈f9)(hR:∀g∈shs,g.own∈R)(hX:X.text=⟨#[]⟩)
  (I:aa B.f s (su (PB b w) F X 3 word tw 0 td shs++R) (n+200) tk)
  (h:∀(s':Shared) (X':Sv) (n' tk' td':Nat) (txt':List Nat),X'.style=X.style->X'.sh=X.sh->X'.text=⟨txt'.toArray⟩->sr word word.length txt'->txt'.length<=4->1<=txt'.length->aa B.f s' (su (PB b w) F X' 4 word tw word.length td' shs++R) (n'+200) tk'->bZ s s'->Q (.ok .next) s') :
  codeAny (Mo PW (WB b w)) A (uE F) Q s:=by
 refine codeAny_whileLoop (M4 b w B s R F tw X word shs) ?_ word.length
  ⟨X,n,tk,0,td,[],false,rfl,rfl,rfl,rfl,hX,⟨OI _,[],nM,rfl,rfl⟩,NT _,λq=>absurd q (PQ 0),I,.rfl'⟩
 rintro k s1 ⟨X1,n1,tk1,d,td1,txt1,vv,hk,hvv,x1,x2,x3,hp,htl,htp,I1,k1⟩
 have h4:=hw.l4
 refine iN ?_
 have J1:aa B.f s1 ([pC (F+1) (.str ⟨word.toArray⟩ tw),pC (F+2) (.int (d:Int) td1)]++([je b w F X1 (if vv then 4 else 3),pL X1.sh (c6 shs) 0]++R)) (n1+200) tk1:=I1.ord 4 [2,3,0,1]
 refine rF hA (CK b w F n1 tk1 ⟨word.toArray⟩ tw (d:Int) td1 (word.length:Int) (decide (d<word.length))) (fc ⟨bC (by simp[Str.length]) (by simp[Str.length];lia),fc ⟨cH (decide_eq_decide.mpr (by lia)),bu⟩⟩) nP J1 λs2 I2 k2=>ap ?_
 have J2:aa B.f s2 (su (PB b w) F X1 (if vv then 4 else 3) word tw d td1 shs++R) (n1+200) (tk1+2):=I2.ord 4 [2,3,0,1]
 by_cases hd:d<word.length
 ·rw[decide_eq_true hd]
  show wpAny _ _ (execs Gg.2 (dD F)) _ _ s2
  refine CS hA hlv hw hd h9 hs hs2 hR x3 hp (by lia) J2 ?_
  intro s3 X3 n3 tk3 d3 td3 txt3 y1 y2 y3 hp3 hlt htl3 I3 k3
  have hd3:=hp3.1
  have hg:1<=txt3.length:=by
   obtain⟨_,gs,g1,g2,g3⟩:=hp3
   cases gs with
   | nil=>have:=congrArg N9 g2;rw[OR]at this;simp at this;lia
   | cons g r=>rw[g3,Oa,Ox,NR,(nT g (g1 g (.head _))).2.2];lia
  refine⟨word.length-d3,by lia,X3,n3,tk3,d3,td3,txt3,true,rfl,(decide_eq_true (by lia)).symm,y1.trans x1,y2.trans x2,y3,hp3,by lia,λ_=>hg,I3,(k1.trans k2).trans k3⟩
 ·rw[decide_eq_false hd]
  show wpAny _ _ (execs [] (dD F)) _ _ s2
  refine wpAny_execs_nil ?_
  have e:d=word.length:=by have:=hp.1;lia
  have h1:=hw.l1
  subst e
  rw[decide_eq_true (by lia)]at hvv
  rw[hvv]at J2
  exact h s2 X1 n1 _ td1 txt1 x1 x2 x3 hp (by lia) (htp (by lia)) J2 (k1.trans k2)
end
noncomputable def Nw:Sv:=⟨λ_=>0,0,0,0,0,0,⟨#[]⟩⟩
noncomputable def Ka (n tk:Nat):List Sh:=[⟨n,tk,tk+1,[102,102,105],[64259]⟩,⟨n+1,tk+2,tk+3,[102,102],[64256]⟩,⟨n+2,tk+4,tk+5,[102,105],[64257]⟩,⟨n+3,tk+6,tk+7,[102],[70]⟩,⟨n+4,tk+8,tk+9,[105],[73]⟩,⟨n+5,tk+10,tk+11,[102],[119813]⟩,⟨n+6,tk+12,tk+13,[105],[8464]⟩,⟨n+7,tk+14,tk+15,[102],[102]⟩,⟨n+8,tk+16,tk+17,[105],[105]⟩]
theorem Hu {k:Nat}(h:k<4):∃c,Gi.cps[k]?=some c/\c∈[173,8203,8288,65024]:=by
 rcases(by lia:k=0\/k=1\/k=2\/k=3)with rfl|rfl|rfl|rfl
 ·exact⟨173,rfl,by decide⟩
 ·exact⟨8203,rfl,by decide⟩
 ·exact⟨8288,rfl,by decide⟩
 ·exact⟨65024,rfl,by decide⟩
section
variable{b:Bool}{w:World}{B:Bx (KL (PB b w))}{A:Around}{s:Shared}{R:aK}
inductive Gj (b:Bool)(w:World)(B:Bx (KL (PB b w)))(s:Shared)(R:aK)(word:List Nat)(r:Result)(s':Shared):Prop
 | mk (y:List Nat) (t n' tk':Nat) (h1:r=.ok (.ret (.str ⟨y.toArray⟩ t))) (h2:dJ word y) (h3:y.length<=5) (h4:aa B.f s' R (n'+200) tk') (h5:bZ s s'):Gj b w B s R word r s'
theorem CT {lv:Nat}(hA:ad lv A)(hlv:lv<=10){word:List Nat}(hw:qy word){n tk tw st ts:Nat}(I:aa B.f s R (n+200) tk) :
  codeAny (Mo PW (WB b w)) A (nS ⟨word.toArray⟩ tw (st:Int) ts) (Gj b w B s R word) s:=by
 have h4:=hw.l4
 have l5:2000<=sizeLine:=by decide +kernel
 refine e8 ?_
 have hA0:ad (lv+1) (A.under (nS ⟨word.toArray⟩ tw (st:Int) ts)):=hA.under (by lia) rfl
 refine rF hA0 (CE b w n tk ⟨word.toArray⟩ tw (st:Int) ts) nP nP I λs1 I1 k1=>?_
 refine λ_ _ _=>⟨by rfl,?_⟩
 refine gH ?_
 have hA1:ad (lv+1) (A.deeper (dD n)):=hA.deeper (by lia)
 rw[wx]
 with_reducible refine nm ({Nw with style:=(st:Int),ts:=ts,q:=λ_=>tk}:Sv) λX1 hX1=>?_
 have J1:aa B.f s1 ([je b w n X1 1]++([pC (n+1) (.str ⟨word.toArray⟩ tw),(n+2+200,aM)]++R)) (n+3+200) (tk+1):=by rw[hX1];exact I1
 have y1:X1.style=(st:Int):=by rw[hX1]
 clear hX1 I1
 refine wpAny_execs_cons ?_
 refine aX ?_
 refine rF hA1 (CF b w n X1 (n+3) (tk+1)) nP nP J1 ?_
 intro s2 I2 k2
 refine ap ?_
 with_reducible refine nm ({X1 with sh:=n+3+9,q:=qU X1.q 1 (tk+1+18)}:Sv) λX2 hX2=>?_
 with_reducible refine nm (Ka (n+3) (tk+1)) λshs hshs=>?_
 have q9:shs.length=9:=by rw[hshs];rfl
 have J2:aa B.f s2 ([je b w n X2 2,pL X2.sh (c6 shs) 0]++([pC (n+1) (.str ⟨word.toArray⟩ tw),(n+2+200,aM)]++(shs.map Sh.own++R))) (n+13+200) (tk+20):=by
  rw[hX2,hshs]
  exact I2.ord 13 [0,10,11,12,1,2,3,4,5,6,7,8,9]
 have y2:X2.style=(st:Int):=by rw[hX2];exact y1
 clear hX2 I2 J1
 have hm9:st%9<9:=Qj _ (by decide)
 with_reducible refine nm (shs.drop (st%9)++shs.take (st%9)) λus hus=>?_
 have e1:slicePick (c6 shs) (some ((st%9:Nat):Int)) none none=c6 (shs.drop (st%9)):=by rw[slicePick_from'];simp[c6]
 have e2:slicePick (c6 shs) none (some ((st%9:Nat):Int)) none=c6 (shs.take (st%9)):=by rw[slicePick_upto'];simp[c6]
 have e3:c6 (shs.drop (st%9))++c6 (shs.take (st%9))=c6 us:=by rw[hus];simp[c6]
 have qr:(shs.drop (st%9)).length+(shs.take (st%9)).length=shs.length:=by rw[<-NR,OW.length_eq,Ot]
 have p1:=@eU PW (WB b w) (KL (PB b w)) 9000 (X2.sh+200) (n+13+200) (c6 shs) 0 _ _ _ _ (IsPart.int ((st%9:Nat):Int) (tk+20+1)) IsPart.none (by rw[ff];lia)
 have p2:=@eU PW (WB b w) (KL (PB b w)) 9000 (X2.sh+200) (n+13+202) (c6 shs) 0 _ _ _ _ IsPart.none (IsPart.int ((st%9:Nat):Int) (tk+20+3)) (by rw[ff];lia)
 have p3:=@dY PW (WB b w) (KL (PB b w)) 9000 (n+13+201) (n+13+203) 0 0 (c6 (shs.drop (st%9))) (c6 (shs.take (st%9))) (by rw[ff,ff,qr,q9];decide)
 rw[e1]at p1
 rw[e2]at p2
 rw[e3]at p3
 have pm:∀t u:Nat,ak PW (WB b w) (KL (PB b w)) 9000 ⟨bc "int.__mod__" [.int X2.style t,.int ((9:Nat):Int) u],aI ((st%9:Nat):Int),[]⟩:=λt u=>cc (by decide) (by rw[y2];rfl)
 refine wpAny_execs_cons (aX (rF hA1 (CG b w n X2 (n+13) (tk+20) (st%9) (c6 shs) (c6 (shs.drop (st%9))) (c6 (shs.take (st%9))) (c6 us)) (fc ⟨pm _ _,fc ⟨p1,fc ⟨pm _ _,fc ⟨p2,fc ⟨p3,bu⟩⟩⟩⟩⟩) nP J2 λs3 I3 k3=>ap ?_))
 with_reducible refine nm ({X2 with sh:=n+13+4}:Sv) λX3 hX3=>?_
 have J3:aa B.f s3 ([je b w n X3 2]++([pL X3.sh (c6 us) 0,pC (n+1) (.str ⟨word.toArray⟩ tw),(n+2+200,aM)]++(shs.map Sh.own++R))) (n+13+5+200) (tk+25):=by
  rw[hX3];exact I3.ord 5 [0,2,3,4]
 have y3:X3.style=(st:Int):=by rw[hX3];exact y2
 clear hX3 I3 J2 p1 p2 p3 pm
 refine wpAny_execs_cons (aX (rF hA1 (CH b w n X3 (n+13+5) (tk+25)) nP nP J3 λs4 I4 k4=>ap ?_))
 with_reducible refine nm ({X3 with text:=⟨#[]⟩,tt:=tk+25,q:=qU X3.q 2 (tk+25+1)}:Sv) λX4 hX4=>?_
 have J4:aa B.f s4 ([(n+2+200,aM)]++([je b w n X4 3,pL X4.sh (c6 us) 0,pC (n+1) (.str ⟨word.toArray⟩ tw)]++(shs.map Sh.own++R))) (n+13+5+200) (tk+27):=by
  rw[hX4];exact I4.ord 4 [3,0,1,2]
 have y4:X4.style=(st:Int)/\X4.text=⟨#[]⟩:=by rw[hX4];exact⟨y3,rfl⟩
 clear hX4 I4 J3
 refine wpAny_execs_cons (aX (rF hA1 (CI b w n X4 (n+13+5) (tk+27)) nP nP J4 λs5 I5 k5=>ap ?_))
 have J5:aa B.f s5 (su (PB b w) n X4 3 word tw 0 (tk+27) us++(shs.map Sh.own++R)) (n+13+5+200) (tk+28):=I5.ord 4 [1,2,3,0]
 clear I5 J4
 have hmem:∀g,g∈us↔g∈shs:=λg=>by
  rw[hus,NK,Or.comm,<-NK,Ot]
 have hsh:shs.map (λg=>(g.x,g.y))=f9:=by rw[hshs];rfl
 have hul:us.length<=9:=by rw[hus,NR,qr,q9];exact NT 9
 refine wpAny_execs_cons (aX ?_)
 refine fz hA1 (yG b w n (n+13+5) (tk+28)) rfl nP nP J5 λs6 I6 k6=>?_
 refine yS (hA1.uq (sn ..)) (by lia) hw hul (λp hp=>?_) (λg hg=>?_) (λg hg=>?_) y4.2 I6 ?_
 ·rw[<-hsh]at hp
  obtain⟨g,hg,e⟩:=NL.mp hp
  exact⟨g,(hmem g).mpr hg,e⟩
 ·rw[<-hsh];exact NL.mpr ⟨g,(hmem g).mp hg,rfl⟩
 ·exact NK.mpr (.inl (NL.mpr ⟨g,(hmem g).mp hg,rfl⟩))
 intro s7 X7 n7 tk7 td7 txt z1 z2 z3 hp hl hl1 I7 k7
 refine rF hA1 (yH b w n (n+13+5) (tk+28) n7 tk7) nP nP I7 λs8 I8 k8=>ap ?_
 have h4m:st / 9%4<4:=Qj _ (by decide)
 obtain⟨c,hc,hcm⟩:=Hu h4m
 have J8:aa B.f s8 ([je b w n X7 4]++([pL X7.sh (c6 us) 0,pC (n+1) (.str ⟨word.toArray⟩ tw),pC (n+2) (.int (word.length:Int) td7)]++(shs.map Sh.own++R))) (n7+200) tk7:=I8
 refine wpAny_execs_cons (aX (rF hA1 (CQ b w n X7 n7 tk7 ((st / 9:Nat):Int) ((st / 9%4:Nat):Int) ⟨#[c]⟩ ⟨(txt++[c]).toArray⟩ (xD ⟨txt.toArray⟩ ⟨#[c]⟩ X7.tt (tk7+5)) (BL ⟨txt.toArray⟩ ⟨#[c]⟩))
  (fc ⟨cu (by decide) (by decide) (by rw[z1,y4.1];rfl),fc ⟨cc (by decide) rfl,fc ⟨f7 (x:=Gi) hc (Os (Qj _ (by decide)) (by decide)),fc ⟨by rw[z3];exact dq (by apply Str.ext';show _=_++_;simp) (by simp[Str.length];lia),bu⟩⟩⟩⟩) nP J8 λs9 I9 k9=>ap ?_))
 obtain⟨_,gs,g1,g2,g3⟩:=hp
 have I10:=I9.sub ((Ou (shs.map Sh.own) R).trans (Ou ([je b w n X7 4]++[pL X7.sh (c6 us) 0,pC (n+1) (.str ⟨word.toArray⟩ tw),pC (n+2) (.int (word.length:Int) td7)]) _))
 exact⟨txt++[c],_,n7,_,rfl,⟨gs,c,g1,by rw[g2,Om],hcm,by rw[g3]⟩,by simp;lia,I10,(((((((k1.trans k2).trans k3).trans k4).trans k5).trans k6).trans k7).trans k8).trans k9⟩
end
end Mine

namespace Mine
open PySem
noncomputable abbrev fE (l:Nat):Code:=.call (.type "set") ⟨[.ref (l+200)],[]⟩
noncomputable abbrev Hw (S I:Nat):Code:=.builtin "set.update.loop" ⟨[.ref (S+200),.ref (I+200)],[]⟩
noncomputable abbrev nU (l it:Nat):Code:=.builtin "list.extend.loop" ⟨[.ref (l+200),.ref (it+200),.ref (l+200)],[]⟩
noncomputable abbrev ij (S:Nat):Code:=.call (.builtin "sorted") ⟨[.ref (S+200)],[]⟩
abbrev Hx (b:Bool)(w:World)(n tk it S i nxt ep tu:Nat)(m:Int)(f x:Value)(es:Array (Int×Value))(t:SetTable)(ps:aN):SD:=⟨[0,0],[ac,.x (Lm (it+200) (i:Int) nxt x) [0,0],ac,bi,ac,bi],[],⟨fN it,[],[(it+200,b9 f (i:Int) (S+200) m ep),(S+200,cJ es ep t)],n+200,tk⟩,
 [],⟨.pure (.done (.ret (x))),[],[(it+200,b9 (.int nxt 0) ((i:Int)+1) (S+200) m ep),(S+200,cJ es ep t)],n+200,tk⟩,[⟨bc "set_iterator.__next__" [.ref (it+200)],Lm (it+200) (i:Int) nxt x,[((it+200),⟨.type "set_iterator",.none,.fields #[f,.int ((i:Nat):Int) 0,.ref (S+200),.int m 0,.int ((ep:Nat):Int) 0],#[]⟩),((S+200),⟨.type "set",.none,.set es ep (t),#[]⟩)]⟩]⟩
theorem CU (b:Bool)(w:World)(n tk it S i nxt ep tu:Nat)(m:Int)(f x:Value)(es:Array (Int×Value))(t:SetTable)(ps:aN):SK b w (Hx b w n tk it S i nxt ep tu m f x es t ps):=by apply bq1 b;kernel_rfl
abbrev Hy (b:Bool)(w:World)(n tk it S i nxt ep tu:Nat)(m:Int)(f x:Value)(es:Array (Int×Value))(t:SetTable)(ps:aN):SD:=⟨[0,0,0],[ac,.x (Ln (it+200) (i:Int) x) [0,0,0],ac,bi],[],⟨fN it,[],[(it+200,b9 f (i:Int) (S+200) m ep),(S+200,cJ es ep t),(tu,gZ ps)],n+200,tk⟩,
 [],⟨.pure (.done (.ret (x))),[],[(it+200,b9 f ((i:Int)+1) (S+200) m ep),(S+200,cJ es ep t),(tu,gZ ps)],n+200,tk⟩,[⟨bc "set_iterator.__next__" [.ref (it+200)],Ln (it+200) (i:Int) x,[((it+200),⟨.type "set_iterator",.none,.fields #[f,.int ((i:Nat):Int) 0,.ref (S+200),.int m 0,.int ((ep:Nat):Int) 0],#[]⟩),((S+200),⟨.type "set",.none,.set es ep (t),#[]⟩),(tu,⟨.type "tuple",.none,.seq ps 0,#[]⟩)]⟩]⟩
theorem CV (b:Bool)(w:World)(n tk it S i nxt ep tu:Nat)(m:Int)(f x:Value)(es:Array (Int×Value))(t:SetTable)(ps:aN):SK b w (Hy b w n tk it S i nxt ep tu m f x es t ps):=by apply bq1 b;kernel_rfl
abbrev Hz (b:Bool)(w:World)(n tk it S i nxt ep tu:Nat)(m:Int)(f x:Value)(es:Array (Int×Value))(t:SetTable)(ps:aN):SD:=⟨[1],[ac,.x (Lo (it+200)) [0,0],ac,bi,.a,.a,bf],[],⟨fN it,[],[(it+200,b9 f (i:Int) (S+200) m ep),(S+200,cJ es ep t)],n+200,tk⟩,
 [],⟨.pure (.done .next),[],[(S+200,cJ es ep t)],n+202,tk⟩,[⟨bc "set_iterator.__next__" [.ref (it+200)],Lo (it+200),[((it+200),⟨.type "set_iterator",.none,.fields #[f,.int ((i:Nat):Int) 0,.ref (S+200),.int m 0,.int ((ep:Nat):Int) 0],#[]⟩),((S+200),⟨.type "set",.none,.set es ep (t),#[]⟩)]⟩]⟩
theorem CW (b:Bool)(w:World)(n tk it S i nxt ep tu:Nat)(m:Int)(f x:Value)(es:Array (Int×Value))(t:SetTable)(ps:aN):SK b w (Hz b w n tk it S i nxt ep tu m f x es t ps):=by apply bq1 b;kernel_rfl
abbrev HA (b:Bool)(w:World)(n tk it S i nxt ep tu:Nat)(m:Int)(f x:Value)(es:Array (Int×Value))(t:SetTable)(ps:aN):SD:=⟨[1],[ac,.x (Lp (it+200)) [0,0,0],ac,bi,ac,bi,.a,.a,b7],[],⟨fN it,[],[(it+200,b9 f (i:Int) (S+200) m ep),(S+200,cJ es ep t),(tu,gZ ps)],n+200,tk⟩,
 [],⟨.pure (.done .next),[],[(S+200,cJ es ep t)],n+202,tk⟩,[⟨bc "set_iterator.__next__" [.ref (it+200)],Lp (it+200),[((it+200),⟨.type "set_iterator",.none,.fields #[f,.int ((i:Nat):Int) 0,.ref (S+200),.int m 0,.int ((ep:Nat):Int) 0],#[]⟩),((S+200),⟨.type "set",.none,.set es ep (t),#[]⟩),(tu,⟨.type "tuple",.none,.seq ps 0,#[]⟩)]⟩]⟩
theorem CX (b:Bool)(w:World)(n tk it S i nxt ep tu:Nat)(m:Int)(f x:Value)(es:Array (Int×Value))(t:SetTable)(ps:aN):SK b w (HA b w n tk it S i nxt ep tu m f x es t ps):=by apply bq1 b;kernel_rfl
abbrev CY (b:Bool)(w:World)(n tk S ep:Nat)(es:Array (Int×Value))(t:SetTable):SD:=⟨[0],[ac,ac,ac],[],⟨qh (PySem.Builtin.List.listLengthHint (.ref (S+200))),[],[(S+200,cJ es ep t)],n+200,tk⟩,
 [],⟨.pure (.done (.ret (.bool false))),[],[(S+200,cJ es ep t)],n+200,tk⟩,[]⟩
theorem yT (b:Bool)(w:World)(n tk S ep:Nat)(es:Array (Int×Value))(t:SetTable):SK b w (CY b w n tk S ep es t):=by apply bq1 b;kernel_rfl
section
variable(b:Bool)(w:World)(n tk l e:Nat)(vs:aN)
abbrev yU:SC:=⟨[0,0,0],[.i,.a,az,az,.i,az,az,az,az,ac,ac,ac,ac,ac,.i,ac,.a,au],[],⟨aA (fE l),[(fE l,kr)],[(l+200,ab vs e)],n+200,tk⟩,
 [],Hw n (n+1),[(l+200,ab vs e),(n+200,cJ #[] 0 (SetTable.fresh 0 0 (!(PB b w).followText "set-order"))),(n+201,ba (l+200) 0)],n+202,tk,[]⟩
def nV:Option bo:=dR b w (yU b w n tk l e vs)
theorem CZ:SQ (yU b w n tk l e vs) (nV b w n tk l e vs):=by apply bq1 b;kernel_rfl
theorem wy:aY (nV b w n tk l e vs):=af (by apply bq1 b;kernel_rfl)
end
section
variable(b:Bool)(w:World)(n tk l e:Nat)(vs:aN)(n2 tk2 ep:Nat)(es:Array (Int×Value))(t:SetTable)
abbrev HB:SD:=⟨[0],[],[],gC (nV b w n tk l e vs) (.ok (.ret .none)) [(n+200,cJ es ep t)] (n2+200) tk2,
 [],⟨.pure (.done (.ret (.ref (n+200)))),[],[(n+200,cJ es ep t)],n2+200,tk2⟩,[]⟩
theorem C1:SK b w (HB b w n tk l e vs n2 tk2 ep es t):=by apply bq1 b;kernel_rfl
end
theorem C2 (b:Bool)(w:World)(n tk S:Nat):SO b w [] [] [] ⟨aA (ij S),[],[],n+200,tk⟩
 [] ⟨.pure (.again (.builtin "sorted" ⟨[.ref (S+200)],[]⟩)),[],[],n+200,tk⟩ []:=by apply bq1 b;kernel_rfl
end Mine

namespace Mine
open PySem PySem.Builtin PyProof.Rows
structure mn (s s':Shared):Prop where
 gens:s'.gens=s.gens
 os:s'.os=s.os
theorem mn.rfl' {s:Shared}:mn s s:=⟨rfl,rfl⟩
theorem mn.trans {s s' s'':Shared}(a:mn s s')(b:mn s' s''):mn s s'':=⟨b.gens.trans a.gens,b.os.trans a.os⟩
theorem bZ.ao {s s':Shared}(a:bZ s s'):mn s s':=⟨a.gens,a.os⟩
theorem aa.chg2 {K:Nat->Option Obj}{s s':Shared}{a d nx tok:Nat}{o od o':Obj}{st:aK}(I:aa K s ((a+200,o)::(d,od)::st) nx tok)(k:Kp [a+200,d] s s')(hg:s'.heap.get? (a+200)=some o'):∃n' tk',aa K s' ((a+200,o')::st) (n'+200) tk':=by
 have nd:=I.nodup
 obtain⟨n1,n2⟩:=Ob.mp nd
 obtain⟨n3,n4⟩:=Ob.mp n2
 have J:aa K s' st s'.heap.objs.size s'.toks:=(I.sub (((PF st).cons _).cons _)).kp k (λp hp q=>by
  have hm:p.1∈st.map (·.1):=NL.mpr ⟨p,hp,rfl⟩
  rcases N0.mp q with q|q
  ·exact n1 (.tail _ (by rw[<-q];exact hm))
  ·exact n3 (by rw[<-NN.mp q];exact hm)) λx ox hx q=>by
  rcases N0.mp q with q|q
  ·exact I.off x ox hx (by rw[q];exact .head _)
  ·exact I.off x ox hx (by rw[NN.mp q];exact .tail _ (.head _))
 have hlt:=Heap.lt_size hg
 refine⟨s'.heap.objs.size-200,s'.toks,λp hp=>?_,Ob.mpr ⟨λq=>n1 (.tail _ q),n4⟩,J.base,λx ox hx hm=>?_,?_,rfl⟩
 ·rcases N0.mp hp with q|q
  ·rw[q];exact hg
  ·exact J.has p q
 ·rcases N0.mp hm with q|q
  ·exact I.off x ox hx (by rw[q];exact .head _)
  ·exact J.off x ox hx q
 ·exact(Pv (NU (Pl 200 a) (ON hlt))).symm
section
variable{b:Bool}{w:World}{B:Bx (KL (PB b w))}{A:Around}{s:Shared}{R:Result->aP}{Rm:aK}
inductive Gk (b:Bool)(w:World)(B:Bx (KL (PB b w)))(s:Shared)(Rm:aK)(l:Nat)(e:Nat)(Lst:List Tx)(r:Result)(s':Shared):Prop
 | mk (S n' tk':Nat) (o:Obj) (h1:r=.ok (.ret (.ref (S+200)))) (h2:f6 PW (WB b w) o (Lst.foldl dC [])) (h3:aa B.f s' ([(S+200,o),(l+200,ab (bK Lst).toArray e)]++Rm) (n'+200) tk') (h4:mn s s'):Gk b w B s Rm l e Lst r s'
theorem yV {lv:Nat}(hA:ad lv A)(hlv:lv<=9){l e:Nat}{Lst:List Tx}(hroom:Lst.length+2<scanBound){n tk:Nat}(I:aa B.f s ([(l+200,ab (bK Lst).toArray e)]++Rm) (n+200) tk) :
  codeAny (Mo PW (WB b w)) A (fE l) (Gk b w B s Rm l e Lst) s:=by
 refine dz ?_
 refine fz hA (CZ b w n tk l e (bK Lst).toArray) rfl nP nP I λs1 I1 k1=>?_
 have lg:=wy b w n tk l e (bK Lst).toArray
 have hA1:=hA.up (by lia) lg.1 lg.2
 have g0:s1.heap.get? (l+200)=some (ab (bK Lst).toArray e):=I1.has _ (.head _)
 have g1:s1.heap.get? (n+200)=some (cJ #[] 0 (SetTable.fresh 0 0 (!(PB b w).followText "set-order"))):=I1.has _ (.tail _ (.head _))
 have g2:s1.heap.get? (n+201)=some (ba (l+200) 0):=I1.has _ (.tail _ (.tail _ (.head _)))
 have nd:=I1.nodup
 have h0:f6 PW (WB b w) (cJ #[] 0 (SetTable.fresh 0 0 (!(PB b w).followText "set-order"))) []:=⟨⟨_,_,_,rfl,by rfl,rfl,λh=>absurd h (by decide),λx hx=>by simp at hx,.refl _⟩,by decide⟩
 have nd':l+200≠n+200/\l+200≠n+201:=by
  have h:=(Ob.mp nd).1
  exact⟨λq=>h (by rw[q];exact .head _),λq=>h (by rw[q];exact .tail _ (.head _))⟩
 refine uA (A:=_) (S:=n+200) (I:=n+201) (l:=l+200) (e:=e) (Lst:=Lst) hA1.handled (by lia) (Ne.symm nd'.1) (Ne.symm nd'.2) hroom Lst.length 0 s1 _ [] (OF _) (NT _) g0 ⟨_,g2,rfl,rfl⟩ g1 h0 ?_
 intro s2 o2 hS2 hA2 k2
 obtain⟨es,ep,t,rfl,_⟩:=hA2.has
 obtain⟨n2,tk2,I2⟩:=aa.chg2 (I1.bra [1,2]) k2 hS2
 refine rF hA (C1 b w n tk l e (bK Lst).toArray n2 tk2 ep es t) nP nP I2 λs3 I3 k3=>?_
 exact λ_ _ _=>⟨n,n2,tk2,_,rfl,hA2,I3,(k1.ao.trans k2.sam.ao).trans k3.ao⟩
end
end Mine

namespace Mine
open PySem
noncomputable abbrev nW (C ts:Nat):Code:=.call (.ref 178) ⟨[.ref (C+200),.int 6 ts],[]⟩
def BO (i:Nat):Stmt:=((cA 17).2.1[i]?).getD default
def Jq:Rg×List Stmt:=match BO 2 with|.For t _ bd _ _=>(t,bd)|_=>default
def xF (i:Nat):Stmt:=(Jq.2[i]?).getD default
abbrev dZ (F:Nat):Env:={scope:=(cA 17).2.2,locals:=F+200,globals:=3,cells:=[⟨Rf "n",F+3+200⟩,⟨Rf "ways",F+2+200⟩,⟨Rf "texts",F+1+200⟩],qual:=Rf "_law_texts_fewer.<locals>.",func:=some 178,code:=.ref 177,frame:=some (F+200),builtins:=0}
structure Fv where
 q:Nat->Nat
 (C ts fit:Nat)
abbrev HC (P:Params)(X:Fv):List DictEntry:=[eT P "code" (X.q 0) (.ref (X.C+200)),eT P "size" (X.q 1) (.int 6 X.ts),eT P "fits" (X.q 2) (.ref (X.fit+200))]
abbrev M5 (P:Params)(X:Fv)(m:Nat):Obj:=bO ((HC P X).take m) m
abbrev l7 (d:Int)(td:Nat):Obj:=bQ (.int d td)
noncomputable def Gl (st:Stmt):Rg:=match st with|.Expr (.Call _ [a] _ _) _=>a|_=>default
noncomputable def wz (e:Rg):Rg:=match e with|.Call _ [a] _ _=>a|_=>default
def nX:Rg:=sk (xF 0)
def sv:Rg:=wz (Gl (xF 1))
def qz:Rg:=wz (wz (Gl (xF 2)))
noncomputable abbrev d9 (F:Nat):Str×Addr:=⟨Rf "n",F+3+200⟩
noncomputable abbrev ik (F:Nat):Str×Addr:=⟨Rf "texts",F+1+200⟩
noncomputable abbrev mo (F:Nat):Str×Addr:=⟨Rf "ways",F+2+200⟩
noncomputable def jA (e:Rg):Rg×Comprehension×Comprehension×Scope×Pos:=match e with
 | .ListComp elt [g,g'] sc p=>(elt,g,g',sc,p)
 | _=>default
abbrev yW (F:Nat)(sc:Scope)(cells:List (Str×Addr))(D:Nat):Env:=⟨nR sc,D+200,3,cells,Rf "_law_texts_fewer.<locals>.",none,.ref 177,some (F+200),0⟩
abbrev eC (F:Nat)(e:Rg)(cells:List (Str×Addr))(it acc D:Nat):Code:=.compLoop e 0 (.ref (it+200)) (.ref (acc+200)) (yW F (BN e).2.2.2.2.1 cells D)
abbrev sx (F:Nat)(e:Rg)(cells:List (Str×Addr))(it acc D:Nat):Code:=.compStart e 0 (.ref (it+200)) (.ref (acc+200)) (yW F (BN e).2.2.2.2.1 cells D)
abbrev C3 (F:Nat)(cells:List (Str×Addr))(it acc D:Nat):Code:=.compStart qz 0 (.ref (it+200)) (.ref (acc+200)) (yW F (jA qz).2.2.2.1 cells D)
abbrev ga (F:Nat)(cells:List (Str×Addr))(k it acc D:Nat):Code:=.compLoop qz k (.ref (it+200)) (.ref (acc+200)) (yW F (jA qz).2.2.2.1 cells D)
noncomputable abbrev mD (va vb:Bool):Nat:=if va then(if vb then 2 else 1)else 0
abbrev Nx (P:Params)(va vb:Bool)(dk dk2:Nat)(v v2:Value):Obj:=cy (([eT P "word" dk v,eT P "text" dk2 v2]:List DictEntry).take (mD va vb)) (mD va vb)
def sy:Rg:=match BO 3 with|.Return (some e) _=>e|_=>default
abbrev Gm (F it:Nat):Code:=.forLoop Jq.1 (.ref (it+200)) Jq.2 [] (dZ F)
noncomputable abbrev d0 (o:Option Value):Obj:=⟨.type "cell",none,.cell o,#[]⟩
abbrev HD (F:Nat)(it acc D:Nat):Code:=.compStart qz 1 (.ref (it+200)) (.ref (acc+200)) (yW F (jA qz).2.2.2.1 [ik F,d9 F] D)
abbrev fF (b:Bool)(w:World)(F:Nat)(X:Fv)(i:Nat):Addr×Obj:=(F+200,M5 (PB b w) X i)
abbrev fG (x:Nat)(d:Int)(t:Nat):Addr×Obj:=(x+200,l7 d t)
abbrev qA (b:Bool)(w:World)(D:Nat)(va vb:Bool)(k l:Nat)(x y:Value):Addr×Obj:=(D+200,Nx (PB b w) va vb k l x y)
section
variable(b:Bool)(w:World)(n tk C ts:Nat)
abbrev HE:SD:=⟨[0,0,0,0],[.b,.b,.a,.a,.a,.a,ac,bi,ac,bi,.s],[],⟨aA (nW C ts),[],[],n+200,tk⟩,
 [],⟨.pure (.again (.func (cA 17).2.1 (dZ n))),[],[(n+200,bO [eT (PB b w) "code" tk (.ref (C+200)),eT (PB b w) "size" (tk+1) (.int 6 ts)] 2),(n+1+200,aM),(n+2+200,aM),(n+3+200,aM)],n+204,tk+2⟩,[]⟩
theorem C4:SK b w (HE b w n tk C ts):=by apply bq1 b;kernel_rfl
end
abbrev HF (b:Bool)(w:World)(F n tk:Nat):SD:=⟨[0,0,0],[.a,.a,ac,bi],[],⟨a0 (BO 0) (dZ F),[],[(F+1+200,aM)],n+200,tk⟩,
 [],⟨.pure (.done .next),[],[pC (F+1) (.ref (n+1+200)),pL n #[.str ⟨#[]⟩ tk] 0,pL (n+1) #[.ref (n+200)] 0],n+202,tk+1⟩,[]⟩
theorem C6 (b:Bool)(w:World)(F n tk:Nat):SK b w (HF b w F n tk):=by apply bq1 b;kernel_rfl
abbrev HG (b:Bool)(w:World)(F n tk:Nat):SD:=⟨[0,0],[.a,ac,bi],[],⟨a0 (BO 1) (dZ F),[],[(F+2+200,aM)],n+200,tk⟩,
 [],⟨.pure (.done .next),[],[pC (F+2) (.ref (n+200)),pL n #[.int 1 tk] 0],n+201,tk+1⟩,[]⟩
theorem C7 (b:Bool)(w:World)(F n tk:Nat):SK b w (HG b w F n tk):=by apply bq1 b;kernel_rfl
section
variable(b:Bool)(w:World)(F:Nat)(X:Fv)(n tk:Nat)
abbrev uJ:SC:=⟨[0,1],[.b,.b,ac,.i,.i,.i,.a,az,az,.i,az,az,az,az,.i,az,az,az,az,.a,au],[],⟨a0 (BO 2) (dZ F),[],[fF b w F X 2],n+200,tk⟩,
 [],Gm F (n+1),[fF b w F X 2,pR (n+1) 1 6 1],n+202,tk+4,[]⟩
def kX:Option bo:=dR b w (uJ b w F X n tk)
theorem yX:SQ (uJ b w F X n tk) (kX b w F X n tk):=by apply bq1 b;kernel_rfl
theorem sz:aY (kX b w F X n tk):=af (by apply bq1 b;kernel_rfl)
end
section
variable(b:Bool)(w:World)(F:Nat)(X:Fv)(n tk:Nat)(n2 tk2:Nat)
abbrev C8:SD:=⟨[],[],[],gC (kX b w F X n tk) (.ok .next) [] (n2+200) tk2,
 [],⟨.pure (.done .next),[],[],n2+200,tk2⟩,[]⟩
theorem yY:SK b w (C8 b w F X n tk n2 tk2):=by apply bq1 b;kernel_rfl
end
abbrev sA (b:Bool)(w:World)(it n tk:Nat)(i left:Int):SD:=⟨[0],[ac,.x (iF (it+200) i left 1) [0],ac,bi,ac,bi],[],⟨fN it,[],[pR it i left 1],n+200,tk⟩,
 [],⟨.pure (.done (.ret (.int i tk))),[],[pR it (i+1) (left-1) 1],n+200,tk+1⟩,[⟨bc "range_iterator.__next__" [.ref (it+200)],iF (it+200) i left 1,[((it+200),bL i left ((1:Nat):Int))]⟩]⟩
theorem uK (b:Bool)(w:World)(it n tk:Nat)(i left:Int):SK b w (sA b w it n tk i left):=by apply bq1 b;kernel_rfl
abbrev sB (b:Bool)(w:World)(it n tk:Nat)(i left:Int):SD:=⟨[],[ac,.x (nv) [0],.a,.a,au],[],⟨fN it,[],[pR it i left 1],n+200,tk⟩,
 [],⟨.pure (.done .next),[],[],n+202,tk⟩,[⟨bc "range_iterator.__next__" [.ref (it+200)],nv,[((it+200),bL i left ((1:Nat):Int))]⟩]⟩
theorem uL (b:Bool)(w:World)(it n tk:Nat)(i left:Int):SK b w (sB b w it n tk i left):=by apply bq1 b;kernel_rfl
abbrev HI (b:Bool)(w:World)(F n tk:Nat)(o:Option Value)(x:Int)(tx:Nat):SD:=⟨[0],[ac,bi],[],⟨kN Jq.1 (dZ F) (.int x tx),[],[(F+3+200,d0 o)],n+200,tk⟩,
 [],⟨.pure (.done .next),[],[fG (F+3) x tx],n+200,tk⟩,[]⟩
theorem C9 (b:Bool)(w:World)(F n tk:Nat)(o:Option Value)(x:Int)(tx:Nat):SK b w (HI b w F n tk o x tx):=by apply bq1 b;kernel_rfl
section
variable(b vv:Bool)(w:World)(F:Nat)(X:Fv)(n tk:Nat)(xs:aN)(se:Nat)
abbrev yZ:SC:=⟨[0,0,0,0,0],[ac,az,az,.i,az,.a,au,.a,.a],[],⟨a0 (xF 0) (dZ F),[],[fF b w F X (if vv then 3 else 2),pL X.C xs se],n+200,tk⟩,
 [],sx F nX [d9 F] n (n+1) (n+2),[fF b w F X (if vv then 3 else 2),pL X.C xs se,pI n (X.C+200) 0,pL (n+1) #[] 0,(n+2+200,cy [] 0)],n+203,tk,[]⟩
def nY:Option bo:=dR b w (yZ b vv w F X n tk xs se)
theorem Da:SQ (yZ b vv w F X n tk xs se) (nY b vv w F X n tk xs se):=by apply bq2 b vv;kernel_rfl
theorem wA:aY (nY b vv w F X n tk xs se):=af (by apply bq2 b vv;kernel_rfl)
end
section
variable(b vv:Bool)(w:World)(F it acc D n tk ae i S se td dk tw:Nat)(xs av:aN)(dv:Value)(word:Str)(d c:Int)
abbrev y0:SD:=⟨[0,0,0,0,0],[ac,.x (bW (it+200) (i:Int) (.str word tw)) [0,0],ac,bi,au,fV,.b,.b,au,.o,bf,.o,au,.x (b5 (acc+200) (.str word tw)) [4],xC],[aL c,aB true],⟨aA (eC F nX [d9 F] it acc D),[],[pI it (S+200) (i:Int),pL S xs se,c5 b w D vv dk dv,fG (F+3) d td,pL acc av ae],n+200,tk⟩,
 [⟨bc "len" [.str word tw],aL c,[]⟩,⟨bc "int.__le__" [.int c (tk+2),.int d td],aB true,[]⟩],⟨.pure (.again (eC F nX [d9 F] it acc D)),[],[pI it (S+200) ((i:Int)+1),pL S xs se,c5 b w D true (if vv then dk else tk) (.str word tw),fG (F+3) d td,pL acc (av.push (.str word tw)) (bU av (.str word tw) ae)],n+200,tk+3⟩,[⟨bc "list_iterator.__next__" [.ref (it+200)],bW (it+200) (i:Int) (.str word tw),[((it+200),ba (S+200) ((i:Nat):Int)),((S+200),ab xs se)]⟩,⟨bc "list.append" [.ref (acc+200),.str word tw],b5 (acc+200) (.str word tw),[((acc+200),ab av ae)]⟩]⟩
theorem Db:SK b w (y0 b vv w F it acc D n tk ae i S se td dk tw xs av dv word d c):=by apply bq2 b vv;kernel_rfl
abbrev za:SD:=⟨[0,0,0,0,0],[ac,.x (bW (it+200) (i:Int) (.str word tw)) [0,0],ac,bi,au,fV,.b,.b,au,.o,bf,.o],[aL c,aB false],⟨aA (eC F nX [d9 F] it acc D),[],[pI it (S+200) (i:Int),pL S xs se,c5 b w D vv dk dv,fG (F+3) d td,pL acc av ae],n+200,tk⟩,
 [⟨bc "len" [.str word tw],aL c,[]⟩,⟨bc "int.__le__" [.int c (tk+2),.int d td],aB false,[]⟩],⟨.pure (.again (eC F nX [d9 F] it acc D)),[],[pI it (S+200) ((i:Int)+1),pL S xs se,c5 b w D true (if vv then dk else tk) (.str word tw),fG (F+3) d td,pL acc av ae],n+200,tk+3⟩,[⟨bc "list_iterator.__next__" [.ref (it+200)],bW (it+200) (i:Int) (.str word tw),[((it+200),ba (S+200) ((i:Nat):Int)),((S+200),ab xs se)]⟩]⟩
theorem Dd:SK b w (za b vv w F it acc D n tk ae i S se td dk tw xs av dv word d c):=by apply bq2 b vv;kernel_rfl
end
abbrev zb (b:Bool)(w:World)(F it acc D n tk i S se:Nat)(xs:aN):SD:=⟨[1],[ac,.x (dr (it+200)) [0,0],ac,bi,.a,.a,bf],[],⟨aA (eC F nX [d9 F] it acc D),[],[pI it (S+200) (i:Int),pL S xs se],n+200,tk⟩,
 [],⟨.pure (.done .next),[],[pL S xs se],n+202,tk⟩,[⟨bc "list_iterator.__next__" [.ref (it+200)],dr (it+200),[((it+200),ba (S+200) ((i:Nat):Int)),((S+200),ab xs se)]⟩]⟩
theorem De (b:Bool)(w:World)(F it acc D n tk i S se:Nat)(xs:aN):SK b w (zb b w F it acc D n tk i S se xs):=by apply bq1 b;kernel_rfl
section
variable(b vv:Bool)(w:World)(F:Nat)(X:Fv)(n tk:Nat)(xs:aN)(se n2 tk2 dk:Nat)(dv:Value)
abbrev HJ:SD:=⟨[0],[ac,bi,az,az,jI],[],gC (nY b vv w F X n tk xs se) (.ok .next) [fF b w F X (if vv then 3 else 2),c5 b w (n+2) true dk dv] (n2+200) tk2,
 [],⟨.pure (.done .next),[],[fF b w F {X with fit:=n+1,q:=qU X.q 2 (if vv then X.q 2 else tk2)} 3],n2+200,tk2+1⟩,[]⟩
theorem Df:SK b w (HJ b vv w F X n tk xs se n2 tk2 dk dv):=by apply bq2 b vv;kernel_rfl
end
section
variable(b:Bool)(w:World)(F:Nat)(X:Fv)(n tk:Nat)(xs ws:aN)(se W we:Nat)
abbrev zc:SC:=⟨[0,0,0,0,0,0,0],[au,bf,bf,bf,bf,.b,.b,ac,az,az,.i,az,.a,b7,.a,.a],[],⟨a0 (xF 1) (dZ F),[],[fF b w F X 3,pL X.fit xs se,pC (F+2) (.ref (W+200)),pL W ws we],n+200,tk⟩,
 [],sx F sv [mo F,d9 F] n (n+1) (n+2),[fF b w F X 3,pL X.fit xs se,pC (F+2) (.ref (W+200)),pL W ws we,pI n (X.fit+200) 0,pL (n+1) #[] 0,(n+2+200,cy [] 0)],n+203,tk,[]⟩
def j5:Option bo:=dR b w (zc b w F X n tk xs ws se W we)
theorem Dg:SQ (zc b w F X n tk xs ws se W we) (j5 b w F X n tk xs ws se W we):=by apply bq1 b;kernel_rfl
theorem wB:aY (j5 b w F X n tk xs ws se W we):=af (by apply bq1 b;kernel_rfl)
end
section
variable(b vv:Bool)(w:World)(F it acc D n tk ae i S se td dk tw W we t2:Nat)(xs av ws:aN)(dv:Value)(word:Str)(d c k x:Int)
abbrev ze:SD:=⟨[0,0,0,0,0,0,0],[ac,.x (bW (it+200) (i:Int) (.str word tw)) [0,0],ac,bi,au,fV,b7,bf,.b,.b,au,.o,.o,b6,b6,b6,.h [5],.x (b5 (acc+200) (.int x t2)) [6],MR],[aL c,aI k,aV (.int x t2)],⟨aA (eC F sv [mo F,d9 F] it acc D),[],[pI it (S+200) (i:Int),pL S xs se,c5 b w D vv dk dv,fG (F+3) d td,pC (F+2) (.ref (W+200)),pL W ws we,pL acc av ae],n+200,tk⟩,
 [⟨bc "len" [.str word tw],aL c,[]⟩,⟨bc "int.__sub__" [.int d td,.int c (tk+2)],aI k,[]⟩,⟨bc "list.__getitem__" [.ref (W+200),.int k (tk+3)],aV (.int x t2),[((W+200),ab ws we)]⟩],⟨.pure (.again (eC F sv [mo F,d9 F] it acc D)),[],[pI it (S+200) ((i:Int)+1),pL S xs se,c5 b w D true (if vv then dk else tk) (.str word tw),fG (F+3) d td,pC (F+2) (.ref (W+200)),pL W ws we,pL acc (av.push (.int x t2)) (bU av (.int x t2) ae)],n+200,tk+4⟩,[⟨bc "list_iterator.__next__" [.ref (it+200)],bW (it+200) (i:Int) (.str word tw),[((it+200),ba (S+200) ((i:Nat):Int)),((S+200),ab xs se)]⟩,⟨bc "list.append" [.ref (acc+200),.int x t2],b5 (acc+200) (.int x t2),[((acc+200),ab av ae)]⟩]⟩
theorem Dh:SK b w (ze b vv w F it acc D n tk ae i S se td dk tw W we t2 xs av ws dv word d c k x):=by apply bq2 b vv;kernel_rfl
end
abbrev zg (b:Bool)(w:World)(F it acc D n tk i S se:Nat)(xs:aN):SD:=⟨[1],[ac,.x (dr (it+200)) [0,0],ac,bi,.a,.a,bf],[],⟨aA (eC F sv [mo F,d9 F] it acc D),[],[pI it (S+200) (i:Int),pL S xs se],n+200,tk⟩,
 [],⟨.pure (.done .next),[],[pL S xs se],n+202,tk⟩,[⟨bc "list_iterator.__next__" [.ref (it+200)],dr (it+200),[((it+200),ba (S+200) ((i:Nat):Int)),((S+200),ab xs se)]⟩]⟩
theorem Di (b:Bool)(w:World)(F it acc D n tk i S se:Nat)(xs:aN):SK b w (zg b w F it acc D n tk i S se xs):=by apply bq1 b;kernel_rfl
section
variable(b:Bool)(w:World)(F:Nat)(X:Fv)(n tk:Nat)(xs ws:aN)(se W we n2 tk2 dk:Nat)(dv:Value)
abbrev zh:SC:=⟨[],[ac,ac,bi],[],gC (j5 b w F X n tk xs ws se W we) (.ok .next) [c5 b w (n+2) true dk dv] (n2+200) tk2,
 [],.call (.builtin "sum") ⟨[.ref (n+1+200)],[]⟩,[],n2+200,tk2,[]⟩
def j6:Option bo:=dR b w (zh b w F X n tk xs ws se W we n2 tk2 dk dv)
theorem Dj:SQ (zh b w F X n tk xs ws se W we n2 tk2 dk dv) (j6 b w F X n tk xs ws se W we n2 tk2 dk dv):=by apply bq1 b;kernel_rfl
theorem wC:aY (j6 b w F X n tk xs ws se W we n2 tk2 dk dv):=af (by apply bq1 b;kernel_rfl)
end
section
variable(b:Bool)(w:World)(F:Nat)(X:Fv)(n tk:Nat)(xs ws:aN)(se W we n2 tk2:Nat)
abbrev zi:SC:=⟨[],[ac],[],gC (j5 b w F X n tk xs ws se W we) (.ok .next) [c5 b w (n+2) false 0 .none] (n2+200) tk2,
 [],.call (.builtin "sum") ⟨[.ref (n+1+200)],[]⟩,[],n2+200,tk2,[]⟩
def j7:Option bo:=dR b w (zi b w F X n tk xs ws se W we n2 tk2)
theorem Dl:SQ (zi b w F X n tk xs ws se W we n2 tk2) (j7 b w F X n tk xs ws se W we n2 tk2):=by apply bq1 b;kernel_rfl
theorem wD:aY (j7 b w F X n tk xs ws se W we n2 tk2):=af (by apply bq1 b;kernel_rfl)
end
section
variable(b:Bool)(w:World)(F:Nat)(X:Fv)(n tk:Nat)(xs ws:aN)(se W we n2 tk2 dk n3 tk3:Nat)(dv:Value)(x:Int)(t:Nat)
abbrev zj:SD:=⟨[0],[.x (b5 (W+200) (.int x t)) [0],bi],[],gC (j6 b w F X n tk xs ws se W we n2 tk2 dk dv) (.ok (.ret (.int x t))) [pL W ws we] (n3+200) tk3,
 [],⟨.pure (.done .next),[],[pL W (ws.push (.int x t)) (bU ws (.int x t) we)],n3+200,tk3⟩,[⟨bc "list.append" [.ref (W+200),.int x t],b5 (W+200) (.int x t),[((W+200),ab ws we)]⟩]⟩
theorem Dm:SK b w (zj b w F X n tk xs ws se W we n2 tk2 dk n3 tk3 dv x t):=by apply bq1 b;kernel_rfl
end
section
variable(b:Bool)(w:World)(F:Nat)(X:Fv)(n tk:Nat)(xs ws:aN)(se W we n2 tk2 n3 tk3:Nat)(x:Int)(t:Nat)
abbrev zk:SD:=⟨[0],[.x (b5 (W+200) (.int x t)) [0],bi],[],gC (j7 b w F X n tk xs ws se W we n2 tk2) (.ok (.ret (.int x t))) [pL W ws we] (n3+200) tk3,
 [],⟨.pure (.done .next),[],[pL W (ws.push (.int x t)) (bU ws (.int x t) we)],n3+200,tk3⟩,[⟨bc "list.append" [.ref (W+200),.int x t],b5 (W+200) (.int x t),[((W+200),ab ws we)]⟩]⟩
theorem Dn:SK b w (zk b w F X n tk xs ws se W we n2 tk2 n3 tk3 x t):=by apply bq1 b;kernel_rfl
end
section
variable(b:Bool)(w:World)(F:Nat)(X:Fv)(n tk:Nat)(xs ts:aN)(se T te:Nat)
abbrev zl:SC:=⟨[0,0,0,0,0,0,0],[au,bf,bf,bf,bf,.b,.b,.b,.b,ac,az,az,.i,az,.a,b7,.a,.a],[],⟨a0 (xF 2) (dZ F),[],[fF b w F X 3,pL X.fit xs se,pC (F+1) (.ref (T+200)),pL T ts te],n+200,tk⟩,
 [],C3 F [ik F,d9 F] n (n+1) (n+2),[fF b w F X 3,pL X.fit xs se,pC (F+1) (.ref (T+200)),pL T ts te,pI n (X.fit+200) 0,pL (n+1) #[] 0,(n+2+200,cy [] 0)],n+203,tk,[]⟩
def dM:Option bo:=dR b w (zl b w F X n tk xs ts se T te)
theorem Do:SQ (zl b w F X n tk xs ts se T te) (dM b w F X n tk xs ts se T te):=by apply bq1 b;kernel_rfl
theorem wE:aY (dM b w F X n tk xs ts se T te):=af (by apply bq1 b;kernel_rfl)
end
section
variable(b va vb:Bool)(w:World)(F it acc D n tk i S se T te IN ie td dk dk2:Nat)(xs ts iz:aN)(v v2:Value)(word:Str)(tw:Nat)(d c k:Int)
abbrev zm:SC:=⟨[0,0,0,0,0,0,0,0],[ac,.x (bW (it+200) (i:Int) (.str word tw)) [0,0],ac,bi,au,fV,b7,bf,.b,.b,au,.o,.o,b6,b6,b6,.h [5],iy,iy,.i,iy,.a,hE],[aL c,aI k,aV (.ref (IN+200))],⟨aA (ga F [ik F,d9 F] 0 it acc D),[],[pI it (S+200) (i:Int),pL S xs se,qA b w D va vb dk dk2 v v2,fG (F+3) d td,pC (F+1) (.ref (T+200)),pL T ts te,pL IN iz ie],n+200,tk⟩,
 [⟨bc "len" [.str word tw],aL c,[]⟩,⟨bc "int.__sub__" [.int d td,.int c (tk+2)],aI k,[]⟩,⟨bc "list.__getitem__" [.ref (T+200),.int k (tk+3)],aV (.ref (IN+200)),[((T+200),ab ts te)]⟩],HD F n acc D,[pI it (S+200) ((i:Int)+1),pL S xs se,qA b w D true (va&&vb) (if va then dk else tk) dk2 (.str word tw) v2,fG (F+3) d td,pC (F+1) (.ref (T+200)),pL T ts te,pL IN iz ie,pI n (IN+200) 0],n+201,tk+4,[⟨bc "list_iterator.__next__" [.ref (it+200)],bW (it+200) (i:Int) (.str word tw),[((it+200),ba (S+200) ((i:Nat):Int)),((S+200),ab xs se)]⟩]⟩
def nZ:Option bo:=dR b w (zm b va vb w F it acc D n tk i S se T te IN ie td dk dk2 xs ts iz v v2 word tw d c k)
theorem Dp:SQ (zm b va vb w F it acc D n tk i S se T te IN ie td dk dk2 xs ts iz v v2 word tw d c k) (nZ b va vb w F it acc D n tk i S se T te IN ie td dk dk2 xs ts iz v v2 word tw d c k):=by apply bq3 b va vb;kernel_rfl
theorem wF:aY (nZ b va vb w F it acc D n tk i S se T te IN ie td dk dk2 xs ts iz v v2 word tw d c k):=af (by apply bq3 b va vb;kernel_rfl)
end
section
variable(b vv:Bool)(w:World)(F it acc D n tk ae i S se dk dk2:Nat)(xs av:aN)(v2:Value)(word text z:Str)(tw t2:Nat)(zf:Nat->Nat)(zd:Nat)
abbrev zn:SD:=⟨[0,0,0,0],[ac,.x (bW (it+200) (i:Int) (.str text t2)) [0,0],ac,bi,au,fV,au,au,.o,.x (b5 (acc+200) (.str z (zf (tk+1)))) [3],j0],[aG z zf zd],⟨aA (ga F [ik F,d9 F] 1 it acc D),[],[pI it (S+200) (i:Int),pL S xs se,qA b w D true vv dk dk2 (.str word tw) v2,pL acc av ae],n+200,tk⟩,
 [⟨bc "str.__add__" [.str text t2,.str word tw],aG z zf zd,[]⟩],⟨.pure (.again (ga F [ik F,d9 F] 1 it acc D)),[],[pI it (S+200) ((i:Int)+1),pL S xs se,qA b w D true true dk (if vv then dk2 else tk) (.str word tw) (.str text t2),pL acc (av.push (.str z (zf (tk+1)))) (bU av (.str z (zf (tk+1))) ae)],n+200,tk+1+zd⟩,[⟨bc "list_iterator.__next__" [.ref (it+200)],bW (it+200) (i:Int) (.str text t2),[((it+200),ba (S+200) ((i:Nat):Int)),((S+200),ab xs se)]⟩,⟨bc "list.append" [.ref (acc+200),.str z ((zf (tk+1)))],b5 (acc+200) (.str z (zf (tk+1))),[((acc+200),ab av ae)]⟩]⟩
theorem Dq:SK b w (zn b vv w F it acc D n tk ae i S se dk dk2 xs av v2 word text z tw t2 zf zd):=by apply bq2 b vv;kernel_rfl
end
abbrev zo (b:Bool)(w:World)(F it acc D n tk i S se:Nat)(xs:aN):SD:=⟨[1],[ac,.x (dr (it+200)) [0,0],ac,bi,.a,.a,bf],[],⟨aA (ga F [ik F,d9 F] 1 it acc D),[],[pI it (S+200) (i:Int),pL S xs se],n+200,tk⟩,
 [],⟨.pure (.done .next),[],[pL S xs se],n+202,tk⟩,[⟨bc "list_iterator.__next__" [.ref (it+200)],dr (it+200),[((it+200),ba (S+200) ((i:Nat):Int)),((S+200),ab xs se)]⟩]⟩
theorem Dr (b:Bool)(w:World)(F it acc D n tk i S se:Nat)(xs:aN):SK b w (zo b w F it acc D n tk i S se xs):=by apply bq1 b;kernel_rfl
section
variable(b va vb:Bool)(w:World)(F it acc D n tk i S se T te IN ie td dk dk2:Nat)(xs ts iz:aN)(v v2:Value)(word:Str)(tw:Nat)(d c k:Int)(n2 tk2:Nat)
abbrev HK:SD:=⟨[],[],[],gC (nZ b va vb w F it acc D n tk i S se T te IN ie td dk dk2 xs ts iz v v2 word tw d c k) (.ok .next) [] (n2+200) tk2,
 [],⟨.pure (.again (ga F [ik F,d9 F] 0 it acc D)),[],[],n2+200,tk2⟩,[]⟩
theorem Ds:SK b w (HK b va vb w F it acc D n tk i S se T te IN ie td dk dk2 xs ts iz v v2 word tw d c k n2 tk2):=by apply bq3 b va vb;kernel_rfl
end
abbrev HL (b:Bool)(w:World)(F it acc D n tk i S se:Nat)(xs:aN):SD:=⟨[1],[ac,.x (dr (it+200)) [0,0],ac,bi,.a,.a,bf],[],⟨aA (ga F [ik F,d9 F] 0 it acc D),[],[pI it (S+200) (i:Int),pL S xs se],n+200,tk⟩,
 [],⟨.pure (.done .next),[],[pL S xs se],n+202,tk⟩,[⟨bc "list_iterator.__next__" [.ref (it+200)],dr (it+200),[((it+200),ba (S+200) ((i:Nat):Int)),((S+200),ab xs se)]⟩]⟩
theorem Dt (b:Bool)(w:World)(F it acc D n tk i S se:Nat)(xs:aN):SK b w (HL b w F it acc D n tk i S se xs):=by apply bq1 b;kernel_rfl
section
variable(b:Bool)(w:World)(F:Nat)(X:Fv)(n tk:Nat)(xs ts:aN)(se T te n2 tk2 dk dk2:Nat)(v v2:Value)
abbrev uM:SC:=⟨[],[ac,ac],[],gC (dM b w F X n tk xs ts se T te) (.ok .next) [qA b w (n+2) false false dk dk2 v v2] (n2+200) tk2,
 [],fE (n+1),[],n2+200,tk2,[]⟩
def iU:Option bo:=dR b w (uM b w F X n tk xs ts se T te n2 tk2 dk dk2 v v2)
theorem zp:SQ (uM b w F X n tk xs ts se T te n2 tk2 dk dk2 v v2) (iU b w F X n tk xs ts se T te n2 tk2 dk dk2 v v2):=by apply bq1 b;kernel_rfl
theorem sC:aY (iU b w F X n tk xs ts se T te n2 tk2 dk dk2 v v2):=af (by apply bq1 b;kernel_rfl)
end
section
variable(b:Bool)(w:World)(F:Nat)(X:Fv)(n tk:Nat)(xs ts:aN)(se T te n2 tk2 dk dk2:Nat)(v v2:Value)(n3 tk3 S:Nat)
abbrev uN:SC:=⟨[],[],[],gC (iU b w F X n tk xs ts se T te n2 tk2 dk dk2 v v2) (.ok (.ret (.ref (S+200)))) [] (n3+200) tk3,
 [],ij S,[],n3+200,tk3,[]⟩
def iV:Option bo:=dR b w (uN b w F X n tk xs ts se T te n2 tk2 dk dk2 v v2 n3 tk3 S)
theorem zq:SQ (uN b w F X n tk xs ts se T te n2 tk2 dk dk2 v v2 n3 tk3 S) (iV b w F X n tk xs ts se T te n2 tk2 dk dk2 v v2 n3 tk3 S):=by apply bq1 b;kernel_rfl
theorem sD:aY (iV b w F X n tk xs ts se T te n2 tk2 dk dk2 v v2 n3 tk3 S):=af (by apply bq1 b;kernel_rfl)
end
section
variable(b:Bool)(w:World)(F:Nat)(X:Fv)(n tk:Nat)(xs ts:aN)(se T te n2 tk2 dk dk2:Nat)(v v2:Value)(n3 tk3 S n4 tk4 L:Nat)
abbrev Du:SD:=⟨[0],[.x (b5 (T+200) (.ref (L+200))) [0],bi],[],gC (iV b w F X n tk xs ts se T te n2 tk2 dk dk2 v v2 n3 tk3 S) (.ok (.ret (.ref (L+200)))) [pL T ts te] (n4+200) tk4,
 [],⟨.pure (.done .next),[],[pL T (ts.push (.ref (L+200))) (bU ts (.ref (L+200)) te)],n4+200,tk4⟩,[⟨bc "list.append" [.ref (T+200),.ref (L+200)],b5 (T+200) (.ref (L+200)),[((T+200),ab ts te)]⟩]⟩
theorem zr:SK b w (Du b w F X n tk xs ts se T te n2 tk2 dk dk2 v v2 n3 tk3 S n4 tk4 L):=by apply bq1 b;kernel_rfl
end
section
variable(b:Bool)(w:World)(F:Nat)(X:Fv)(n tk:Nat)(xs ts:aN)(se T te n2 tk2 dk dk2:Nat)(v v2:Value)
abbrev uO:SC:=⟨[],[ac,ac,ac,bi],[],gC (dM b w F X n tk xs ts se T te) (.ok .next) [qA b w (n+2) true false dk dk2 v v2] (n2+200) tk2,
 [],fE (n+1),[],n2+200,tk2,[]⟩
def iW:Option bo:=dR b w (uO b w F X n tk xs ts se T te n2 tk2 dk dk2 v v2)
theorem zt:SQ (uO b w F X n tk xs ts se T te n2 tk2 dk dk2 v v2) (iW b w F X n tk xs ts se T te n2 tk2 dk dk2 v v2):=by apply bq1 b;kernel_rfl
theorem sE:aY (iW b w F X n tk xs ts se T te n2 tk2 dk dk2 v v2):=af (by apply bq1 b;kernel_rfl)
end
section
variable(b:Bool)(w:World)(F:Nat)(X:Fv)(n tk:Nat)(xs ts:aN)(se T te n2 tk2 dk dk2:Nat)(v v2:Value)(n3 tk3 S:Nat)
abbrev uP:SC:=⟨[],[],[],gC (iW b w F X n tk xs ts se T te n2 tk2 dk dk2 v v2) (.ok (.ret (.ref (S+200)))) [] (n3+200) tk3,
 [],ij S,[],n3+200,tk3,[]⟩
def iX:Option bo:=dR b w (uP b w F X n tk xs ts se T te n2 tk2 dk dk2 v v2 n3 tk3 S)
theorem zu:SQ (uP b w F X n tk xs ts se T te n2 tk2 dk dk2 v v2 n3 tk3 S) (iX b w F X n tk xs ts se T te n2 tk2 dk dk2 v v2 n3 tk3 S):=by apply bq1 b;kernel_rfl
theorem sF:aY (iX b w F X n tk xs ts se T te n2 tk2 dk dk2 v v2 n3 tk3 S):=af (by apply bq1 b;kernel_rfl)
end
section
variable(b:Bool)(w:World)(F:Nat)(X:Fv)(n tk:Nat)(xs ts:aN)(se T te n2 tk2 dk dk2:Nat)(v v2:Value)(n3 tk3 S n4 tk4 L:Nat)
abbrev Dv:SD:=⟨[0],[.x (b5 (T+200) (.ref (L+200))) [0],bi],[],gC (iX b w F X n tk xs ts se T te n2 tk2 dk dk2 v v2 n3 tk3 S) (.ok (.ret (.ref (L+200)))) [pL T ts te] (n4+200) tk4,
 [],⟨.pure (.done .next),[],[pL T (ts.push (.ref (L+200))) (bU ts (.ref (L+200)) te)],n4+200,tk4⟩,[⟨bc "list.append" [.ref (T+200),.ref (L+200)],b5 (T+200) (.ref (L+200)),[((T+200),ab ts te)]⟩]⟩
theorem zv:SK b w (Dv b w F X n tk xs ts se T te n2 tk2 dk dk2 v v2 n3 tk3 S n4 tk4 L):=by apply bq1 b;kernel_rfl
end
section
variable(b:Bool)(w:World)(F:Nat)(X:Fv)(n tk:Nat)(xs ts:aN)(se T te n2 tk2 dk dk2:Nat)(v v2:Value)
abbrev uQ:SC:=⟨[],[ac,ac,bi,ac,ac,bi],[],gC (dM b w F X n tk xs ts se T te) (.ok .next) [qA b w (n+2) true true dk dk2 v v2] (n2+200) tk2,
 [],fE (n+1),[],n2+200,tk2,[]⟩
def iY:Option bo:=dR b w (uQ b w F X n tk xs ts se T te n2 tk2 dk dk2 v v2)
theorem zw:SQ (uQ b w F X n tk xs ts se T te n2 tk2 dk dk2 v v2) (iY b w F X n tk xs ts se T te n2 tk2 dk dk2 v v2):=by apply bq1 b;kernel_rfl
theorem sG:aY (iY b w F X n tk xs ts se T te n2 tk2 dk dk2 v v2):=af (by apply bq1 b;kernel_rfl)
end
section
variable(b:Bool)(w:World)(F:Nat)(X:Fv)(n tk:Nat)(xs ts:aN)(se T te n2 tk2 dk dk2:Nat)(v v2:Value)(n3 tk3 S:Nat)
abbrev uR:SC:=⟨[],[],[],gC (iY b w F X n tk xs ts se T te n2 tk2 dk dk2 v v2) (.ok (.ret (.ref (S+200)))) [] (n3+200) tk3,
 [],ij S,[],n3+200,tk3,[]⟩
def i0:Option bo:=dR b w (uR b w F X n tk xs ts se T te n2 tk2 dk dk2 v v2 n3 tk3 S)
theorem zx:SQ (uR b w F X n tk xs ts se T te n2 tk2 dk dk2 v v2 n3 tk3 S) (i0 b w F X n tk xs ts se T te n2 tk2 dk dk2 v v2 n3 tk3 S):=by apply bq1 b;kernel_rfl
theorem sH:aY (i0 b w F X n tk xs ts se T te n2 tk2 dk dk2 v v2 n3 tk3 S):=af (by apply bq1 b;kernel_rfl)
end
section
variable(b:Bool)(w:World)(F:Nat)(X:Fv)(n tk:Nat)(xs ts:aN)(se T te n2 tk2 dk dk2:Nat)(v v2:Value)(n3 tk3 S n4 tk4 L:Nat)
abbrev Dw:SD:=⟨[0],[.x (b5 (T+200) (.ref (L+200))) [0],bi],[],gC (i0 b w F X n tk xs ts se T te n2 tk2 dk dk2 v v2 n3 tk3 S) (.ok (.ret (.ref (L+200)))) [pL T ts te] (n4+200) tk4,
 [],⟨.pure (.done .next),[],[pL T (ts.push (.ref (L+200))) (bU ts (.ref (L+200)) te)],n4+200,tk4⟩,[⟨bc "list.append" [.ref (T+200),.ref (L+200)],b5 (T+200) (.ref (L+200)),[((T+200),ab ts te)]⟩]⟩
theorem zy:SK b w (Dw b w F X n tk xs ts se T te n2 tk2 dk dk2 v v2 n3 tk3 S n4 tk4 L):=by apply bq1 b;kernel_rfl
end
section
variable(b:Bool)(w:World)(F:Nat)(X:Fv)(n tk:Nat)
abbrev zz:SC:=⟨[0,1,0,0],[.b,.b,ac,.i,.i,.i,.a,az,az,.i,az,az,az,az,.i,az,az,az,az,.a,au,.a,.a],[],⟨a0 (BO 3) (dZ F),[],[fF b w F X 3],n+200,tk⟩,
 [],sx F sy [mo F,ik F] (n+1) (n+2) (n+3),[fF b w F X 3,pR (n+1) 0 7 1,pL (n+2) #[] 0,(n+3+200,cy [] 0)],n+204,tk+4,[]⟩
def oa:Option bo:=dR b w (zz b w F X n tk)
theorem Dx:SQ (zz b w F X n tk) (oa b w F X n tk):=by apply bq1 b;kernel_rfl
theorem wG:aY (oa b w F X n tk):=af (by apply bq1 b;kernel_rfl)
end
section
variable(b vv:Bool)(w:World)(F it acc D n tk ae W we T te IN ie dk t2:Nat)(ws ts iz av:aN)(dv:Value)(i left c x:Int)(r:Bool)
abbrev zA:SD:=⟨[0,0,0,0,0,0,0,0],[ac,.x (iF (it+200) i left 1) [0],ac,bi,ac,bi,az,jI,.b,.b,b7,az,b6,b6,b6,.h [5],.h [7],au,az,bf,bf,bf,.h [3],.o,.x (b5 (acc+200) (.bool r)) [6],MR],[aV (.ref (IN+200)),aL c,aV (.int x t2),aB r],⟨aA (eC F sy [mo F,ik F] it acc D),[],[pR it i left 1,(D+200,jd (PB b w) vv "n" dk dv),pC (F+2) (.ref (W+200)),pL W ws we,pC (F+1) (.ref (T+200)),pL T ts te,pL acc av ae,pL IN iz ie],n+200,tk⟩,
 [⟨bc "list.__getitem__" [.ref (T+200),.int i tk],aV (.ref (IN+200)),[((T+200),ab ts te)]⟩,⟨bc "len" [.ref (IN+200)],aL c,[((IN+200),ab iz ie)]⟩,⟨bc "list.__getitem__" [.ref (W+200),.int i tk],aV (.int x t2),[((W+200),ab ws we)]⟩,⟨bc "int.__lt__" [.int c (tk+3),.int x t2],aB r,[]⟩],⟨.pure (.again (eC F sy [mo F,ik F] it acc D)),[],[pR it (i+1) (left-1) 1,(D+200,jd (PB b w) true "n" (if vv then dk else tk+1) (.int i tk)),pC (F+2) (.ref (W+200)),pL W ws we,pC (F+1) (.ref (T+200)),pL T ts te,pL acc (av.push (.bool r)) (bU av (.bool r) ae),pL IN iz ie],n+200,tk+4⟩,[⟨bc "range_iterator.__next__" [.ref (it+200)],iF (it+200) i left 1,[((it+200),bL i left ((1:Nat):Int))]⟩,⟨bc "list.append" [.ref (acc+200),.bool (r)],b5 (acc+200) (.bool r),[((acc+200),ab av ae)]⟩]⟩
theorem Dy:SK b w (zA b vv w F it acc D n tk ae W we T te IN ie dk t2 ws ts iz av dv i left c x r):=by apply bq2 b vv;kernel_rfl
end
abbrev zB (b:Bool)(w:World)(F it acc D n tk:Nat)(i left:Int):SD:=⟨[],[ac,.x (nv) [0],.a,.a,au],[],⟨aA (eC F sy [mo F,ik F] it acc D),[],[pR it i left 1],n+200,tk⟩,
 [],⟨.pure (.done .next),[],[],n+202,tk⟩,[⟨bc "range_iterator.__next__" [.ref (it+200)],nv,[((it+200),bL i left ((1:Nat):Int))]⟩]⟩
theorem Dz (b:Bool)(w:World)(F it acc D n tk:Nat)(i left:Int):SK b w (zB b w F it acc D n tk i left):=by apply bq1 b;kernel_rfl
section
variable(b:Bool)(w:World)(F:Nat)(X:Fv)(n tk:Nat)(n2 tk2 dk:Nat)(dv:Value)
abbrev HM:SD:=⟨[],[ac,ac,bi],[],gC (oa b w F X n tk) (.ok .next) [(n+3+200,jd (PB b w) true "n" dk dv)] (n2+200) tk2,
 [],⟨.pure (.done (.ret (.ref (n+202)))),[],[],n2+200,tk2⟩,[]⟩
theorem DA:SK b w (HM b w F X n tk n2 tk2 dk dv):=by apply bq1 b;kernel_rfl
end
end Mine

namespace Mine
open PySem PySem.Builtin PyProof.Rows
section
variable{b:Bool}{w:World}{B:Bx (KL (PB b w))}{A:Around}{s:Shared}{R:Result->aP}{Rm:aK}
theorem aa.upd {K:Nat->Option Obj}{s:Shared}{a:Addr}{o:Obj}{st:aK}{nx tok:Nat}(I:aa K s ((a,o)::st) nx tok)(f:Obj->Obj)(hf:(f o).isFreed=false):aa K {s with heap:=s.heap.update a f} ((a,f o)::st) nx tok:=
 I.update (i:=0) (p:=(a,o)) (f:=f) rfl hf
theorem zC (acc:aN)(e:Nat)(x:Value):Obj.mapSeq (·.push x) (ab acc e)=ab (acc.push x) (bU acc x e):=rfl
theorem DB {lv:Nat}(hA:ad lv A)(hlv:lv<=13){l it S ep:Nat}{es:Array (Int×Value)}{t:SetTable}{order:List Value}(hf:t.fits es.size=true)(h64:order.length<=64) :
  ∀(left i:Nat) (f:Value) (acc:aN) (e n tk:Nat) (tp:aK) (s:Shared),i+left=order.length->ig (WB b w) es ep t (S+200) tp f order i->acc.toList=order.take i ->
  aa B.f s ([(it+200,b9 f (i:Int) (S+200) es.size ep),xE S es ep t,pL l acc e]++(tp++Rm)) (n+200) tk ->
  (∀(s':Shared) (n' tk' e':Nat),aa B.f s' ([pL l order.toArray e']++Rm) (n'+200) tk'->bZ s s'->R (.ok (.ret (.ref (l+200)))) s') ->
  codeAny (Mo PW (WB b w)) A (nU l it) R s:=by
 have l5:2000<=sizeLine:=by decide +kernel
 intro left
 induction left with
 | zero =>
  intro i f acc e n tk tp s hi hS hacc I h
  have hin:order[i]?=none:=by simp;lia
  have ea:acc=order.toArray:=by apply Array.ext';rw[hacc,Ol (by lia)]
  refine codeAny_builtin F.entry_extend_loop ?_
  rw[Around.under_plainId F.plain_extend_loop _]
  show wpAny _ A.in1 (pyNext (.ref (it+200)) >>= _) _ _ s
  rcases hS.stop (prog:=PW) (K:=KL (PB b w)) (it:=it+200) hf hin with q|⟨tu,ps,rfl,q⟩
  ·refine wpAny_bind (bN (rF (hA.in1 (by lia)) (CW b w n tk it S i 0 ep 0 (es.size:Int) f .none es t #[]) nP (fc ⟨q,bu⟩) (R:=[pL l acc e]++(tp++Rm)) I λs1 I1 k1=>ap (wpAny_pure ?_)))
   have J:=I1.ord 2 [1]
   refine h s1 (n+2) tk e ?_ k1
   rw[<-ea]
   exact J.sub (QB (Ou tp Rm) _)
  ·have J0:aa B.f s ([(it+200,b9 f (i:Int) (S+200) es.size ep),xE S es ep t,(tu,gZ ps)]++([pL l acc e]++Rm)) (n+200) tk:=I.ord 4 [0,1,3,2]
   refine wpAny_bind (bN (rF (hA.in1 (by lia)) (CX b w n tk it S i 0 ep tu (es.size:Int) f .none es t ps) nP (fc ⟨q,bu⟩) J0 λs1 I1 k1=>ap (wpAny_pure ?_)))
   have J:=I1.ord 2 [1]
   refine h s1 (n+2) tk e ?_ k1
   rw[<-ea]
   exact J
 | succ left ih =>
  intro i f acc e n tk tp s hi hS hacc I h
  with_reducible refine gx (l:=order) (i:=i) (by lia) λx hx=>?_
  have hal:acc.size=i:=by
   have:=congrArg N9 hacc
   rw[OR,OB]at this;lia
  have hacc':(acc.push x).toList=order.take (i+1):=by rw[O9,hacc,OT,hx];rfl
  refine codeAny_builtin F.entry_extend_loop ?_
  rw[Around.under_plainId F.plain_extend_loop _]
  show wpAny _ A.in1 (pyNext (.ref (it+200)) >>= _) _ _ s
  have fin:∀(s1:Shared) (f':Value) (tp':aK) (n1 tk1:Nat),ig (WB b w) es ep t (S+200) tp' f' order (i+1)->aa B.f s1 ([(it+200,b9 f' ((i:Int)+1) (S+200) es.size ep),xE S es ep t,pL l acc e]++(tp'++Rm)) (n1+200) tk1->bZ s s1 ->
    wpAny (Mo PW (WB b w)) A.in1 (updateSeq (l+200) (·.push x) >>= λ_=>again (nU l it)) (λfin s'=>match fin with|.done f=>R (.ok f) s'|.again c'=>c'.quiet=true/\codeAny (Mo PW (WB b w)) A c' R s') (λe s'=>R (.error e) s') s1:=by
   intro s1 f' tp' n1 tk1 hS1 I1 k1
   have J1:aa B.f s1 ((pL l acc e)::([(it+200,b9 f' ((i:Int)+1) (S+200) es.size ep),xE S es ep t]++(tp'++Rm))) (n1+200) tk1:=I1.ord 3 [2,0,1]
   have ho:=J1.has _ (.head _)
   refine wpAny_bind (wpAny_updateSeq ho rfl ?_ (by lia) (by show(acc.push x).size<=_;rw[QQ];lia))
   refine wpAny_pure ⟨plainId_quiet F.plain_extend_loop _,?_⟩
   have J2:=J1.upd (Obj.mapSeq (·.push x)) rfl
   rw[zC]at J2
   have J3:aa B.f {s1 with heap:=s1.heap.update (l+200) (Obj.mapSeq (·.push x))} ([(it+200,b9 f' ((i+1:Nat):Int) (S+200) es.size ep),xE S es ep t,pL l (acc.push x) (bU acc x e)]++(tp'++Rm)) (n1+200) tk1:=J2.ord 3 [1,2,0]
   exact ih (i+1) f' (acc.push x) _ n1 tk1 tp' _ (by lia) hS1 hacc' J3 λs' n' tk' e' q1 q2=>h s' n' tk' e' q1 (k1.trans ⟨q2.gens,q2.drawn,q2.os⟩)
  rcases hS.next (prog:=PW) (K:=KL (PB b w)) (it:=it+200) hf hx with⟨nxt,hS1,q⟩|⟨tu,ps,rfl,hS1,q⟩
  ·refine wpAny_bind (bN (rF (hA.in1 (by lia)) (CU b w n tk it S i nxt ep 0 (es.size:Int) f x es t #[]) nP (fc ⟨q,bu⟩) (R:=[pL l acc e]++(tp++Rm)) I λs1 I1 k1=>ap ?_))
   exact fin s1 _ tp n tk hS1 I1 k1
  ·have J0:aa B.f s ([(it+200,b9 f (i:Int) (S+200) es.size ep),xE S es ep t,(tu,gZ ps)]++([pL l acc e]++Rm)) (n+200) tk:=I.ord 4 [0,1,3,2]
   refine wpAny_bind (bN (rF (hA.in1 (by lia)) (CV b w n tk it S i 0 ep tu (es.size:Int) f x es t ps) nP (fc ⟨q,bu⟩) J0 λs1 I1 k1=>ap ?_))
   exact fin s1 _ [(tu,gZ ps)] n tk hS1 (I1.ord 4 [0,1,3,2]) k1
end
theorem qB {α β:Type}{f:α->β}{g:β->α}(hg:∀x,g (f x)=x){L:List α}{o:List β}(h:o.Perm (L.map f)):∃L':List α,L'.Perm L/\o=L'.map f:=by
 refine⟨o.map g,?_,?_⟩
 ·have:=h.map g
  rw[OL,show g∘f=_root_.id from funext hg,Qp]at this
  exact this
 ·rw[OL]
  refine(List.map_id' o).symm.trans (Qk λv hv=>?_)
  obtain⟨x,_,rfl⟩:=NL.mp (h.mem_iff.mp hv)
  show f x=f (g (f x))
  rw[hg]
theorem Kb {α:Type}(X Y Z:List α)(c:α):((X++Y)++Z++[c]).Perm (X++(c::(Z++Y))):=by
 rw[NP,NP]
 refine NQ X ?_
 refine OW.trans ?_
 rw[NP]
 exact OQ
noncomputable def Kc:Value->Tx
 | .str x t=>(x,t)
 | _=>default
theorem uS:∀L:List Tx,StrsAre (bK L) (L.map (·.1))
 | []=>.nil
 | x::r=>.cons x.1 x.2 (uS r)
theorem aa.pushL {K:Nat->Option Obj}{s:Shared}{o:Obj}{st:aK}{nx tok:Nat}(I:aa K s st nx tok)(hf:o.isFreed=false):aa K {s with heap:=s.heap.push o} ((nx,o)::st) (nx+1) tok:=by
 have:=I.push hf
 rw[gu]at this
 exact this.perm OW
section
variable{b:Bool}{w:World}{B:Bx (KL (PB b w))}{A:Around}{s:Shared}{R:Result->aP}{Rm:aK}
theorem aa.sorted {a:Nat}{vs:List Value}{e n tk:Nat}{out:aN}(I:aa B.f s ((pL a vs.toArray e)::Rm) (n+200) tk):∃e',aa B.f {s with heap:=sortedHeap s.heap (a+200) vs out} ([pL a out e']++Rm) (n+2+200) tk:=by
 have J1:=I.upd (Obj.mapSeq λ_=>#[]) rfl
 have J2:=J1.pushL (o:=seqObj "tuple" vs.toArray 0) rfl
 have J3:=J2.pushL (o:=seqObj "list" #[] 0) rfl
 have J4:=J3.bra [2]
 have J5:=aa.upd (a:=a+200) (o:=(Obj.mapSeq λ_=>#[]) (ab vs.toArray e)) J4 (Obj.mapSeq λ_=>out) rfl
 have J6:=J5.ord 3 [0]
 exact⟨_,J6⟩
theorem sI {lv:Nat}(hA:ad lv A)(hlv:lv<=13){S:Nat}{es:Array (Int×Value)}{ep:Nat}{t:SetTable}{L:List Tx}(hS:f6 PW (WB b w) (cJ es ep t) L)(hf:t.fits es.size=true)(h64:L.length<=64){n tk:Nat}{s1:Shared}(I1:aa B.f s1 ([xE S es ep t]++Rm) (n+200) tk)
  {Q:List Value->aP} {E:Value->aP} (h:∀(s7:Shared) (order:List Value) (n7 tk7 e7:Nat),order.length<=64->order.Perm (bK L)->aa B.f s7 ([pL n order.toArray e7]++Rm) (n7+200) tk7->mn s1 s7->Q order s7) :
  wpAny (Mo PW (WB b w)) A (collect (.ref (S+200))) Q E s1:=by
 have l5:2000<=sizeLine:=by decide +kernel
 unfold collect
 refine wpAny_bind (wpAny_runValue (codeAny_builtin F.entry_proto_collect ?_))
 rw[Around.under_plainId F.plain_proto_collect _]
 show wpAny _ A.in1 (newList [] >>= λl=>again (.builtin "list.__iadd__" ⟨[l,.ref (S+200)],[]⟩)) _ _ s1
 refine wpAny_bind (wpAny_newObj_type ?_)
 have e1:s1.heap.objs.size=n+200:=I1.nx
 have J1:=I1.pushL (o:=ab #[] 0) rfl
 refine wpAny_pure ⟨plainId_quiet F.plain_list_iadd _,codeAny_builtin F.entry_list_iadd ?_⟩
 rw[Around.under_plainId F.plain_list_iadd _]
 rw[e1]
 with_reducible refine nm ({s1 with heap:=s1.heap.push (ab #[] 0)}) λs2 hs2=>?_
 rw[<-hs2]at J1
 have k2:bZ s1 s2:=by rw[hs2];exact⟨rfl,rfl,rfl⟩
 show wpAny _ A.in1 (Builtin.List.listExtendWith (.ref (n+200)) (.ref (S+200)) (.ref (n+200))) _ _ {s1 with heap:=s1.heap.push (ab #[] 0)}
 rw[<-hs2]
 unfold Builtin.List.listExtendWith
 have nSn:S+200≠n+200:=λq=>by
  have:=(Ob.mp J1.nodup).1
  exact this (by rw[<-q];exact .head _)
 have hT:s2.TypeIs (.ref (S+200)) "set":=⟨_,J1.has _ (.tail _ (.head _)),rfl⟩
 refine wpAny_bind (wpAny_typeOf hT ?_)
 have h1:Builtin.List.listSameRef (.ref (n+200)) (.ref (S+200))=false:=by simp[Builtin.List.listSameRef];lia
 have h2:(Value.type "set" == Value.type "list")=false:=by decide
 have h3:(Value.type "set" == Value.type "tuple")=false:=by decide
 simp only[h1,h2,h3,Bool.or_false,Pi,if_false]
 refine wpAny_bind (wpAny_pyIter_slot hT F.slot_set_iter (wpAny_call ?_))
 refine mm (S:=S+200) hS J1 (.tail _ (.head _)) ?_
 intro s3 tp f order it nx' hSi hord I3 hge hg hos
 have oo:∃it',it=it'+200:=⟨it-200,by have:n+200+1<=it:=hge;lia⟩
 obtain⟨it',rfl⟩:=oo
 have k3:mn s2 s3:=⟨hg,hos⟩
 have hit:=I3.has (it'+200,b9 f 0 (S+200) es.size ep) (NK.mpr (.inr (.head _)))
 refine⟨"set_iterator",_,⟨_,hit,rfl⟩,bp.lookup,?_⟩
 have hlen:order.length<=64:=by have:=hord.length_eq;rw[NM]at this;lia
 have oo:∃n3,nx'=n3+200:=⟨nx'-200,by have:=I3.lt (p:=(it'+200,b9 f 0 (S+200) es.size ep)) (NK.mpr (.inr (.head _)));have h5:it'+200<nx':=this;lia⟩
 obtain⟨n3,hn3⟩:=oo
 rw[hn3]at I3
 have J3':aa B.f s3 ([pL n #[] 0,xE S es ep t,(it'+200,b9 f ((0:Nat):Int) (S+200) es.size ep)]++(tp++Rm)) (n3+200) tk:=I3.perm (Kb [pL n #[] 0,xE S es ep t] Rm tp (it'+200,b9 f ((0:Nat):Int) (S+200) es.size ep))
 have J3:aa B.f s3 ([xE S es ep t]++([pL n #[] 0,(it'+200,b9 f ((0:Nat):Int) (S+200) es.size ep)]++(tp++Rm))) (n3+200) tk:=J3'.ord 3 [1,0,2]
 have hA2:ad (lv+1) A.in1:=hA.in1 (by lia)
 refine wpAny_bind (wpAny_holding (iN (rF hA2 (yT b w n3 tk S ep es t) nP nP J3 λs4 I4 k4=>ap ?_)))
 show wpAny _ A.in1 (rule "list.extend.makes-room" >>= λ_=>(updateSeq (n+200) (·.push .none) >>= λ_=>updateSeq (n+200) (·.pop)) >>= λ_=>again (nU n it')) _ _ s4
 refine wpAny_bind (wpAny_rule (wpAny_bind ?_))
 have J4:aa B.f s4 ((pL n #[] 0)::([(it'+200,b9 f ((0:Nat):Int) (S+200) es.size ep),xE S es ep t]++(tp++Rm))) (n3+200) tk:=I4.ord 3 [1,2,0]
 refine wpAny_bind (wpAny_updateSeq (J4.has _ (.head _)) rfl ?_)
 have J5:=J4.upd (Obj.mapSeq (·.push .none)) rfl
 refine wpAny_updateSeq (J5.has _ (.head _)) rfl ?_
 have J6:=J5.upd (Obj.mapSeq (·.pop)) rfl
 with_reducible refine nm ({s4 with heap:=(s4.heap.update (n+200) (Obj.mapSeq (·.push .none))).update (n+200) (Obj.mapSeq (·.pop))}:Shared) λs6 hs6=>?_
 have k6:bZ s4 s6:=by rw[hs6];exact⟨rfl,rfl,rfl⟩
 obtain⟨e6,J7⟩:∃e6,aa B.f s6 ([(it'+200,b9 f ((0:Nat):Int) (S+200) es.size ep),xE S es ep t,pL n #[] e6]++(tp++Rm)) (n3+200) tk:=by
  rw[hs6]
  exact⟨_,J6.ord 3 [1,2,0]⟩
 refine wpAny_pure ⟨plainId_quiet F.plain_extend_loop _,?_⟩
 show codeAny _ _ (nU n it') _ {s4 with heap:=(s4.heap.update (n+200) (Obj.mapSeq (·.push .none))).update (n+200) (Obj.mapSeq (·.pop))}
 rw[<-hs6]
 refine DB hA hlv hf hlen order.length 0 f #[] e6 n3 tk tp s6 (by lia) hSi rfl J7 ?_
 intro s7 n7 tk7 e7 I7 k7
 show wpAny _ A (load (n+200) >>= _) _ _ s7
 refine wpAny_bind (wpAny_load (I7.has _ (.head _)) ?_)
 show wpAny _ A (pure order) _ _ s7
 exact wpAny_pure (h s7 order n7 tk7 e7 hlen hord I7 (k2.ao.trans (k3.trans (k4.ao.trans (k6.ao.trans k7.ao)))))
inductive Gn (b:Bool)(w:World)(B:Bx (KL (PB b w)))(s:Shared)(Rm:aK)(L:List Tx)(r:Result)(s':Shared):Prop
 | mk (a e n' tk':Nat) (L':List Tx) (h1:r=.ok (.ret (.ref (a+200)))) (h2:L'.Perm L) (h3:aa B.f s' ([pL a (bK L').toArray e]++Rm) (n'+200) tk') (h4:mn s s'):Gn b w B s Rm L r s'
theorem DC {lv:Nat}(hA:ad lv A)(hlv:lv<=9){S:Nat}{o:Obj}{L:List Tx}(hS:f6 PW (WB b w) o L)(h64:L.length<=64){n tk:Nat}(I:aa B.f s ([(S+200,o)]++Rm) (n+200) tk) :
  codeAny (Mo PW (WB b w)) A (ij S) (Gn b w B s Rm L) s:=by
 obtain⟨es,ep,t,rfl,hf,hled,hpl,hel,hperm⟩:=hS.has
 have l5:2000<=sizeLine:=by decide +kernel
 refine e8 ?_
 have hA0:ad (lv+1) (A.under (ij S)):=hA.under (by lia) rfl
 refine Nn hA0 (st:=[]) (st':=[]) (C2 b w n tk S) nP nP I λs1 I1 k1=>?_
 refine λ_ _ _=>⟨by rfl,?_⟩
 refine codeAny_builtin entry_sorted ?_
 rw[Around.under_plainId plain_sorted _]
 have hA1:ad (lv+1) A.in1:=hA.in1 (by lia)
 show wpAny _ A.in1 (Builtin.«sorted» ⟨[.ref (S+200)],[]⟩) _ _ s1
 unfold Builtin.«sorted»
 refine wpAny_bind (m:=checkCount "sorted" 1 1 _) (wpAny_pure ?_)
 refine wpAny_bind (sI hA1 (by lia) hS hf h64 I1 λs7 order n7 tk7 e7 hlen hord I7 k7=>?_)
 obtain⟨L',hL',ho'⟩:=qB (f:=λp:Tx=>Value.str p.1 p.2) (g:=Kc) (λ_=>rfl) hord
 have ho2:order=bK L':=ho'
 have e7':s7.heap.objs.size=n7+200:=I7.nx
 have big2:order.toArray.size<=sizeLine:=by simp;lia
 refine wpAny_bind (wpAny_newObj_type ?_ (by size_fits))
 rw[e7']
 have J8:=I7.pushL (o:=ab order.toArray 0) rfl
 with_reducible refine nm ({s7 with heap:=s7.heap.push (ab order.toArray 0)}) λs8 hs8=>?_
 have k8:bZ s7 s8:=by rw[hs8];exact⟨rfl,rfl,rfl⟩
 rw[<-hs8]at J8
 show wpAny _ A.in1 (holding [Value.ref (n7+200)] (call (.builtin "list.sort") [.ref (n7+200)] []) >>= λ_=>ret (.ref (n7+200))) _ _ {s7 with heap:=s7.heap.push (ab order.toArray 0)}
 rw[<-hs8]
 have hoL:=J8.has _ (.head _)
 refine wpAny_bind (wpAny_holding (wpAny_call_entry slot_list_sort ⟨_,hoL,rfl⟩ entry_list_sort (wn hoL (by rw[ho2];exact uS L') hlen λout hp=>⟨_,rfl,?_⟩) (args_list_sort _)))
 obtain⟨e9,I9⟩:=aa.sorted (out:=out) (n:=n7+1) J8
 have hp2:out.toList.Perm (bK L'):=ho2▸hp
 obtain⟨L2,hL2,ho3⟩:=qB (f:=λp:Tx=>Value.str p.1 p.2) (g:=Kc) (λ_=>rfl) hp2
 have ho4:out=(bK L2).toArray:=by apply Array.ext';exact ho3
 rw[ho4]at I9 ⊢
 refine wpAny_pure ⟨n7,e9,n7+1+2,tk7,L2,rfl,hL2.trans hL',?_,?_⟩
 ·exact I9.ord 2 [0]
 ·exact⟨by rw[<-k1.gens,<-k7.gens,<-k8.gens],by rw[<-k1.os,<-k7.os,<-k8.os]⟩
end
end Mine

namespace Mine
open PySem PyProof.Rows
def tL (L:List Tx):aN:=(bK L).toArray
theorem cU (L:List Tx)(x:Str)(t:Nat):(tL L).push (.str x t)=tL (L++[(x,t)]):=by simp[tL,bK]
theorem aJ (L:List Tx):(tL L).size=L.length:=by simp[tL,bK]
theorem cj {L:List Tx}{i:Nat}{p:Tx}(h:L[i]?=some p):(tL L)[i]?=some (.str p.1 p.2):=by simp[tL,bK,h]
theorem jB (l:List (Nat×Nat))(x t:Nat):(aO l).push (.int (x:Int) t)=aO (l++[(x,t)]):=by simp[aO]
theorem j8 {ps:List (Nat×Nat)}{i:Nat}{p:Nat×Nat}(h:ps[i]?=some p):(aO ps)[i]?=some (.int (p.1:Int) p.2):=by simp[aO,h]
theorem bt {α:Type}{l:List α}{i:Nat}{x:α}(h:l[i]?=some x):l.take (i+1)=l.take i++[x]:=by rw[OT,h];rfl
noncomputable def cW (d:Nat)(x:Tx):Bool:=decide (x.1.length<=d)
theorem ob:nX=jY nX:=by kernel_rfl
theorem oc:sv=jY sv:=by kernel_rfl
theorem og:sy=jY sy:=by kernel_rfl
theorem HN {a m:Nat}(h:a<=m)(e:Nat.ble (m+1) (2^40)=true):a<2^40:=Os (Qy h) (NY e)
theorem uT {d x n:Nat}(h:d<n+1)(h1:1<=x)(hx:x<=d):d-x<n:=Os (O3 (Os h1 hx) h1) (PC h)
theorem Lq {x d n:Nat}(hx:x<=d)(h:d<=n)(e:Nat.ble (n+1) (2^40)=true):x<2^40:=HN (NU hx h) e
theorem Kd {x d:Nat}(h:x<=d):(d:Int)-(x:Int)=((d-x:Nat):Int):=(Int.ofNat_sub h).symm
section
variable{b:Bool}{w:World}{B:Bx (KL (PB b w))}{A:Around}{s:Shared}{Q:Result->aP}{R:aK}
theorem zD {lv:Nat}(hA:ad lv A){F it acc D S se d td:Nat}{C:List Tx}(h9:C.length<=100)(hz:∀p∈C,p.1.length<=1000) :
  ∀(left i:Nat) (vv:Bool) (n tk ae dk:Nat) (dv:Value) (s:Shared),i+left=C.length->vv=decide (0<i) ->
  aa B.f s ([pI it (S+200) (i:Int),pL S (tL C) se,c5 b w D vv dk dv,fG (F+3) (d:Int) td,pL acc (tL ((C.take i).filter (cW d))) ae]++R) (n+200) tk ->
  (∀(s':Shared) (n' tk' ae' dk':Nat) (dv':Value),aa B.f s' ([pL S (tL C) se,c5 b w D (decide (0<C.length)) dk' dv',fG (F+3) (d:Int) td,pL acc (tL (C.filter (cW d))) ae']++R) (n'+200) tk'->bZ s s'->Q (.ok .next) s') ->
  codeAny (Mo PW (WB b w)) A (eC F nX [d9 F] it acc D) Q s:=by
 intro left
 induction left with
 | zero =>
  intro i vv n tk ae dk dv s hi hvv I h
  refine aF (a8 ob) ?_
  have e:i=C.length:=by lia
  subst hvv
  subst e
  refine rF hA (De b w F it acc D n tk C.length S se (tL C)) nP (fc ⟨aU (by rw[N8,aJ];lia),bu⟩) (R:=[c5 b w D (decide (0<C.length)) dk dv,fG (F+3) (d:Int) td,pL acc (tL ((C.take C.length).filter (cW d))) ae]++R) I λs1 I1 k1=>?_
  all_goals try dsimp only[zb]at I1
  rw[Om]at I1
  exact λ_ _ _=>h s1 _ _ ae dk dv I1 k1
 | succ left ih =>
  intro i vv n tk ae dk dv s hi hvv I h
  with_reducible refine gx (l:=C) (i:=i) (by lia) λg hg=>?_
  have hx:=hz g (NS hg)
  have hal:((C.take i).filter (cW d)).length<=100:=by
   have:=Pk (cW d) (C.take i)
   rw[OR]at this;lia
  refine aF (a8 ob) ?_
  have p1:ak PW (WB b w) (KL (PB b w)) 9000 ⟨bc "len" [.str g.1 g.2],aL (g.1.length:Int),[]⟩:=bC rfl (by lia)
  by_cases hf:g.1.length<=d
  ·have hfit:cW d g=true:=decide_eq_true hf
   refine rF hA (Db b vv w F it acc D n tk ae i S se td dk g.2 (tL C) (tL ((C.take i).filter (cW d))) dv g.1 (d:Int) (g.1.length:Int))
    (fc ⟨p1,fc ⟨cI (decide_eq_true (by lia)),bu⟩⟩) (fc ⟨aH (cj hg),fc ⟨aD (by rw[aJ];lia),bu⟩⟩) I λs1 I1 k1=>?_
   dsimp only[y0]at I1
   have e2:(C.take (i+1)).filter (cW d)=(C.take i).filter (cW d)++[(g.1,g.2)]:=by rw[bt hg,P1];simp[hfit]
   rw[cU,<-e2,show(i:Int)+1=((i+1:Nat):Int) by lia]at I1
   exact λ_ _ _=>⟨by rfl,ih (i+1) true n _ _ _ _ s1 (by lia) (by simp) I1 λs' n' tk' ae' dk' dv' q1 q2=>h s' n' tk' ae' dk' dv' q1 (k1.trans q2)⟩
  ·have hfit:cW d g=false:=decide_eq_false hf
   refine rF hA (Dd b vv w F it acc D n tk ae i S se td dk g.2 (tL C) (tL ((C.take i).filter (cW d))) dv g.1 (d:Int) (g.1.length:Int))
    (fc ⟨p1,fc ⟨cI (decide_eq_false (by lia)),bu⟩⟩) (fc ⟨aH (cj hg),bu⟩) I λs1 I1 k1=>?_
   dsimp only[za]at I1
   have e2:(C.take (i+1)).filter (cW d)=(C.take i).filter (cW d):=by rw[bt hg,P1];simp[hfit]
   rw[<-e2,show(i:Int)+1=((i+1:Nat):Int) by lia]at I1
   exact λ_ _ _=>⟨by rfl,ih (i+1) true n _ _ _ _ s1 (by lia) (by simp) I1 λs' n' tk' ae' dk' dv' q1 q2=>h s' n' tk' ae' dk' dv' q1 (k1.trans q2)⟩
theorem zE {lv:Nat}(hA:ad lv A){F it acc D S se d td W we:Nat}{C:List Tx}{ws:List (Nat×Nat)}(h9:C.length<=100)(hz:∀p∈C,p.1.length<=d)(hd:d<=1000)(hws:d<ws.length+1)(hw1:∀p∈C,1<=p.1.length) :
  ∀(left i:Nat) (vv:Bool) (n tk ae dk:Nat) (dv:Value) (av:List (Nat×Nat)) (s:Shared),i+left=C.length->vv=decide (0<i)->dh av=(C.take i).map (λp=>(dh ws).getD (d-p.1.length) 0) ->
  aa B.f s ([pI it (S+200) (i:Int),pL S (tL C) se,c5 b w D vv dk dv,fG (F+3) (d:Int) td,pC (F+2) (.ref (W+200)),pL W (aO ws) we,pL acc (aO av) ae]++R) (n+200) tk ->
  (∀(s':Shared) (n' tk' ae' dk':Nat) (dv':Value) (av':List (Nat×Nat)),dh av'=C.map (λp=>(dh ws).getD (d-p.1.length) 0)->aa B.f s' ([pL S (tL C) se,c5 b w D (decide (0<C.length)) dk' dv',fG (F+3) (d:Int) td,pC (F+2) (.ref (W+200)),pL W (aO ws) we,pL acc (aO av') ae']++R) (n'+200) tk'->bZ s s'->Q (.ok .next) s') ->
  codeAny (Mo PW (WB b w)) A (eC F sv [mo F,d9 F] it acc D) Q s:=by
 intro left
 induction left with
 | zero =>
  intro i vv n tk ae dk dv av s hi hvv hav I h
  refine aF (a8 oc) ?_
  have e:i=C.length:=hi
  subst hvv
  subst e
  refine rF hA (Di b w F it acc D n tk C.length S se (tL C)) nP (fc ⟨aU (by rw[N8,aJ];lia),bu⟩) (R:=[c5 b w D (decide (0<C.length)) dk dv,fG (F+3) (d:Int) td,pC (F+2) (.ref (W+200)),pL W (aO ws) we,pL acc (aO av) ae]++R) I λs1 I1 k1=>?_
  all_goals try dsimp only[zg]at I1
  rw[Om]at hav
  exact λ_ _ _=>h s1 _ _ ae dk dv av hav I1 k1
 | succ left ih =>
  intro i vv n tk ae dk dv av s hi hvv hav I h
  with_reducible refine gx (l:=C) (i:=i) (by lia) λg hg=>?_
  have hgm:=NS hg
  have hx:=hz g hgm
  have hx1:=hw1 g hgm
  have hal:av.length<=100:=by have:=congrArg N9 hav;simp[dh]at this;lia
  have oo:∃p,ws[d-g.1.length]?=some p:=⟨_,NZ (uT hws hx1 hx)⟩
  obtain⟨p,hp⟩:=oo
  refine aF (a8 oc) ?_
  refine rF hA (Dh b vv w F it acc D n tk ae i S se td dk g.2 W we p.2 (tL C) (aO av) (aO ws) dv g.1 (d:Int) (g.1.length:Int) ((d-g.1.length:Nat):Int) (p.1:Int))
   (fc ⟨bC rfl (Lq hx hd (by decide)),fc ⟨eJ (Kd hx),fc ⟨aq (j8 hp) (Lq (O2 _ _) hd (by decide)),bu⟩⟩⟩) (fc ⟨aH (cj hg),fc ⟨aD (by rw[eV];lia),bu⟩⟩) I λs1 I1 k1=>?_
  dsimp only[ze]at I1
  rw[jB,show(i:Int)+1=((i+1:Nat):Int)from rfl]at I1
  refine λ_ _ _=>⟨by rfl,ih (i+1) true n _ _ _ _ _ s1 (by lia) (by simp) ?_ I1 λs' n' tk' ae' dk' dv' av' q0 q1 q2=>h s' n' tk' ae' dk' dv' av' q0 q1 (k1.trans q2)⟩
  rw[bt hg,NO,<-hav]
  simp[dh,hp]
end
abbrev kY (e:Rg):Rg:=.ListComp (jA e).1 [⟨(jA e).2.1.target,(jA e).2.1.iter,(jA e).2.1.ifs,0⟩,⟨(jA e).2.2.1.target,(jA e).2.2.1.iter,(jA e).2.2.1.ifs,0⟩] (jA e).2.2.2.1 (jA e).2.2.2.2
theorem cp {A:Around}{e:Rg}(he:e=kY e){k:Nat}{it acc:Value}{env:Env}:A.under (.compLoop e k it acc env)=A:=by
 rw[he];exact Around.under_of_weight (by rfl) (by rfl)
theorem g6 {prog:Program}{w:World}{A:Around}{s:Shared}{e:Rg}(he:e=kY e){it l i:Nat}{acc:Value}{env:Env}{R:Result->aP}(hit:s.heap.get? it=some (ba l (i:Int)))
  (h:codeAny (Mo prog w) A (.compLoop e 0 (.ref it) acc env) R s):codeAny (Mo prog w) A (.compStart e 0 (.ref it) acc env) R s:=by
 rw[he]at h ⊢
 exact codeAny_compStart_list h (wpAny_pyIter_listiter ⟨_,hit,rfl,rfl⟩ h)
theorem jQ {prog:Program}{w:World}{A:Around}{s:Shared}{e:Rg}(he:e=kY e){it l i:Nat}{acc:Value}{env:Env}{R:Result->aP}(hit:s.heap.get? it=some (ba l (i:Int)))
  (h:codeAny (Mo prog w) A (.compLoop e 1 (.ref it) acc env) R s):codeAny (Mo prog w) A (.compStart e 1 (.ref it) acc env) R s:=by
 rw[he]at h ⊢
 refine codeAny_of_tree ?_
 show wpAny _ _ ((compStart (kY e) 1 (.ref it) acc env).onRaise (λx=>do noteFrame x env;standAt theWindowsPlace)) _ _ s
 refine wpAny_notedAt ?_
 unfold compStart
 show wpAny _ _ (ask >>= _) _ _ s
 refine wpAny_bind (wpAny_askSetting (wpAny_ite ?_))
 have h2:∀{Q:Value->aP} {E:Value->aP},Q (.ref it) s->wpAny (Mo prog w) (A.under (.compStart (kY e) 1 (.ref it) acc env)) (pyIter (.ref it)) Q E s:=λhq=>wpAny_pyIter_listiter ⟨_,hit,rfl,rfl⟩ hq
 split
 ·first
   | exact wpAny_bind (wpAny_pure (wpAny_pure (And.intro rfl h)))
   | exact wpAny_pure (And.intro rfl h)
 ·refine wpAny_bind (wpAny_rule ?_)
  exact wpAny_bind (wpAny_standAt (wpAny_bind (h2 (wpAny_pure (And.intro rfl h)))))
theorem gJ:qz=kY qz:=by kernel_rfl
structure Lt where
 (a e:Nat)
 L:List Tx
abbrev Lt.own (g:Lt):Addr×Obj:=(pL g.a (tL g.L) g.e)
noncomputable def aT (l:List Lt):aN:=(l.map λg=>Value.ref (g.a+200)).toArray
theorem kZ (l:List Lt)(g:Lt):(aT l).push (.ref (g.a+200))=aT (l++[g]):=by simp[aT]
theorem dg (l:List Lt):(aT l).size=l.length:=by simp[aT]
theorem il {l:List Lt}{i:Nat}{g:Lt}(h:l[i]?=some g):(aT l)[i]?=some (.ref (g.a+200)):=by simp[aT,h]
theorem ck (x y:Str):(x++y).length=x.length+y.length:=by
 show(x.cps++y.cps).size=_
 rw[Array.size_append];rfl
section
variable{b:Bool}{w:World}{B:Bx (KL (PB b w))}{A:Around}{s:Shared}{Q:Result->aP}{R:aK}
theorem Ke {lv:Nat}(hA:ad lv A){F it acc D S se dk tw:Nat}{C:List Tx}{word:Str}{base:List Str}(h9:C.length<=100)(hb:base.length<=400)(hz:∀p∈C,p.1.length+word.length<=1000) :
  ∀(left i:Nat) (vv:Bool) (n tk ae dk2:Nat) (v2:Value) (av:List Tx) (s:Shared),i+left=C.length->av.map (·.1)=base++(C.take i).map (λp=>p.1++word) ->
  aa B.f s ([pI it (S+200) (i:Int),pL S (tL C) se,qA b w D true vv dk dk2 (.str word tw) v2,pL acc (tL av) ae]++R) (n+200) tk ->
  (∀(s':Shared) (n' tk' ae' dk2':Nat) (v2':Value) (vv':Bool) (av':List Tx),av'.map (·.1)=base++C.map (λp=>p.1++word)->aa B.f s' ([pL S (tL C) se,qA b w D true vv' dk dk2' (.str word tw) v2',pL acc (tL av') ae']++R) (n'+200) tk'->bZ s s'->Q (.ok .next) s') ->
  codeAny (Mo PW (WB b w)) A (ga F [ik F,d9 F] 1 it acc D) Q s:=by
 have l5:2000<=sizeLine:=by decide +kernel
 intro left
 induction left with
 | zero =>
  intro i vv n tk ae dk2 v2 av s hi hav I h
  refine aF (cp gJ) ?_
  have e:i=C.length:=by lia
  subst e
  refine rF hA (Dr b w F it acc D n tk C.length S se (tL C)) nP (fc ⟨aU (by rw[N8,aJ];lia),bu⟩) (R:=[qA b w D true vv dk dk2 (.str word tw) v2,pL acc (tL av) ae]++R) I λs1 I1 k1=>?_
  all_goals try dsimp only[zo]at I1
  rw[Om]at hav
  exact λ_ _ _=>h s1 _ _ ae dk2 v2 vv av hav I1 k1
 | succ left ih =>
  intro i vv n tk ae dk2 v2 av s hi hav I h
  with_reducible refine gx (l:=C) (i:=i) (by lia) λg hg=>?_
  have hx:=hz g (NS hg)
  have hal:av.length<=500:=by have:=congrArg N9 hav;simp at this;lia
  refine aF (cp gJ) ?_
  refine rF hA (Dq b vv w F it acc D n tk ae i S se dk dk2 (tL C) (tL av) v2 word g.1 (g.1++word) tw g.2 (xD g.1 word g.2 tw) (BL g.1 word))
   (fc ⟨dq rfl (by rw[ck];lia),bu⟩) (fc ⟨aH (cj hg),fc ⟨aD (by rw[aJ];lia),bu⟩⟩) I λs1 I1 k1=>?_
  dsimp only[zn]at I1
  rw[cU,show(i:Int)+1=((i+1:Nat):Int) by lia]at I1
  refine λ_ _ _=>⟨by rfl,ih (i+1) true n _ _ _ _ _ s1 (by lia) ?_ I1 λs' n' tk' ae' dk' dv' vv' av' q0 q1 q2=>h s' n' tk' ae' dk' dv' vv' av' q0 q1 (k1.trans q2)⟩
  rw[bt hg,NO,NO,hav]
  simp
theorem HO {lv:Nat}(hA:ad lv A)(hlv:lv<=13){F it acc D S se d td T te:Nat}{C:List Tx}{ts:List Lt}(h9:C.length<=3)(hz:∀p∈C,p.1.length<=d)(hw1:∀p∈C,1<=p.1.length)(hd:d<=100)(hts:d<ts.length+1)(hR:∀g∈ts,g.own∈R)(h64:∀g∈ts,g.L.length<=64)(cQ:∀g∈ts,∀p∈g.L,p.1.length<=100) :
  ∀(left i:Nat) (va vb:Bool) (n tk ae dk dk2:Nat) (v v2:Value) (av:List Tx) (s:Shared),i+left=C.length->av.map (·.1)=(C.take i).flatMap (λp=>((ts[d-p.1.length]?).elim [] (·.L)).map λq=>q.1++p.1) ->
  aa B.f s ([pI it (S+200) (i:Int),pL S (tL C) se,qA b w D va vb dk dk2 v v2,fG (F+3) (d:Int) td,pC (F+1) (.ref (T+200)),pL T (aT ts) te,pL acc (tL av) ae]++R) (n+200) tk->(vb=true->va=true) ->
  (∀(s':Shared) (n' tk' ae' dk' dk2':Nat) (v' v2':Value) (va' vb':Bool) (av':List Tx),av'.map (·.1)=C.flatMap (λp=>((ts[d-p.1.length]?).elim [] (·.L)).map λq=>q.1++p.1)->(vb'=true->va'=true)->aa B.f s' ([pL S (tL C) se,qA b w D va' vb' dk' dk2' v' v2',fG (F+3) (d:Int) td,pC (F+1) (.ref (T+200)),pL T (aT ts) te,pL acc (tL av') ae']++R) (n'+200) tk'->bZ s s'->Q (.ok .next) s') ->
  codeAny (Mo PW (WB b w)) A (ga F [ik F,d9 F] 0 it acc D) Q s:=by
 have bound:∀i,((C.take i).flatMap (λp=>((ts[d-p.1.length]?).elim [] (·.L)).map λq=>q.1++p.1)).length<=64*i:=by
  intro i
  induction i with
  | zero=>simp
  | succ i ih =>
   cases hg:C[i]? with
   | none =>
    have e:C.take (i+1)=C.take i:=by rw[OT,hg];simp
    rw[e];lia
   | some g =>
    rw[bt hg,Pc,NR]
    have:(([g].flatMap (λp=>((ts[d-p.1.length]?).elim [] (·.L)).map λq=>q.1++p.1))).length<=64:=by
     simp only[O0,List.flatMap_nil,Oc,NM]
     cases hq:ts[d-g.1.length]? with
     | none=>simp
     | some q=>exact h64 q (NS hq)
    lia
 intro left
 induction left with
 | zero =>
  intro i va vb n tk ae dk dk2 v v2 av s hi hav I hv h
  refine aF (cp gJ) ?_
  have e:i=C.length:=hi
  subst e
  refine rF hA (Dt b w F it acc D n tk C.length S se (tL C)) nP (fc ⟨aU (by rw[N8,aJ];lia),bu⟩) (R:=[qA b w D va vb dk dk2 v v2,fG (F+3) (d:Int) td,pC (F+1) (.ref (T+200)),pL T (aT ts) te,pL acc (tL av) ae]++R) I λs1 I1 k1=>?_
  rw[Om]at hav
  exact λ_ _ _=>h s1 _ _ ae dk dk2 v v2 va vb av hav hv I1 k1
 | succ left ih =>
  intro i va vb n tk ae dk dk2 v v2 av s hi hav I hv h
  with_reducible refine gx (l:=C) (i:=i) (by lia) λg hg=>?_
  have hgm:=NS hg
  have hx:=hz g hgm
  have hx1:=hw1 g hgm
  have oo:∃z,ts[d-g.1.length]?=some z:=⟨_,NZ (uT hts hx1 hx)⟩
  obtain⟨z,hzt⟩:=oo
  have hzm:=NS hzt
  obtain⟨R',hp,J⟩:=I.tk (hR z hzm)
  have J0:aa B.f s ([pI it (S+200) (i:Int),pL S (tL C) se,qA b w D va vb dk dk2 v v2,fG (F+3) (d:Int) td,pC (F+1) (.ref (T+200)),pL T (aT ts) te,z.own]++([pL acc (tL av) ae]++R')) (n+200) tk:=J.ord 8 [0,1,2,3,4,5,7,6]
  refine aF (cp gJ) ?_
  refine fz hA (Dp b va vb w F it acc D n tk i S se T te z.a z.e td dk dk2 (tL C) (aT ts) (tL z.L) v v2 g.1 g.2 (d:Int) (g.1.length:Int) ((d-g.1.length:Nat):Int)) rfl
   (fc ⟨bC rfl (Lq hx hd (by decide)),fc ⟨eJ (Kd hx),fc ⟨aq (il hzt) (Lq (O2 _ _) hd (by decide)),bu⟩⟩⟩) (fc ⟨aH (cj hg),bu⟩) J0 λs1 I1 k1=>?_
  have hbl:=bound i
  rw[<-hav,NM]at hbl
  have J1:aa B.f s1 ([pI n (z.a+200) ((0:Nat):Int),pL z.a (tL z.L) z.e,qA b w D true (va&&vb) (if va then dk else tk) dk2 (.str g.1 g.2) v2,pL acc (tL av) ae]++([pI it (S+200) ((i:Int)+1),pL S (tL C) se,fG (F+3) (d:Int) td,pC (F+1) (.ref (T+200)),pL T (aT ts) te]++R')) (n+1+200) _:=I1.ord 9 [7,6,2,8,0,1,3,4,5]
  refine jQ gJ (J1.has (pI n (z.a+200) ((0:Nat):Int)) (.head _)) ?_
  refine Ke (hA.uq (wF ..)) (base:=av.map (·.1)) (by have:=h64 z hzm;lia) (by rw[NM];lia) (λp hp=>by have:=cQ z hzm p hp;lia) z.L.length 0 (va&&vb) (n+1) _ ae dk2 v2 av s1 (by lia) (by simp) J1 ?_
  intro s2 n2 tk2 ae2 dk22 v22 vv2 av2 hav2 I2 k2
  refine rF hA (Ds b va vb w F it acc D n tk i S se T te z.a z.e td dk dk2 (tL C) (aT ts) (tL z.L) v v2 g.1 g.2 (d:Int) (g.1.length:Int) ((d-g.1.length:Nat):Int) n2 tk2) nP nP I2 λs3 I3 k3=>?_
  have J3:aa B.f s3 ([pI it (S+200) ((i+1:Nat):Int),pL S (tL C) se,qA b w D true vv2 (if va then dk else tk) dk22 (.str g.1 g.2) v22,fG (F+3) (d:Int) td,pC (F+1) (.ref (T+200)),pL T (aT ts) te,pL acc (tL av2) ae2]++(z.own::R')) (n2+200) tk2:=I3.ord 8 [3,4,1,5,6,7,2,0]
  have J4:=J3.pb hp
  refine λ_ _ _=>⟨by rfl,ih (i+1) true vv2 n2 tk2 _ _ _ _ _ _ s3 (by lia) ?_ J4 (λ_=>rfl) λs' n' tk' ae' dk' dk2' v' v2' va' vb' av' q0 q1 q2 q3=>h s' n' tk' ae' dk' dk2' v' v2' va' vb' av' q0 q1 q2 (((k1.trans k2).trans k3).trans q3)⟩
  rw[bt hg,Pc,<-hav,hav2]
  simp[hzt]
end
end Mine

namespace Mine
open PySem
theorem gb {α:Type}[DecidableEq α]:∀{l m:List α},l.Nodup->(∀x∈l,x∈m)->l.length<=m.length
 | [],_,_,_=>OI _
 | x::r,m,h,hs=>by
  obtain⟨h1,h2⟩:=Ob.mp h
  have hx:=hs x (.head _)
  have:=gb (m:=m.erase x) h2 λy hy=>by
   have hyx:y≠x:=λe=>h1 (e▸hy)
   exact(Qg hyx).mpr (hs y (.tail _ hy))
  rw[QC hx]at this
  have hp:0<m.length:=P9 hx
  rw[NV];lia
noncomputable def jC:Nat->List (List Nat)
 | 0=>[[]]
 | n+1=>(jC n).map (102::·)++(jC n).map (105::·)
theorem qC:∀n,(jC n).length=2^n
 | 0=>rfl
 | n+1=>by rw[jC,NR,NM,NM,qC n,Ra];lia
theorem lc:∀(x:List Nat),(∀c∈x,c=102\/c=105)->x∈jC x.length
 | [],_=>.head _
 | c::r,h=>by
  have ih:=lc r λd hd=>h d (.tail _ hd)
  rw[NV,jC,NK,NL,NL]
  rcases h c (.head _)with q|q
  ·exact .inl ⟨r,ih,by rw[q]⟩
  ·exact .inr ⟨r,ih,by rw[q]⟩
def FI (x:Str):Prop:=∀c∈x.cps.toList,c=102\/c=105
theorem mS {l:List Str}{n:Nat}(h:l.Nodup)(hl:∀x∈l,x.length=n/\FI x):l.length<=2^n:=by
 have h1:(l.map (·.cps.toList)).Nodup:=by
  refine List.Pairwise.map _ (R:=(·≠·)) (λa c hac e=>hac ?_) h
  cases a;cases c
  simp only[Str.mk.injEq]
  exact QH.mp e
 have h2:=gb (m:=jC n) h1 λy hy=>by
  obtain⟨x,hx,rfl⟩:=NL.mp hy
  have:=hl x hx
  have e:x.cps.toList.length=n:=by rw[<-this.1];simp[Str.length]
  have h3:=lc x.cps.toList this.2
  rw[e]at h3
  exact h3
 rw[NM,qC]at h2
 exact h2
noncomputable def sJ (W:List Str):Nat->List Nat
 | 0=>[1]
 | n+1=>sJ W n++[((W.filter λw=>decide (w.length<=n+1)).map λw=>(sJ W n).getD (n+1-w.length) 0).sum]
theorem uU (W:List Str):∀n,(sJ W n).length=n+1
 | 0=>rfl
 | n+1=>by rw[sJ,NR,uU W n];rfl
theorem uV (L:List Nat)(c:Nat)(h:∀x∈L,x<=c):L.sum<=L.length*c:=yE L c h
theorem sK {W:List Str}(h3:W.length<=3)(h1:∀w∈W,1<=w.length):∀n,∀x∈sJ W n,x<=3^n
 | 0,x,hx=>by rw[sJ,NN]at hx;rw[hx];exact NT 1
 | n+1,x,hx=>by
  rw[sJ,NK,NN]at hx
  have hp:3^(n+1)=3^n*3:=Ra ..
  rcases hx with hx|rfl
  ·have:=sK h3 h1 n x hx;lia
  ·refine NU (uV _ (3^n) λy hy=>?_) ?_
   ·obtain⟨w,hw,rfl⟩:=NL.mp hy
    rw[Od]
    cases q:(sJ W n)[n+1-w.length]? with
    | none=>exact OI _
    | some z=>exact sK h3 h1 n z (NS q)
   ·rw[NM,hp,Nat.mul_comm]
    have:=Pk (λw:Str=>decide (w.length<=n+1)) W
    exact Qi _ (by lia)
inductive qD (W:List Str)(Ts:List (List Str))(n:Nat)(x:Str):Prop
 | mk (w:Str) (hw:w∈W) (hl:w.length<=n) (M:List Str) (hM:Ts[n-w.length]?=some M) (t:Str) (ht:t∈M) (e:x=t++w)
def sL (W:List Str)(Ts:List (List Str)):Prop:=
 Ts[0]?=some [⟨#[]⟩]/\∀n,n+1<Ts.length->∃N,Ts[n+1]?=some N/\N.Nodup/\∀x,x∈N↔qD W Ts (n+1) x
theorem zF {Ts:List (List Str)}{N:List Str}{n j k:Nat}(hn:Ts.length=n+1)(hj:j<=n)(hk:1<=k):(Ts++[N])[j+1-k]?=Ts[j+1-k]?:=
 Oo (by rw[hn];exact Qy (NU (Nat.sub_le_sub_left hk (j+1)) hj))
theorem sL.snoc {W:List Str}{Ts:List (List Str)}(h:sL W Ts)(h1:∀w∈W,1<=w.length){N:List Str}{n:Nat}(hn:Ts.length=n+1)(hd:N.Nodup)(hm:∀x,x∈N↔qD W Ts (n+1) x):sL W (Ts++[N]):=by
 refine⟨by rw[Oo (hn▸OY n)];exact h.1,λk hk=>?_⟩
 rw[NR,OJ]at hk
 have cong:∀(x:Str) (j:Nat),j<=n->(qD W Ts (j+1) x↔qD W (Ts++[N]) (j+1) x):=λx j hj =>
  ⟨λ⟨w,hw,hl,M,hM,t,ht,e⟩=>⟨w,hw,hl,M,(zF hn hj (h1 w hw)).trans hM,t,ht,e⟩,λ⟨w,hw,hl,M,hM,t,ht,e⟩=>⟨w,hw,hl,M,(zF hn hj (h1 w hw)).symm.trans hM,t,ht,e⟩⟩
 rcases Pt (PC hk)with hkn|e
 ·obtain⟨M,e,h2,h3⟩:=h.2 k hkn
  exact⟨M,(Oo hkn).trans e,h2,λx=>(h3 x).trans (cong x k (ON (Nat.lt_of_succ_lt_succ (show k+1<n+1 from hn▸hkn))))⟩
 ·obtain rfl:k=n:=Nat.succ.inj (e.trans hn)
  exact⟨N,by rw[<-hn,PO (NT _),Rb];rfl,hd,λx=>(hm x).trans (cong x k (NT _))⟩
theorem sL.ok {W:List Str}{Ts:List (List Str)}(h:sL W Ts)(hW:∀w∈W,1<=w.length/\FI w):∀n N,Ts[n]?=some N->N.Nodup/\∀x∈N,x.length=n/\FI x:=by
 intro n
 induction n using PV with
 | ind n ih =>
  intro N hN
  cases n with
  | zero =>
   rw[h.1]at hN
   cases hN
   exact⟨by simp,λx hx=>by rw[NN.mp hx];exact⟨rfl,λc hc=>nomatch hc⟩⟩
  | succ n =>
   obtain⟨N',e,h2,h3⟩:=h.2 n (NW.mp hN).1
   rw[hN]at e
   cases e
   refine⟨h2,λx hx=>?_⟩
   obtain⟨w,hw,hl,M,hM,t,ht,rfl⟩:=(h3 x).mp hx
   have hw1:=hW w hw
   have q:=(ih (n+1-w.length) (O3 (OY n) hw1.1) M hM).2 t ht
   refine⟨by rw[ck,q.1];exact Pv hl,λc hc=>?_⟩
   have hc':c∈t.cps.toList++w.cps.toList:=by rw[<-Oq];exact hc
   rcases NK.mp hc' with r|r
   ·exact q.2 c r
   ·exact hw1.2 c r
end Mine

namespace Mine
open PySem PyProof.Rows
section
variable{b:Bool}{w:World}{B:Bx (KL (PB b w))}{A:Around}{s:Shared}{R:aK}
abbrev oh (P:Params)(F:Nat)(X:Fv)(m:Nat)(C:List Tx)(se d td T te:Nat)(ts:List Lt)(W we:Nat)(ws:List (Nat×Nat)):aK:=
 [(F+200,M5 P X m),pL X.C (tL C) se,fG (F+3) (d:Int) td,pC (F+1) (.ref (T+200)),pL T (aT ts) te,pC (F+2) (.ref (W+200)),pL W (aO ws) we]
theorem Kf {lv:Nat}(hA:ad lv A)(hlv:lv<=13){st:Stmt}(hst:st=xF 0){F n tk se d td T te W we:Nat}{X:Fv}{C:List Tx}{ts:List Lt}{ws:List (Nat×Nat)}{vv:Bool}(hC:0<C.length)(h9:C.length<=100)(hz:∀p∈C,p.1.length<=1000)
  (I:aa B.f s (oh (PB b w) F X (if vv then 3 else 2) C se d td T te ts W we ws++R) (n+200) tk) {Q:Flow->aP} {E:Value->aP}
  (h:∀(s':Shared) (X':Fv) (n' tk' fe:Nat),X'.C=X.C->aa B.f s' (oh (PB b w) F X' 3 C se d td T te ts W we ws++((pL X'.fit (tL (C.filter (cW d))) fe)::R)) (n'+200) tk'->bZ s s'->Q .next s') :
  wpAny (Mo PW (WB b w)) A (exec st (dZ F)) Q E s:=by
 subst hst
 refine aX ?_
 refine fz hA (Da b vv w F X n tk (tL C) se) rfl nP nP I λs1 I1 k1=>?_
 have J1:aa B.f s1 ([pI n (X.C+200) ((0:Nat):Int),pL X.C (tL C) se,c5 b w (n+2) false 0 .none,fG (F+3) (d:Int) td,pL (n+1) (tL ((C.take 0).filter (cW d))) 0]++([fF b w F X (if vv then 3 else 2),pC (F+1) (.ref (T+200)),pL T (aT ts) te,pC (F+2) (.ref (W+200)),pL W (aO ws) we]++R)) (n+3+200) tk:=I1.ord 10 [2,1,4,5,3,0,6,7,8,9]
 refine cx ob (J1.has (pI n (X.C+200) ((0:Nat):Int)) (.head _)) ?_
 refine zD (hA.uq (wA ..)) h9 hz C.length 0 false (n+3) tk 0 0 .none s1 (by lia) rfl J1 ?_
 intro s2 n2 tk2 ae2 dk2 dv2 I2 k2
 rw[decide_eq_true hC]at I2
 have J2:aa B.f s2 ([fF b w F X (if vv then 3 else 2),c5 b w (n+2) true dk2 dv2]++([pL X.C (tL C) se,fG (F+3) (d:Int) td,pC (F+1) (.ref (T+200)),pL T (aT ts) te,pC (F+2) (.ref (W+200)),pL W (aO ws) we,pL (n+1) (tL (C.filter (cW d))) ae2]++R)) (n2+200) tk2:=I2.ord 9 [4,1,0,2,5,6,7,8,3]
 refine rF hA (Df b vv w F X n tk (tL C) se n2 tk2 dk2 dv2) nP nP J2 λs3 I3 k3=>ap ?_
 exact h s3 {X with fit:=n+1,q:=qU X.q 2 (if vv then X.q 2 else tk2)} n2 _ ae2 rfl I3 ((k1.trans k2).trans k3)
theorem Kg {lv:Nat}(hA:ad lv A)(hlv:lv<=13){st:Stmt}(hst:st=xF 1){F n tk se d td T te W we fe:Nat}{X:Fv}{C Fs:List Tx}{ts:List Lt}{ws:List (Nat×Nat)}(h9:Fs.length<=100)(hz:∀p∈Fs,p.1.length<=d)(hd:d<=900)(hws:d<ws.length+1)(hw1:∀p∈Fs,1<=p.1.length)(hwl:ws.length<=900)(hwb:∀p∈ws,p.1<=1000)
  (I:aa B.f s (oh (PB b w) F X 3 C se d td T te ts W we ws++((pL X.fit (tL Fs) fe)::R)) (n+200) tk) {Q:Flow->aP} {E:Value->aP}
  (h:∀(s':Shared) (n' tk' we' t:Nat),aa B.f s' (oh (PB b w) F X 3 C se d td T te ts W we' (ws++[((Fs.map λp=>(dh ws).getD (d-p.1.length) 0).sum,t)])++((pL X.fit (tL Fs) fe)::R)) (n'+200) tk'->bZ s s'->Q .next s') :
  wpAny (Mo PW (WB b w)) A (exec st (dZ F)) Q E s:=by
 subst hst
 refine aX ?_
 have J0:aa B.f s ([fF b w F X 3,pL X.fit (tL Fs) fe,pC (F+2) (.ref (W+200)),pL W (aO ws) we]++([pL X.C (tL C) se,fG (F+3) (d:Int) td,pC (F+1) (.ref (T+200)),pL T (aT ts) te]++R)) (n+200) tk:=I.ord 8 [0,7,5,6,1,2,3,4]
 refine fz hA (Dg b w F X n tk (tL Fs) (aO ws) fe W we) rfl nP nP J0 λs1 I1 k1=>?_
 have J1:aa B.f s1 ([pI n (X.fit+200) ((0:Nat):Int),pL X.fit (tL Fs) fe,c5 b w (n+2) false 0 .none,fG (F+3) (d:Int) td,pC (F+2) (.ref (W+200)),pL W (aO ws) we,pL (n+1) (aO []) 0]++([fF b w F X 3,pL X.C (tL C) se,pC (F+1) (.ref (T+200)),pL T (aT ts) te]++R)) (n+3+200) tk:=I1.ord 11 [4,1,6,8,2,3,5,0,7,9,10]
 refine cx oc (J1.has (pI n (X.fit+200) ((0:Nat):Int)) (.head _)) ?_
 refine zE (hA.uq (wB ..)) h9 hz (by lia) hws hw1 Fs.length 0 false (n+3) tk 0 0 .none [] s1 (by lia) rfl rfl J1 ?_
 intro s2 n2 tk2 ae2 dk2 dv2 av hav I2 k2
 have hal:av.length<=1000:=by have:=congrArg N9 hav;simp[dh]at this;lia
 have hab:∀p∈av,p.1<=1000:=λp hp=>by
  have h1:p.1∈dh av:=NL.mpr ⟨p,hp,rfl⟩
  rw[hav]at h1
  obtain⟨q,_,e⟩:=NL.mp h1
  rw[<-e,Od]
  cases hq:(dh ws)[d-q.1.length]? with
  | none=>exact OI _
  | some z =>
   obtain⟨r,hr,rfl⟩:=NL.mp (NS hq)
   exact hwb r hr
 have fin:∀(s6:Shared) (n6 tk6 t:Nat),aa B.f s6 ([pL W (aO ws) we]++([fF b w F X 3,pL X.C (tL C) se,fG (F+3) (d:Int) td,pC (F+1) (.ref (T+200)),pL T (aT ts) te,pC (F+2) (.ref (W+200)),pL X.fit (tL Fs) fe]++R)) (n6+200) tk6 ->
   aa B.f s6 ([pL W (aO ws) we]++([fF b w F X 3,pL X.C (tL C) se,fG (F+3) (d:Int) td,pC (F+1) (.ref (T+200)),pL T (aT ts) te,pC (F+2) (.ref (W+200)),pL X.fit (tL Fs) fe]++R)) (n6+200) tk6:=λ_ _ _ _ x=>x
 cases hFl:decide (0<Fs.length)with
 | true =>
  rw[hFl]at I2
  have J2:aa B.f s2 ([c5 b w (n+2) true dk2 dv2]++([pL (n+1) (aO av) ae2,pL W (aO ws) we,fF b w F X 3,pL X.C (tL C) se,fG (F+3) (d:Int) td,pC (F+1) (.ref (T+200)),pL T (aT ts) te,pC (F+2) (.ref (W+200)),pL X.fit (tL Fs) fe]++R)) (n2+200) tk2:=I2.ord 10 [1,5,4,6,7,2,8,9,3,0]
  refine M2 hA (rn:=j6 b w F X n tk (tL Fs) (aO ws) fe W we n2 tk2 dk2 dv2) rfl (st:=[]) (Dj b w F X n tk (tL Fs) (aO ws) fe W we n2 tk2 dk2 dv2) nP nP J2 λs3 I3 k3=>?_
  have ho:=I3.has (pL (n+1) (aO av) ae2) (.head _)
  refine yF (hA.uq (wC ..)).handled ho hal hab λs4 t hold k4=>?_
  obtain⟨n4,tk4,I4⟩:=I3.after hold (p:=(pL (n+1) (aO av) ae2)) (.head _) (Pl _ _)
  have J4:aa B.f s4 ([pL W (aO ws) we]++([fF b w F X 3,pL X.C (tL C) se,fG (F+3) (d:Int) td,pC (F+1) (.ref (T+200)),pL T (aT ts) te,pC (F+2) (.ref (W+200)),pL X.fit (tL Fs) fe]++R)) (n4+200) tk4:=I4.ord 9 [1,2,3,4,5,6,7,8]
  refine rF hA (Dm b w F X n tk (tL Fs) (aO ws) fe W we n2 tk2 dk2 n4 tk4 dv2 (((dh av).sum:Nat):Int) t) nP (fc ⟨aD (by rw[eV];lia),bu⟩) J4 λs5 I5 k5=>ap ?_
  dsimp only[zj]at I5
  rw[jB,hav]at I5
  exact h s5 _ _ _ t (I5.ord 8 [1,2,3,4,5,6,0,7]) ((((k1.trans k2).trans k3).trans k4).trans k5)
 | false =>
  rw[hFl]at I2
  have J2:aa B.f s2 ([c5 b w (n+2) false 0 .none]++([pL (n+1) (aO av) ae2,pL W (aO ws) we,fF b w F X 3,pL X.C (tL C) se,fG (F+3) (d:Int) td,pC (F+1) (.ref (T+200)),pL T (aT ts) te,pC (F+2) (.ref (W+200)),pL X.fit (tL Fs) fe]++R)) (n2+200) tk2:=I2.ord 10 [1,5,4,6,7,2,8,9,3,0]
  refine M2 hA (rn:=j7 b w F X n tk (tL Fs) (aO ws) fe W we n2 tk2) rfl (st:=[]) (Dl b w F X n tk (tL Fs) (aO ws) fe W we n2 tk2) nP nP J2 λs3 I3 k3=>?_
  have ho:=I3.has (pL (n+1) (aO av) ae2) (.head _)
  refine yF (hA.uq (wD ..)).handled ho hal hab λs4 t hold k4=>?_
  obtain⟨n4,tk4,I4⟩:=I3.after hold (p:=(pL (n+1) (aO av) ae2)) (.head _) (Pl _ _)
  have J4:aa B.f s4 ([pL W (aO ws) we]++([fF b w F X 3,pL X.C (tL C) se,fG (F+3) (d:Int) td,pC (F+1) (.ref (T+200)),pL T (aT ts) te,pC (F+2) (.ref (W+200)),pL X.fit (tL Fs) fe]++R)) (n4+200) tk4:=I4.ord 9 [1,2,3,4,5,6,7,8]
  refine rF hA (Dn b w F X n tk (tL Fs) (aO ws) fe W we n2 tk2 n4 tk4 (((dh av).sum:Nat):Int) t) nP (fc ⟨aD (by rw[eV];lia),bu⟩) J4 λs5 I5 k5=>ap ?_
  dsimp only[zk]at I5
  rw[jB,hav]at I5
  exact h s5 _ _ _ t (I5.ord 8 [1,2,3,4,5,6,0,7]) ((((k1.trans k2).trans k3).trans k4).trans k5)
end
theorem ld:∀(l L:List Tx),(L.map (·.1)).Nodup->((l.foldl dC L).map (·.1)).Nodup/\∀x,x∈(l.foldl dC L).map (·.1)↔x∈L.map (·.1)\/x∈l.map (·.1)
 | [],L,h=>⟨h,λx=>by simp⟩
 | y::r,L,h=>by
  rw[O1]
  have h1:((dC L y).map (·.1)).Nodup/\∀x,x∈(dC L y).map (·.1)↔x∈L.map (·.1)\/x=y.1:=by
   unfold dC
   by_cases q:y.1∈L.map (·.1)
   ·rw[if_pos q]
    exact⟨h,λx=>⟨.inl,λe=>e.elim _root_.id λe=>by rw[e];exact q⟩⟩
   ·rw[if_neg q,NO]
    refine⟨?_,λx=>by simp⟩
    rw[Oh]
    refine⟨h,by simp,λa ha c hc e=>?_⟩
    simp only[Oa,Pp,NN]at hc
    exact q (by rw[<-hc,<-e];exact ha)
  obtain⟨h2,h3⟩:=ld r (dC L y) h1.1
  refine⟨h2,λx=>?_⟩
  rw[h3 x,h1.2 x,Oa,N0,or_assoc]
section
variable{b:Bool}{w:World}{B:Bx (KL (PB b w))}{A:Around}{s:Shared}{R:aK}
noncomputable abbrev mT (ts:List Lt)(d:Nat)(Fs:List Tx):List Str:=Fs.flatMap (λp=>((ts[d-p.1.length]?).elim [] (·.L)).map λq=>q.1++p.1)
theorem Kh {lv:Nat}(hA:ad lv A)(hlv:lv<=7){st:Stmt}(hst:st=xF 2){F n tk se d td T te W we fe:Nat}{X:Fv}{C Fs:List Tx}{ts:List Lt}{ws:List (Nat×Nat)}(h9:Fs.length<=3)(hz:∀p∈Fs,p.1.length<=d)(hw1:∀p∈Fs,1<=p.1.length)(hd:d<=6)(hts:d<ts.length+1)(htl:ts.length<=100)(hR:∀g∈ts,g.own∈R)(h64:∀g∈ts,g.L.length<=64)(cQ:∀g∈ts,∀p∈g.L,p.1.length<=100)(hall:∀x∈mT ts d Fs,x.length=d/\FI x)
  (I:aa B.f s (oh (PB b w) F X 3 C se d td T te ts W we ws++((pL X.fit (tL Fs) fe)::R)) (n+200) tk) {Q:Flow->aP} {E:Value->aP}
  (h:∀(s':Shared) (z:Lt) (n' tk' te':Nat),(z.L.map (·.1)).Nodup->(∀x,x∈z.L.map (·.1)↔x∈mT ts d Fs)->aa B.f s' (oh (PB b w) F X 3 C se d td T te' (ts++[z]) W we ws++(z.own::R)) (n'+200) tk'->mn s s'->Q .next s') :
  wpAny (Mo PW (WB b w)) A (exec st (dZ F)) Q E s:=by
 subst hst
 refine aX ?_
 have J0:aa B.f s ([fF b w F X 3,pL X.fit (tL Fs) fe,pC (F+1) (.ref (T+200)),pL T (aT ts) te]++([pL X.C (tL C) se,fG (F+3) (d:Int) td,pC (F+2) (.ref (W+200)),pL W (aO ws) we]++R)) (n+200) tk:=I.ord 8 [0,7,3,4,1,2,5,6]
 refine fz hA (Do b w F X n tk (tL Fs) (aT ts) fe T te) rfl nP nP J0 λs1 I1 k1=>?_
 have J1:aa B.f s1 ([pI n (X.fit+200) ((0:Nat):Int),pL X.fit (tL Fs) fe,qA b w (n+2) false false 0 0 .none .none,fG (F+3) (d:Int) td,pC (F+1) (.ref (T+200)),pL T (aT ts) te,pL (n+1) (tL []) 0]++([fF b w F X 3,pL X.C (tL C) se,pC (F+2) (.ref (W+200)),pL W (aO ws) we]++R)) (n+3+200) tk:=I1.ord 11 [4,1,6,8,2,3,5,0,7,9,10]
 refine g6 gJ (J1.has (pI n (X.fit+200) ((0:Nat):Int)) (.head _)) ?_
 refine HO (hA.uq (wE ..)) (by lia) h9 hz hw1 (by lia) hts (λg hg=>NK.mpr (.inr (hR g hg))) h64 cQ Fs.length 0 false false (n+3) tk 0 0 0 .none .none [] s1 (by lia) rfl J1 (λq=>nomatch q) ?_
 intro s2 n2 tk2 ae2 dk2 dk22 v2 v22 va vb av hav hvv I2 k2
 have hav':av.map (·.1)=mT ts d Fs:=hav
 have hal:av.length<=192:=by
  have e1:=congrArg N9 hav'
  rw[NM]at e1
  rw[e1,List.length_flatMap]
  refine NU (uV _ 64 λx hx=>?_) (by rw[NM];lia)
  obtain⟨p,_,rfl⟩:=NL.mp hx
  rw[NM]
  cases hq:ts[d-p.1.length]? with
  | none=>exact OI _
  | some q=>exact h64 q (NS hq)
 obtain⟨f1,f2⟩:=ld av [] Q3
 have hm:∀x,x∈(av.foldl dC []).map (·.1)↔x∈mT ts d Fs:=λx=>by rw[f2 x,hav'];simp
 have h2d:(2:Nat)^d<=64:=NU (Pm (by decide) hd) (by decide)
 have hfl:(av.foldl dC []).length<=64:=by
  have:=mS (n:=d) f1 λx hx=>hall x ((hm x).mp hx)
  rw[NM]at this;lia
 have rest:∀(dO:Obj) (rS:Option bo) (rO:Nat->Nat->Nat->Option bo),(ci (bH rS) 7=true/\cr (bH rS) 7=true)->(∀n3 tk3 S,ci (bH (rO n3 tk3 S)) 7=true/\cr (bH (rO n3 tk3 S)) 7=true) ->
   (∀{Qf:Fin->aP} {Ef:Value->aP} {s':Shared} {Rm:aK},aa B.f s' ([(n+2+200,dO)]++Rm) (n2+200) tk2->(∀s'',aa B.f s'' ([]++Rm) (n2+200) tk2->bZ s' s''->codeAny (Mo PW (WB b w)) (ar A (bH rS)) (fE (n+1)) (λr s3=>an PW (WB b w) A Qf Ef (bH rS) (dH (fR rS) r) s3) s'') ->
    an PW (WB b w) A Qf Ef (bH (dM b w F X n tk (tL Fs) (aT ts) fe T te)) (dH (fR (dM b w F X n tk (tL Fs) (aT ts) fe T te)) (.ok .next)) s') ->
   (∀{Qf:Fin->aP} {Ef:Value->aP} {s':Shared} {Rm:aK} (n3 tk3 S:Nat),aa B.f s' ([]++Rm) (n3+200) tk3->(∀s'',aa B.f s'' ([]++Rm) (n3+200) tk3->bZ s' s''->codeAny (Mo PW (WB b w)) (ar A (bH (rO n3 tk3 S))) (ij S) (λr s3=>an PW (WB b w) A Qf Ef (bH (rO n3 tk3 S)) (dH (fR (rO n3 tk3 S)) r) s3) s'') ->
    an PW (WB b w) A Qf Ef (bH rS) (dH (fR rS) (.ok (.ret (.ref (S+200))))) s') ->
   (∀{Qf:Fin->aP} {Ef:Value->aP} {s':Shared} {Rm:aK} (n3 tk3 S n4 tk4 L:Nat),aa B.f s' ([pL T (aT ts) te]++Rm) (n4+200) tk4->(∀s'',aa B.f s'' ([pL T ((aT ts).push (.ref (L+200))) (bU (aT ts) (.ref (L+200)) te)]++Rm) (n4+200) tk4->bZ s' s''->an PW (WB b w) A Qf Ef [] (.pure (.done .next)) s'') ->
    an PW (WB b w) A Qf Ef (bH (rO n3 tk3 S)) (dH (fR (rO n3 tk3 S)) (.ok (.ret (.ref (L+200))))) s') ->
   aa B.f s2 ([pL X.fit (tL Fs) fe,(n+2+200,dO),fG (F+3) (d:Int) td,pC (F+1) (.ref (T+200)),pL T (aT ts) te,pL (n+1) (tL av) ae2]++([fF b w F X 3,pL X.C (tL C) se,pC (F+2) (.ref (W+200)),pL W (aO ws) we]++R)) (n2+200) tk2 ->
   an PW (WB b w) A (λfin s'=>match fin with|.done f=>Q f s'|_=>False) E (bH (dM b w F X n tk (tL Fs) (aT ts) fe T te)) (dH (fR (dM b w F X n tk (tL Fs) (aT ts) fe T te)) (.ok .next)) s2:=by
  intro dO rS rO l1 l2 g1 g2 g3 K2
  have J2:aa B.f s2 ([(n+2+200,dO)]++([pL (n+1) (tL av) ae2,pL T (aT ts) te,fF b w F X 3,pL X.C (tL C) se,fG (F+3) (d:Int) td,pC (F+1) (.ref (T+200)),pC (F+2) (.ref (W+200)),pL W (aO ws) we]++R)) (n2+200) tk2:=K2.ord 10 [1,5,4,6,7,2,3,8,9]
  refine g1 J2 λs3 I3 k3=>?_
  have J3:aa B.f s3 ([pL (n+1) (bK av).toArray ae2]++([pL T (aT ts) te,fF b w F X 3,pL X.C (tL C) se,fG (F+3) (d:Int) td,pC (F+1) (.ref (T+200)),pC (F+2) (.ref (W+200)),pL W (aO ws) we]++R)) (n2+200) tk2:=I3
  refine codeAny_mono (yV (hA.up (by lia) l1.1 l1.2) (by lia) (Lst:=av) (by unfold scanBound;lia) J3) ?_
  rintro r4 s4 ⟨S,n4,tk4,o,rfl,hSt,I4,k4⟩
  refine g2 n4 tk4 S I4 λs5 I5 k5=>?_
  refine codeAny_mono (DC (hA.up (by lia) (l2 n4 tk4 S).1 (l2 n4 tk4 S).2) (by lia) hSt hfl I5) ?_
  rintro r6 s6 ⟨a,e,n6,tk6,L',rfl,hL',I6,k6⟩
  with_reducible refine nm (⟨a,e,L'⟩:Lt) λz hz=>?_
  have J6:aa B.f s6 ([pL T (aT ts) te]++([z.own,fF b w F X 3,pL X.C (tL C) se,fG (F+3) (d:Int) td,pC (F+1) (.ref (T+200)),pC (F+2) (.ref (W+200)),pL W (aO ws) we]++R)) (n6+200) tk6:=by
   rw[hz];exact I6.ord 9 [2,0,3,4,5,6,7,8]
  refine g3 n4 tk4 S n6 tk6 a J6 λs7 I7 k7=>ap ?_
  have ea:(aT ts).push (.ref (a+200))=aT (ts++[z]):=by rw[<-kZ,hz]
  rw[ea]at I7
  have hp:=hL'.map (·.1)
  refine h s7 z n6 tk6 _ ?_ (λx=>?_) (I7.ord 8 [2,3,4,5,0,6,7,1]) ?_
  ·rw[hz];exact hp.nodup_iff.mpr f1
  ·rw[hz,<-hm x];exact hp.mem_iff
  ·exact(((((k1.ao.trans k2.ao).trans k3.ao).trans k4).trans k5.ao).trans k6).trans k7.ao
 cases va with
 | true =>
  cases vb with
  | true =>
   refine rest _ (iY b w F X n tk (tL Fs) (aT ts) fe T te n2 tk2 dk2 dk22 v2 v22) (λn3 tk3 S=>i0 b w F X n tk (tL Fs) (aT ts) fe T te n2 tk2 dk2 dk22 v2 v22 n3 tk3 S) (sG b w F X n tk (tL Fs) (aT ts) fe T te n2 tk2 dk2 dk22 v2 v22) (λn3 tk3 S=>sH b w F X n tk (tL Fs) (aT ts) fe T te n2 tk2 dk2 dk22 v2 v22 n3 tk3 S)
    (λJ K=>Gc hA (st:=[]) rfl (zw b w F X n tk (tL Fs) (aT ts) fe T te n2 tk2 dk2 dk22 v2 v22) nP nP J K)
    (λn3 tk3 S J K=>Gc hA (st₀:=[]) (st:=[]) rfl (zx b w F X n tk (tL Fs) (aT ts) fe T te n2 tk2 dk2 dk22 v2 v22 n3 tk3 S) nP nP J K)
    (λn3 tk3 S n4 tk4 L J K=>rF hA (zy b w F X n tk (tL Fs) (aT ts) fe T te n2 tk2 dk2 dk22 v2 v22 n3 tk3 S n4 tk4 L) nP (fc ⟨aD (by rw[dg];lia),bu⟩) J K) I2
  | false =>
   refine rest _ (iW b w F X n tk (tL Fs) (aT ts) fe T te n2 tk2 dk2 dk22 v2 v22) (λn3 tk3 S=>iX b w F X n tk (tL Fs) (aT ts) fe T te n2 tk2 dk2 dk22 v2 v22 n3 tk3 S) (sE b w F X n tk (tL Fs) (aT ts) fe T te n2 tk2 dk2 dk22 v2 v22) (λn3 tk3 S=>sF b w F X n tk (tL Fs) (aT ts) fe T te n2 tk2 dk2 dk22 v2 v22 n3 tk3 S)
    (λJ K=>Gc hA (st:=[]) rfl (zt b w F X n tk (tL Fs) (aT ts) fe T te n2 tk2 dk2 dk22 v2 v22) nP nP J K)
    (λn3 tk3 S J K=>Gc hA (st₀:=[]) (st:=[]) rfl (zu b w F X n tk (tL Fs) (aT ts) fe T te n2 tk2 dk2 dk22 v2 v22 n3 tk3 S) nP nP J K)
    (λn3 tk3 S n4 tk4 L J K=>rF hA (zv b w F X n tk (tL Fs) (aT ts) fe T te n2 tk2 dk2 dk22 v2 v22 n3 tk3 S n4 tk4 L) nP (fc ⟨aD (by rw[dg];lia),bu⟩) J K) I2
 | false =>
  have hvb:vb=false:=by
   cases vb with
   | true=>exact absurd (hvv rfl) (by decide)
   | false=>rfl
  subst hvb
  refine rest _ (iU b w F X n tk (tL Fs) (aT ts) fe T te n2 tk2 dk2 dk22 v2 v22) (λn3 tk3 S=>iV b w F X n tk (tL Fs) (aT ts) fe T te n2 tk2 dk2 dk22 v2 v22 n3 tk3 S) (sC b w F X n tk (tL Fs) (aT ts) fe T te n2 tk2 dk2 dk22 v2 v22) (λn3 tk3 S=>sD b w F X n tk (tL Fs) (aT ts) fe T te n2 tk2 dk2 dk22 v2 v22 n3 tk3 S)
   (λJ K=>Gc hA (st:=[]) rfl (zp b w F X n tk (tL Fs) (aT ts) fe T te n2 tk2 dk2 dk22 v2 v22) nP nP J K)
   (λn3 tk3 S J K=>Gc hA (st₀:=[]) (st:=[]) rfl (zq b w F X n tk (tL Fs) (aT ts) fe T te n2 tk2 dk2 dk22 v2 v22 n3 tk3 S) nP nP J K)
   (λn3 tk3 S n4 tk4 L J K=>rF hA (zr b w F X n tk (tL Fs) (aT ts) fe T te n2 tk2 dk2 dk22 v2 v22 n3 tk3 S n4 tk4 L) nP (fc ⟨aD (by rw[dg];lia),bu⟩) J K) I2
end
theorem HP:Jq.2=[xF 0,xF 1,xF 2]:=by kernel_rfl
theorem wH:(cA 17).2.1=[BO 0,BO 1,BO 2,BO 3]:=by kernel_rfl
structure im (C:List Tx)(ts:List Lt)(ws:List (Nat×Nat))(k:Nat):Prop where
 tl:ts.length=k+1
 tk:sL (C.map (·.1)) (ts.map λg=>g.L.map (·.1))
 wk:dh ws=sJ (C.map (·.1)) k
theorem im.wl {C:List Tx}{ts:List Lt}{ws:List (Nat×Nat)}{k:Nat}(h:im C ts ws k):ws.length=k+1:=by
 have:=congrArg N9 h.wk
 rw[uU]at this
 simpa[dh]using this
structure gc (C:List Tx):Prop where
 l1:1<=C.length
 l3:C.length<=3
 wd:∀p∈C,1<=p.1.length/\p.1.length<=4/\FI p.1
theorem im.lt {C:List Tx}(hC:gc C){ts:List Lt}{ws:List (Nat×Nat)}{k:Nat}(h:im C ts ws k)(hk:k<=6):∀(i:Nat) (g:Lt),ts[i]?=some g->g.L.length<=64/\∀p∈g.L,p.1.length=i/\FI p.1:=by
 intro i g hg
 have hi:i<ts.length:=(NW.mp hg).1
 have:=h.tl
 have h1:(ts.map λg=>g.L.map (·.1))[i]?=some (g.L.map (·.1)):=by rw[N7,hg];rfl
 have h2:=h.tk.ok (λw hw=>by obtain⟨p,hp,rfl⟩:=NL.mp hw;exact⟨(hC.wd p hp).1,(hC.wd p hp).2.2⟩) i _ h1
 refine⟨?_,λp hp=>h2.2 p.1 (NL.mpr ⟨p,hp,rfl⟩)⟩
 have h3:=mS h2.1 h2.2
 rw[NM]at h3
 have h2d:(2:Nat)^i<=64:=NU (Pm (by decide) (show i<=6 by lia)) (by decide)
 lia
theorem HQ {x y:Str}(hx:FI x)(hy:FI y):FI (x++y):=λc hc=>by
 have hc':c∈x.cps.toList++y.cps.toList:=by rw[<-Oq];exact hc
 rcases NK.mp hc' with r|r
 ·exact hx c r
 ·exact hy c r
theorem DD {C:List Tx}{ts:List Lt}{d:Nat}{x:Str}:x∈mT ts d (C.filter (cW d))↔qD (C.map (·.1)) (ts.map λg=>g.L.map (·.1)) d x:=by
 rw[Ph]
 constructor
 ·rintro⟨p,hp,hx⟩
  obtain⟨h1,h2⟩:=OH.mp hp
  obtain⟨q,hq,rfl⟩:=NL.mp hx
  cases hz:ts[d-p.1.length]? with
  | none=>rw[hz]at hq;exact nomatch hq
  | some g =>
   rw[hz]at hq
   exact⟨p.1,NL.mpr ⟨p,h1,rfl⟩,of_decide_eq_true h2,_,by rw[N7,hz];rfl,q.1,NL.mpr ⟨q,hq,rfl⟩,rfl⟩
 ·rintro⟨w,hw,hl,M,hM,t,ht,rfl⟩
  obtain⟨p,hp,rfl⟩:=NL.mp hw
  rw[N7]at hM
  obtain⟨g,hg,rfl⟩:=Pw.mp hM
  obtain⟨q,hq,rfl⟩:=NL.mp ht
  exact⟨p,OH.mpr ⟨hp,decide_eq_true hl⟩,NL.mpr ⟨q,by rw[hg];exact hq,rfl⟩⟩
section
variable{b:Bool}{w:World}{B:Bx (KL (PB b w))}{A:Around}{s:Shared}{R:aK}
theorem DE {lv:Nat}(hA:ad lv A)(hlv:lv<=7){F n tk se d td T te W we:Nat}{X:Fv}{C:List Tx}(hC:gc C){ts:List Lt}{ws:List (Nat×Nat)}{vv:Bool}(ok:im C ts ws d)(hd:d+1<=6)(hR:∀g∈ts,g.own∈R)
  (I:aa B.f s (oh (PB b w) F X (if vv then 3 else 2) C se (d+1) td T te ts W we ws++R) (n+200) tk) {Q:Flow->aP} {E:Value->aP}
  (h:∀(s':Shared) (X':Fv) (ts':List Lt) (ws':List (Nat×Nat)) (n' tk' te' we':Nat) (R':aK),X'.C=X.C->im C ts' ws' (d+1)->(∀g∈ts',g.own∈R')->(∃N,R'=N++R)->aa B.f s' (oh (PB b w) F X' 3 C se (d+1) td T te' ts' W we' ws'++R') (n'+200) tk'->mn s s'->Q .next s') :
  wpAny (Mo PW (WB b w)) A (execs Jq.2 (dZ F)) Q E s:=by
 rw[HP]
 have hl3:=hC.l3
 have hlt:=ok.lt hC (OZ hd)
 have hwl:=ok.wl
 have htl:=ok.tl
 refine wpAny_execs_cons (Kf hA (by lia) rfl hC.l1 (by lia) (λp hp=>by have:=hC.wd p hp;lia) I ?_)
 intro s1 X1 n1 tk1 fe e1 I1 k1
 have hFs:∀p∈C.filter (cW (d+1)),p∈C/\p.1.length<=d+1:=λp hp=>⟨(OH.mp hp).1,of_decide_eq_true (OH.mp hp).2⟩
 have hF3:(C.filter (cW (d+1))).length<=3:=NU (Pk _ _) hl3
 have hwb:∀p∈ws,p.1<=1000:=λp hp=>by
  have h1:p.1∈sJ (C.map (·.1)) d:=by rw[<-ok.wk];exact NL.mpr ⟨p,hp,rfl⟩
  have h2:=sK (by rw[NM];exact hl3) (λw hw=>by obtain⟨p,hp,rfl⟩:=NL.mp hw;exact(hC.wd p hp).1) d p.1 h1
  have h3:(3:Nat)^d<=3^5:=Pm (by decide) (QW hd)
  have h4:(3:Nat)^5=243:=by decide
  lia
 refine wpAny_execs_cons (Kg hA (by lia) rfl (by lia) (λp hp=>(hFs p hp).2) (by lia) (by lia) (λp hp=>(hC.wd p (hFs p hp).1).1) (by lia) hwb I1 ?_)
 intro s2 n2 tk2 we2 t I2 k2
 have hall:∀x∈mT ts (d+1) (C.filter (cW (d+1))),x.length=d+1/\FI x:=λx hx=>by
  obtain⟨p,hp,hx⟩:=Ph.mp hx
  obtain⟨q,hq,rfl⟩:=NL.mp hx
  cases hz:ts[d+1-p.1.length]? with
  | none=>rw[hz]at hq;exact nomatch hq
  | some g =>
   rw[hz]at hq
   have h1:=(hlt _ g hz).2 q hq
   have h2:=hFs p hp
   have h3:=hC.wd p h2.1
   exact⟨by rw[ck,h1.1];lia,HQ h1.2 h3.2.2⟩
 refine wpAny_execs_cons (Kh hA hlv rfl hF3 (λp hp=>(hFs p hp).2) (λp hp=>(hC.wd p (hFs p hp).1).1) hd (by lia) (by lia) hR
  (λg hg=>by obtain⟨i,hi⟩:=OV.mp hg;exact(hlt i g hi).1) (λg hg p hp=>by
   obtain⟨i,hi⟩:=OV.mp hg
   have h1:=((hlt i g hi).2 p hp).1
   have h2:=(NW.mp hi).1
   lia) hall I2 ?_)
 intro s3 z n3 tk3 te3 hnd hmem I3 k3
 refine wpAny_execs_nil ?_
 refine h s3 X1 (ts++[z]) _ n3 tk3 te3 we2 (z.own::R) e1 ⟨by rw[NR,htl];rfl,?_,?_⟩ (λg hg=>?_) ⟨[z.own],rfl⟩ I3 ((k1.ao.trans k2.ao).trans k3)
 ·rw[NO]
  refine ok.tk.snoc (λw hw=>by obtain⟨p,hp,rfl⟩:=NL.mp hw;exact(hC.wd p hp).1) (n:=d) (by rw[NM,htl]) hnd λx=>?_
  rw[hmem x,DD]
 ·rw[sJ,<-ok.wk]
  simp only[dh,NO,Oa,Pp]
  congr 2
  rw[List.filter_map,OL]
  rfl
 ·rcases NK.mp hg with q|q
  ·exact .tail _ (hR g q)
  ·rw[NN.mp q];exact .head _
inductive M6 (b:Bool)(w:World)(B:Bx (KL (PB b w)))(s:Shared)(R:aK)(F:Nat)(it:Nat)(se:Nat)(T:Nat)(W:Nat)(X:Fv)(C:List Tx)(left:Nat)(s':Shared):Prop
 | mk (k:Nat) (X':Fv) (ts':List Lt) (ws':List (Nat×Nat)) (o:Option Value) (n' tk' te' we':Nat) (N:aK) (h1:k+left=6) (h2:X'.C=X.C) (h3:im C ts' ws' k) (h4:(∀g∈ts',g.own∈N++R)) (h5:aa B.f s' ([pR it ((k+1:Nat):Int) (left:Int) 1,fF b w F X' (if decide (0<k)=true then 3 else 2),pL X'.C (tL C) se,(F+3+200,d0 o),pC (F+1) (.ref (T+200)),pL T (aT ts') te',pC (F+2) (.ref (W+200)),pL W (aO ws') we']++(N++R)) (n'+200) tk') (h6:mn s s'):M6 b w B s R F it se T W X C left s'
theorem HR {lv:Nat}(hA:ad lv A)(hlv:lv<=7){F it n tk se T te W we:Nat}{X:Fv}{C:List Tx}(hC:gc C){ts:List Lt}{ws:List (Nat×Nat)}(ok:im C ts ws 0)(hR:∀g∈ts,g.own∈R)
  (I:aa B.f s ([pR it 1 6 1,fF b w F X 2,pL X.C (tL C) se,(F+3+200,d0 none),pC (F+1) (.ref (T+200)),pL T (aT ts) te,pC (F+2) (.ref (W+200)),pL W (aO ws) we]++R) (n+200) tk) {Q:Result->aP}
  (h:∀(s':Shared) (X':Fv) (ts':List Lt) (ws':List (Nat×Nat)) (n' tk' te' we':Nat) (N:aK),X'.C=X.C->im C ts' ws' 6->(∀g∈ts',g.own∈N++R)->aa B.f s' ([fF b w F X' 3,pL X'.C (tL C) se,pC (F+1) (.ref (T+200)),pL T (aT ts') te',pC (F+2) (.ref (W+200)),pL W (aO ws') we']++(N++R)) (n'+200) tk'->mn s s'->Q (.ok .next) s') :
  codeAny (Mo PW (WB b w)) A (Gm F it) Q s:=by
 refine codeAny_forLoop (M6 b w B s R F it se T W X C) ?_ 6
  ⟨0,X,ts,ws,none,n,tk,te,we,[],rfl,rfl,ok,hR,I,.rfl'⟩ (λ_=>by rfl)
 rintro left s1 ⟨k,X1,ts1,ws1,o1,n1,tk1,te1,we1,N1,hk,hX,ok1,hR1,I1,k1⟩
 cases left with
 | zero =>
  refine bN (it:=it) ?_
  refine rF hA (uL b w it n1 tk1 ((k+1:Nat):Int) ((0:Nat):Int)) nP (fc ⟨dB (by lia),bu⟩) I1 λs2 I2 k2=>ap ?_
  dsimp only[sB]at I2
  refine wpAny_execs_nil ?_
  have e:k=6:=by lia
  subst e
  exact h s2 X1 ts1 ws1 _ _ te1 we1 N1 hX ok1 hR1 (I2.ord 7 [0,1,3,4,5,6]) (k1.trans k2.ao)
 | succ left =>
  refine bN (it:=it) ?_
  refine rF hA (uK b w it n1 tk1 ((k+1:Nat):Int) ((left+1:Nat):Int)) nP (fc ⟨dd (by lia),bu⟩) I1 λs2 I2 k2=>ap ?_
  dsimp only[sA]at I2
  rw[show((k+1:Nat):Int)+1=((k+1+1:Nat):Int) by lia,show(((left+1:Nat):Int)-1)=(left:Int) by lia]at I2
  refine fy ?_
  have J2:aa B.f s2 ([(F+3+200,d0 o1)]++([fF b w F X1 (if decide (0<k)=true then 3 else 2),pL X1.C (tL C) se,pC (F+1) (.ref (T+200)),pL T (aT ts1) te1,pC (F+2) (.ref (W+200)),pL W (aO ws1) we1,pR it ((k+1+1:Nat):Int) (left:Int) 1]++(N1++R))) (n1+200) _:=I2.ord 8 [3,1,2,4,5,6,7,0]
  refine rF hA (C9 b w F n1 _ o1 ((k+1:Nat):Int) tk1) nP nP J2 λs3 I3 k3=>ap ?_
  have J3:aa B.f s3 (oh (PB b w) F X1 (if decide (0<k)=true then 3 else 2) C se (k+1) tk1 T te1 ts1 W we1 ws1++((pR it ((k+1+1:Nat):Int) (left:Int) 1)::(N1++R))) (n1+200) _:=I3.ord 8 [1,2,0,3,4,5,6,7]
  refine DE hA hlv hC ok1 (by lia) (λg hg=>.tail _ (hR1 g hg)) J3 ?_
  rintro s4 X4 ts4 ws4 n4 tk4 te4 we4 R4 hX4 ok4 hR4 ⟨N4,rfl⟩ I4 k4
  have hN:N4++((pR it ((k+1+1:Nat):Int) (left:Int) 1)::(N1++R))=(N4++[pR it ((k+1+1:Nat):Int) (left:Int) 1]++N1)++R:=by simp
  have J4:aa B.f s4 ([pR it ((k+1+1:Nat):Int) (left:Int) 1,fF b w F X4 3,pL X4.C (tL C) se,fG (F+3) ((k+1:Nat):Int) tk1,pC (F+1) (.ref (T+200)),pL T (aT ts4) te4,pC (F+2) (.ref (W+200)),pL W (aO ws4) we4]++((N4++N1)++R)) (n4+200) tk4:=by
   refine I4.perm ?_
   refine(NQ _ (OQ)).trans ?_
   refine(OQ).trans ?_
   rw[NP]
   exact .refl _
  refine⟨left,Og _,k+1,X4,ts4,ws4,some (.int ((k+1:Nat):Int) tk1),n4,tk4,te4,we4,N4++N1,by lia,hX4.trans hX,ok4,λg hg=>?_,?_,((k1.trans k2.ao).trans k3.ao).trans k4⟩
  ·have h1:=hR4 g hg
   rcases NK.mp h1 with q|q
   ·simp[q]
   ·rcases N0.mp q with q|q
    ·exfalso
     have h2:=I4.has _ (NK.mpr (.inr h1))
     rw[q]at h2
     have e2:g.own=(pR it ((k+1+1:Nat):Int) (left:Int) 1):=q
     have e3:Value.type "list" = Value.type "range_iterator":=congrArg (λp:Addr×Obj=>p.2.cls) e2
     exact absurd e3 (by decide)
    ·rw[NP]
     exact NK.mpr (.inr q)
  ·exact J4
noncomputable def bV (bs:List Bool):aN:=(bs.map λx=>Value.bool x).toArray
theorem DF (bs:List Bool)(x:Bool):(bV bs).push (.bool x)=bV (bs++[x]):=by simp[bV]
theorem DG (bs:List Bool):(bV bs).size=bs.length:=by simp[bV]
def eM (ts:List Lt)(ws:List (Nat×Nat))(i:Nat):Bool:=decide ((ts[i]?).elim 0 (·.L.length)<(dh ws).getD i 0)
theorem zG {lv:Nat}(hA:ad lv A){F it acc D T te W we:Nat}{ts:List Lt}{ws:List (Nat×Nat)}(htl:ts.length=7)(hwl:ws.length=7)(hR:∀g∈ts,g.own∈R)(h64:∀g∈ts,g.L.length<=64){Q:Result->aP} :
  ∀(left i:Nat) (vv:Bool) (n tk ae dk:Nat) (dv:Value) (s:Shared),i+left=7->vv=decide (0<i) ->
  aa B.f s ([pR it (i:Int) (left:Int) 1,(D+200,jd (PB b w) vv "n" dk dv),pC (F+2) (.ref (W+200)),pL W (aO ws) we,pC (F+1) (.ref (T+200)),pL T (aT ts) te,pL acc (bV ((Oy i).map (eM ts ws))) ae]++R) (n+200) tk ->
  (∀(s':Shared) (n' tk' ae' dk':Nat) (dv':Value),aa B.f s' ([(D+200,jd (PB b w) true "n" dk' dv'),pC (F+2) (.ref (W+200)),pL W (aO ws) we,pC (F+1) (.ref (T+200)),pL T (aT ts) te,pL acc (bV ((Oy 7).map (eM ts ws))) ae']++R) (n'+200) tk'->bZ s s'->Q (.ok .next) s') ->
  codeAny (Mo PW (WB b w)) A (eC F sy [mo F,ik F] it acc D) Q s:=by
 intro left
 induction left with
 | zero =>
  intro i vv n tk ae dk dv s hi hvv I h
  refine aF (a8 og) ?_
  have e:i=7:=by lia
  subst e
  subst hvv
  refine rF hA (Dz b w F it acc D n tk ((7:Nat):Int) ((0:Nat):Int)) nP (fc ⟨dB (by lia),bu⟩) I λs1 I1 k1=>?_
  dsimp only[zB]at I1
  exact λ_ _ _=>h s1 _ _ ae dk dv I1 k1
 | succ left ih =>
  intro i vv n tk ae dk dv s hi hvv I h
  with_reducible refine gx (l:=ts) (i:=i) (by lia) λg hg=>?_
  with_reducible refine gx (l:=ws) (i:=i) (by lia) λp hp=>?_
  have hgm:=NS hg
  have hgl:=h64 g hgm
  obtain⟨R',hpm,J⟩:=I.tk (hR g hgm)
  refine aF (a8 og) ?_
  have er:eM ts ws i=decide (g.L.length<p.1):=by unfold eM;rw[hg];simp[dh,hp]
  refine rF hA (Dy b vv w F it acc D n tk ae W we T te g.a g.e dk p.2 (aO ws) (aT ts) (tL g.L) (bV ((Oy i).map (eM ts ws))) dv (i:Int) ((left+1:Nat):Int) ((tL g.L).size:Int) (p.1:Int) (eM ts ws i))
   (fc ⟨aq (il hg) (by lia),fc ⟨cB (by rw[aJ];lia),fc ⟨aq (j8 hp) (by lia),fc ⟨cH (by rw[er,aJ];exact decide_eq_decide.mpr (by lia)),bu⟩⟩⟩⟩) (fc ⟨dd (by lia),fc ⟨aD (by rw[DG];simp;lia),bu⟩⟩) J λs1 I1 k1=>?_
  dsimp only[zA]at I1
  have e2:(Oy i).map (eM ts ws)++[eM ts ws i]=(Oy (i+1)).map (eM ts ws):=by rw[List.range_succ,NO];rfl
  rw[DF,e2,show(i:Int)+1=((i+1:Nat):Int) by lia,show(((left+1:Nat):Int)-1)=(left:Int) by lia]at I1
  have J1:=aa.pb (M:=[pR it ((i+1:Nat):Int) (left:Int) 1,(D+200,jd (PB b w) true "n" (if vv then dk else tk+1) (.int (i:Int) tk)),pC (F+2) (.ref (W+200)),pL W (aO ws) we,pC (F+1) (.ref (T+200)),pL T (aT ts) te,pL acc (bV ((Oy (i+1)).map (eM ts ws))) (bU (bV ((Oy i).map (eM ts ws))) (.bool (eM ts ws i)) ae)]) I1 hpm
  exact λ_ _ _=>⟨by rfl,ih (i+1) true n _ _ _ _ s1 (by lia) (by simp) J1 λs' n' tk' ae' dk' dv' q1 q2=>h s' n' tk' ae' dk' dv' q1 (k1.trans q2)⟩
noncomputable def Ny (C ts:Nat)(q:Nat->Nat):Fv:=⟨q,C,ts,0⟩
inductive Go (b:Bool)(w:World)(B:Bx (KL (PB b w)))(s:Shared)(R:aK)(C0:Nat)(se:Nat)(C:List Tx)(r:Result)(s':Shared):Prop
 | mk (a e n' tk':Nat) (ts:List Lt) (ws:List (Nat×Nat)) (h1:r=.ok (.ret (.ref (a+200)))) (h2:im C ts ws 6) (h3:aa B.f s' ([pL a (bV ((Oy 7).map (eM ts ws))) e,pL C0 (tL C) se]++R) (n'+200) tk') (h4:mn s s'):Go b w B s R C0 se C r s'
theorem DH {lv:Nat}(hA:ad lv A)(hlv:lv<=5){C0 se t6:Nat}{C:List Tx}(hC:gc C){n tk:Nat}(I:aa B.f s ([pL C0 (tL C) se]++R) (n+200) tk) :
  codeAny (Mo PW (WB b w)) A (nW C0 t6) (Go b w B s R C0 se C) s:=by
 refine e8 ?_
 have hA0:ad (lv+1) (A.under (nW C0 t6)):=hA.under (by lia) rfl
 refine rF hA0 (C4 b w n tk C0 t6) nP nP I λs1 I1 k1=>?_
 refine λ_ _ _=>⟨by rfl,?_⟩
 refine gH ?_
 have hA1:ad (lv+1) (A.deeper (dZ n)):=hA.deeper (by lia)
 rw[wH]
 with_reducible refine nm (Ny C0 t6 (λi=>if i=0 then tk else tk+1):Fv) λX1 hX1=>?_
 have x1:X1.C=C0:=by rw[hX1];rfl
 have J1:aa B.f s1 ([(n+1+200,aM)]++([fF b w n X1 2,(n+2+200,aM),(n+3+200,aM),pL X1.C (tL C) se]++R)) (n+4+200) (tk+2):=by
  rw[hX1];exact I1.ord 5 [1,0,2,3,4]
 clear hX1 I1
 refine wpAny_execs_cons ?_
 refine aX ?_
 refine rF hA1 (C6 b w n (n+4) (tk+2)) nP nP J1 ?_
 intro s2 I2 k2
 refine ap ?_
 have J2:aa B.f s2 ([(n+2+200,aM)]++([fF b w n X1 2,pC (n+1) (.ref (n+4+1+200)),pL (n+4) #[.str ⟨#[]⟩ (tk+2)] 0,pL (n+4+1) #[.ref (n+4+200)] 0,(n+3+200,aM),pL X1.C (tL C) se]++R)) (n+6+200) (tk+3):=I2.ord 7 [4,3,0,1,2,5,6]
 refine wpAny_execs_cons ?_
 refine aX ?_
 refine rF hA1 (C7 b w n (n+6) (tk+3)) nP nP J2 ?_
 intro s3 I3 k3
 refine ap ?_
 with_reducible refine nm (⟨n+4,0,[(⟨#[]⟩,tk+2)]⟩:Lt) λg hg=>?_
 have J3:aa B.f s3 ([fF b w n X1 2]++([pL X1.C (tL C) se,(n+3+200,d0 none),pC (n+1) (.ref (n+4+1+200)),pL (n+4+1) (aT [g]) 0,pC (n+2) (.ref (n+6+200)),pL (n+6) (aO [(1,tk+3)]) 0,g.own]++R)) (n+7+200) (tk+4):=by
  rw[hg];exact I3.ord 8 [2,7,6,3,5,0,1,4]
 have ok:im C [g] [(1,tk+3)] 0:=⟨rfl,⟨by rw[hg];rfl,λk hk=>absurd hk (by simp)⟩,rfl⟩
 refine wpAny_execs_cons ?_
 refine aX ?_
 refine fz hA1 (yX b w n X1 (n+7) (tk+4)) rfl nP nP J3 ?_
 intro s4 I4 k4
 have J4:aa B.f s4 ([pR (n+7+1) 1 6 1,fF b w n X1 2,pL X1.C (tL C) se,(n+3+200,d0 none),pC (n+1) (.ref (n+4+1+200)),pL (n+4+1) (aT [g]) 0,pC (n+2) (.ref (n+6+200)),pL (n+6) (aO [(1,tk+3)]) 0]++(g.own::R)) (n+9+200) (tk+8):=I4.ord 9 [1,0,2,3,4,5,6,7,8]
 refine HR (hA1.uq (sz ..)) (by lia) hC ok (λy hy=>by rw[NN.mp hy];exact .head _) J4 ?_
 intro s5 X5 ts5 ws5 n5 tk5 te5 we5 N5 hX5 ok5 hR5 I5 k5
 refine rF hA1 (yY b w n X1 (n+7) (tk+4) n5 tk5) nP nP I5 λs6 I6 k6=>ap ?_
 have J6:aa B.f s6 ([fF b w n X5 3]++([pL X5.C (tL C) se,pC (n+1) (.ref (n+4+1+200)),pL (n+4+1) (aT ts5) te5,pC (n+2) (.ref (n+6+200)),pL (n+6) (aO ws5) we5]++(N5++(g.own::R)))) (n5+200) tk5:=I6
 refine wpAny_execs_cons ?_
 refine aX ?_
 refine fz hA1 (Dx b w n X5 n5 tk5) rfl nP nP J6 ?_
 intro s7 I7 k7
 have J7:aa B.f s7 ([pR (n5+1) ((0:Nat):Int) ((7:Nat):Int) 1,(n5+3+200,jd (PB b w) false "n" 0 .none),pC (n+2) (.ref (n+6+200)),pL (n+6) (aO ws5) we5,pC (n+1) (.ref (n+4+1+200)),pL (n+4+1) (aT ts5) te5,pL (n5+2) (bV ((Oy 0).map (eM ts5 ws5))) 0]++([fF b w n X5 3,pL X5.C (tL C) se]++(N5++(g.own::R)))) (n5+4+200) (tk5+4):=I7.ord 9 [1,3,7,8,5,6,2,0,4]
 refine iO og (J7.has (pR (n5+1) ((0:Nat):Int) ((7:Nat):Int) 1) (.head _)) ?_
 refine zG (hA1.uq (wG ..)) ok5.tl ok5.wl (λy hy=>.tail _ (.tail _ (hR5 y hy))) (λy hy=>by obtain⟨i,hi⟩:=OV.mp hy;exact(ok5.lt hC (by lia) i y hi).1) 7 0 false (n5+4) _ 0 0 .none s7 (by lia) rfl J7 ?_
 intro s8 n8 tk8 ae8 dk8 dv8 I8 k8
 refine rF hA1 (DA b w n X5 n5 tk5 n8 tk8 dk8 dv8) nP nP I8 λs9 I9 k9=>ap ?_
 have I10:aa B.f s9 ([pL (n5+2) (bV ((Oy 7).map (eM ts5 ws5))) ae8,pL X5.C (tL C) se]++(N5++(g.own::R))) (n8+200) tk8:=I9.ord 7 [4,6]
 have e5:X5.C=C0:=hX5.trans x1
 rw[e5]at I10
 refine⟨n5+2,ae8,n8,tk8,ts5,ws5,rfl,ok5,I10.sub (QB ?_ _),(((((((k1.ao.trans k2.ao).trans k3.ao).trans k4.ao).trans k5).trans k6.ao).trans k7.ao).trans k8.ao).trans k9.ao⟩
 exact(OE _ _).trans (Ou _ _)
end
end Mine

namespace Mine
open PySem
noncomputable abbrev oj (C:Nat):Code:=.call (.ref 183) ⟨[.ref (C+200)],[]⟩
def uW (i:Nat):Stmt:=((cA 18).2.1[i]?).getD default
noncomputable def i3 (s:Stmt):Rg×List Stmt:=match s with|.For t _ bd _ _=>(t,bd)|_=>default
def zH:Rg×List Stmt:=i3 (uW 2)
def Jr (i:Nat):Stmt:=(zH.2[i]?).getD default
def qE:Rg×List Stmt:=i3 (Jr 1)
def Lr:Stmt:=(qE.2[0]?).getD default
def zI:Rg×List Stmt:=i3 (uW 4)
def LT:Stmt:=(zI.2[0]?).getD default
def qF:Rg×List Stmt:=i3 LT
def HS:Stmt:=(qF.2[0]?).getD default
def qG:Rg×List Stmt:=i3 HS
def Js:Stmt:=(qG.2[0]?).getD default
abbrev cq (F:Nat):Env:={scope:=(cA 18).2.2,locals:=F+200,globals:=3,cells:=[⟨Rf "code",F+1+200⟩],qual:=Rf "_law_least_short.<locals>.",func:=some 183,code:=.ref 182,frame:=some (F+200),builtins:=0}
structure Hv where
 q:Nat->Nat
 (L B row rows one two kt mt:Nat)
 (k m:Int)
abbrev HT (P:Params)(X:Hv):List DictEntry:=[eT P "level" (X.q 0) (.ref (X.L+200)),eT P "book" (X.q 1) (.ref (X.B+200)),eT P "k" (X.q 2) (.int X.k X.kt),eT P "row" (X.q 3) (.ref (X.row+200)),eT P "least" (X.q 4) (.int X.m X.mt),eT P "rows" (X.q 5) (.ref (X.rows+200)),eT P "one" (X.q 6) (.ref (X.one+200)),eT P "two" (X.q 7) (.ref (X.two+200))]
abbrev Nz (P:Params)(X:Hv)(m:Nat):Obj:=bO ((HT P X).take m) m
def zJ:Rg:=sk (Jr 0)
abbrev Ki (F:Nat)(D:Nat):Env:=⟨nR (jA zJ).2.2.2.1,D+200,3,[⟨Rf "code",F+1+200⟩],Rf "_law_least_short.<locals>.",none,.ref 182,some (F+200),0⟩
abbrev zK (F k it acc D:Nat):Code:=.compStart zJ k (.ref (it+200)) (.ref (acc+200)) (Ki F D)
abbrev jR (F k it acc D:Nat):Code:=.compLoop zJ k (.ref (it+200)) (.ref (acc+200)) (Ki F D)
abbrev l8 (P:Params)(va vb:Bool)(dk dk2:Nat)(v v2:Value):Obj:=cy (([eT P "row" dk v,eT P "word" dk2 v2]:List DictEntry).take (mD va vb)) (mD va vb)
abbrev mq (l:Rg×List Stmt)(F it:Nat):Code:=.forLoop l.1 (.ref (it+200)) l.2 [] (cq F)
noncomputable abbrev zL (d i n ep:Nat):Obj:=⟨.type "dict_valueiterator",none,.fields #[.ref d,.int i 0,.int n 0,.int ep 0],#[]⟩
abbrev bF (b:Bool)(w:World)(F:Nat)(X:Hv)(i:Nat):Addr×Obj:=(F+200,Nz (PB b w) X i)
abbrev HU (b:Bool)(w:World)(n tk C:Nat):SD:=⟨[0,0],[.b,.b,.a,.a,az,jI,.s],[],⟨aA (oj C),[],[],n+200,tk⟩,
 [],⟨.pure (.again (.func (cA 18).2.1 (cq n))),[],[(n+200,bO [] 0),pC (n+1) (.ref (C+200))],n+202,tk⟩,[]⟩
theorem DJ (b:Bool)(w:World)(n tk C:Nat):SK b w (HU b w n tk C):=by apply bq1 b;kernel_rfl
section
variable(b:Bool)(w:World)(F:Nat)(X:Hv)(n tk:Nat)
abbrev HV:SD:=⟨[0,0,0],[.a,.a,ac,bi],[],⟨a0 (uW 0) (cq F),[],[bF b w F X 0],n+200,tk⟩,
 [],⟨.pure (.done .next),[],[bF b w F {X with L:=n+1,q:=qU X.q 0 tk} 1,pL n #[] 0,pL (n+1) #[.ref (n+200)] 0],n+202,tk+1⟩,[]⟩
theorem DK:SK b w (HV b w F X n tk):=by apply bq1 b;kernel_rfl
abbrev HW:SD:=⟨[0,0],[.a,ac,bi],[],⟨a0 (uW 1) (cq F),[],[bF b w F X 1],n+200,tk⟩,
 [],⟨.pure (.done .next),[],[bF b w F {X with B:=n,q:=qU X.q 1 tk} 2,(n+200,cy [] 0)],n+201,tk+1⟩,[]⟩
theorem DL:SK b w (HW b w F X n tk):=by apply bq1 b;kernel_rfl
end
section
variable(b:Bool)(w:World)(F:Nat)(X:Hv)(n tk:Nat)
abbrev uX:SC:=⟨[0,1],[.b,.b,.i,.i,.a,az,az,.i,az,az,az,az,.i,az,az,az,az,.a,au],[],⟨a0 (uW 2) (cq F),[],[bF b w F X 2],n+200,tk⟩,
 [],mq zH F (n+1),[bF b w F X 2,pR (n+1) 0 3 1],n+202,tk+3,[]⟩
def lf:Option bo:=dR b w (uX b w F X n tk)
theorem zM:SQ (uX b w F X n tk) (lf b w F X n tk):=by apply bq1 b;kernel_rfl
theorem sM:aY (lf b w F X n tk):=af (by apply bq1 b;kernel_rfl)
end
section
variable(b:Bool)(w:World)(F:Nat)(X:Hv)(n tk:Nat)(n2 tk2:Nat)
abbrev DM:SD:=⟨[],[],[],gC (lf b w F X n tk) (.ok .next) [] (n2+200) tk2,
 [],⟨.pure (.done .next),[],[],n2+200,tk2⟩,[]⟩
theorem zN:SK b w (DM b w F X n tk n2 tk2):=by apply bq1 b;kernel_rfl
end
section
variable(b vv:Bool)(w:World)(F:Nat)(X:Hv)(n tk:Nat)(x:Int)(tx:Nat)
abbrev DN:SD:=⟨[0],[ac,bi],[],⟨kN zH.1 (cq F) (.int x tx),[],[bF b w F X (if vv then 4 else 2)],n+200,tk⟩,
 [],⟨.pure (.done .next),[],[bF b w F {X with k:=x,kt:=tx,q:=qU X.q 2 (if vv then X.q 2 else tk)} (if vv then 4 else 3)],n+200,tk+1⟩,[]⟩
theorem zO:SK b w (DN b vv w F X n tk x tx):=by apply bq2 b vv;kernel_rfl
end
section
variable(b vv:Bool)(w:World)(F:Nat)(X:Hv)(n tk:Nat)(xs:aN)(se:Nat)
abbrev uY:SC:=⟨[0,0,0,0,0],[ac,az,az,.i,az,.a,au,.a,.a],[],⟨a0 (Jr 0) (cq F),[],[bF b w F X (if vv then 4 else 3),pL X.L xs se],n+200,tk⟩,
 [],zK F 0 n (n+1) (n+2),[bF b w F X (if vv then 4 else 3),pL X.L xs se,pI n (X.L+200) 0,pL (n+1) #[] 0,(n+2+200,cy [] 0)],n+203,tk,[]⟩
def lh:Option bo:=dR b w (uY b vv w F X n tk xs se)
theorem zP:SQ (uY b vv w F X n tk xs se) (lh b vv w F X n tk xs se):=by apply bq2 b vv;kernel_rfl
theorem sN:aY (lh b vv w F X n tk xs se):=af (by apply bq2 b vv;kernel_rfl)
end
section
variable(b va vb:Bool)(w:World)(F it acc D n tk i S se C ce dk dk2 r:Nat)(xs cs:aN)(v v2:Value)
abbrev sO:SC:=⟨[0,0,0,0,0,0],[ac,.x (bW (it+200) (i:Int) (.ref (r+200))) [0,0],ac,bi,au,fV,bf,b7,b7,.i,b7,.a,b6],[],⟨aA (jR F 0 it acc D),[],[pI it (S+200) (i:Int),pL S xs se,(D+200,l8 (PB b w) va vb dk dk2 v v2),pC (F+1) (.ref (C+200)),pL C cs ce],n+200,tk⟩,
 [],zK F 1 n acc D,[pI it (S+200) ((i:Int)+1),pL S xs se,(D+200,l8 (PB b w) true (va&&vb) (if va then dk else tk) dk2 (.ref (r+200)) v2),pC (F+1) (.ref (C+200)),pL C cs ce,pI n (C+200) 0],n+201,tk+1,[⟨bc "list_iterator.__next__" [.ref (it+200)],bW (it+200) (i:Int) (.ref (r+200)),[((it+200),ba (S+200) ((i:Nat):Int)),((S+200),ab xs se)]⟩]⟩
def ol:Option bo:=dR b w (sO b va vb w F it acc D n tk i S se C ce dk dk2 r xs cs v v2)
theorem DO:SQ (sO b va vb w F it acc D n tk i S se C ce dk dk2 r xs cs v v2) (ol b va vb w F it acc D n tk i S se C ce dk dk2 r xs cs v v2):=by apply bq3 b va vb;kernel_rfl
theorem wI:aY (ol b va vb w F it acc D n tk i S se C ce dk dk2 r xs cs v v2):=af (by apply bq3 b va vb;kernel_rfl)
end
section
variable(b va vb:Bool)(w:World)(F it acc D n tk i S se C ce dk dk2 r:Nat)(xs cs:aN)(v v2:Value)(n2 tk2:Nat)
abbrev HX:SD:=⟨[],[],[],gC (ol b va vb w F it acc D n tk i S se C ce dk dk2 r xs cs v v2) (.ok .next) [] (n2+200) tk2,
 [],⟨.pure (.again (jR F 0 it acc D)),[],[],n2+200,tk2⟩,[]⟩
theorem DP:SK b w (HX b va vb w F it acc D n tk i S se C ce dk dk2 r xs cs v v2 n2 tk2):=by apply bq3 b va vb;kernel_rfl
end
abbrev zQ (b:Bool)(w:World)(F it acc D n tk i S se:Nat)(xs:aN):SD:=⟨[1],[ac,.x (dr (it+200)) [0,0],ac,bi,.a,.a,bf],[],⟨aA (jR F 0 it acc D),[],[pI it (S+200) (i:Int),pL S xs se],n+200,tk⟩,
 [],⟨.pure (.done .next),[],[pL S xs se],n+202,tk⟩,[⟨bc "list_iterator.__next__" [.ref (it+200)],dr (it+200),[((it+200),ba (S+200) ((i:Nat):Int)),((S+200),ab xs se)]⟩]⟩
theorem DQ (b:Bool)(w:World)(F it acc D n tk i S se:Nat)(xs:aN):SK b w (zQ b w F it acc D n tk i S se xs):=by apply bq1 b;kernel_rfl
abbrev zR (b:Bool)(w:World)(F it acc D n tk i S se:Nat)(xs:aN):SD:=⟨[1],[ac,.x (dr (it+200)) [0,0],ac,bi,.a,.a,bf],[],⟨aA (jR F 1 it acc D),[],[pI it (S+200) (i:Int),pL S xs se],n+200,tk⟩,
 [],⟨.pure (.done .next),[],[pL S xs se],n+202,tk⟩,[⟨bc "list_iterator.__next__" [.ref (it+200)],dr (it+200),[((it+200),ba (S+200) ((i:Nat):Int)),((S+200),ab xs se)]⟩]⟩
theorem DR (b:Bool)(w:World)(F it acc D n tk i S se:Nat)(xs:aN):SK b w (zR b w F it acc D n tk i S se xs):=by apply bq1 b;kernel_rfl
section
variable(b vv:Bool)(w:World)(F it acc D n tk ae i S se dk dk2 r re:Nat)(xs av rs zs:aN)(v2:Value)(word:Str)(tw:Nat)
abbrev zS:SD:=⟨[0,0,0,0,0,1],[ac,.x (bW (it+200) (i:Int) (.str word tw)) [0,0],ac,bi,au,fV,au,au,.a,bf,b6,bf,.h [3,1],.x (b5 (acc+200) (.ref (n+1+200))) [4],xC],[aR (ab zs 0)],⟨aA (jR F 1 it acc D),[],[pI it (S+200) (i:Int),pL S xs se,(D+200,l8 (PB b w) true vv dk dk2 (.ref (r+200)) v2),pL r rs re,pL acc av ae],n+200,tk⟩,
 [⟨bc "list.__add__" [.ref (r+200),.ref (n+200)],aR (ab zs 0),[((r+200),ab rs re),((n+200),ab #[.str word tw] 0)]⟩],⟨.pure (.again (jR F 1 it acc D)),[],[pI it (S+200) ((i:Int)+1),pL S xs se,(D+200,l8 (PB b w) true true dk (if vv then dk2 else tk) (.ref (r+200)) (.str word tw)),pL r rs re,pL acc (av.push (.ref (n+1+200))) (bU av (.ref (n+1+200)) ae),pL (n+1) zs 0],n+202,tk+1⟩,[⟨bc "list_iterator.__next__" [.ref (it+200)],bW (it+200) (i:Int) (.str word tw),[((it+200),ba (S+200) ((i:Nat):Int)),((S+200),ab xs se)]⟩,⟨bc "list.append" [.ref (acc+200),.ref (n+201)],b5 (acc+200) (.ref (n+1+200)),[((acc+200),ab av ae)]⟩]⟩
theorem DT:SK b w (zS b vv w F it acc D n tk ae i S se dk dk2 r re xs av rs zs v2 word tw):=by apply bq2 b vv;kernel_rfl
end
section
variable(b vv:Bool)(w:World)(F:Nat)(X:Hv)(n tk:Nat)(xs:aN)(se n2 tk2 dk dk2:Nat)(v v2:Value)
abbrev DU:SD:=⟨[0],[ac,bi,az,az,jI,az,az,jI],[],gC (lh b vv w F X n tk xs se) (.ok .next) [bF b w F X (if vv then 4 else 3),(n+2+200,l8 (PB b w) true true dk dk2 v v2)] (n2+200) tk2,
 [],⟨.pure (.done .next),[],[bF b w F {X with L:=n+1} (if vv then 4 else 3)],n2+200,tk2+1⟩,[]⟩
theorem zT:SK b w (DU b vv w F X n tk xs se n2 tk2 dk dk2 v v2):=by apply bq2 b vv;kernel_rfl
end
section
variable(b vv:Bool)(w:World)(F:Nat)(X:Hv)(n tk:Nat)(xs:aN)(se:Nat)
abbrev uZ:SC:=⟨[0,0,0],[ac,az,az,.i,az,.a,au],[],⟨a0 (Jr 1) (cq F),[],[bF b w F X (if vv then 4 else 3),pL X.L xs se],n+200,tk⟩,
 [],mq qE F n,[bF b w F X (if vv then 4 else 3),pL X.L xs se,pI n (X.L+200) 0],n+201,tk,[]⟩
def lk:Option bo:=dR b w (uZ b vv w F X n tk xs se)
theorem zU:SQ (uZ b vv w F X n tk xs se) (lk b vv w F X n tk xs se):=by apply bq2 b vv;kernel_rfl
theorem sQ:aY (lk b vv w F X n tk xs se):=af (by apply bq2 b vv;kernel_rfl)
end
section
variable(b vv:Bool)(w:World)(F:Nat)(X:Hv)(n tk:Nat)(xs:aN)(se n2 tk2:Nat)
abbrev DV:SD:=⟨[],[],[],gC (lk b vv w F X n tk xs se) (.ok .next) [] (n2+200) tk2,
 [],⟨.pure (.done .next),[],[],n2+200,tk2⟩,[]⟩
theorem zV:SK b w (DV b vv w F X n tk xs se n2 tk2):=by apply bq2 b vv;kernel_rfl
end
abbrev om (b:Bool)(w:World)(it n tk i S se:Nat)(xs:aN)(v:Value):SD:=⟨[0,0],[ac,.x (bW (it+200) (i:Int) v) [0,0],ac,bi],[],⟨fN it,[],[pI it (S+200) (i:Int),pL S xs se],n+200,tk⟩,
 [],⟨.pure (.done (.ret (v))),[],[pI it (S+200) ((i:Int)+1),pL S xs se],n+200,tk⟩,[⟨bc "list_iterator.__next__" [.ref (it+200)],bW (it+200) (i:Int) v,[((it+200),ba (S+200) ((i:Nat):Int)),((S+200),ab xs se)]⟩]⟩
theorem i4 (b:Bool)(w:World)(it n tk i S se:Nat)(xs:aN)(v:Value):SK b w (om b w it n tk i S se xs v):=by apply bq1 b;kernel_rfl
abbrev oq (b:Bool)(w:World)(it n tk i S se:Nat)(xs:aN):SD:=⟨[1],[ac,.x (dr (it+200)) [0,0],ac,bi,.a,.a,bf],[],⟨fN it,[],[pI it (S+200) (i:Int),pL S xs se],n+200,tk⟩,
 [],⟨.pure (.done .next),[],[pL S xs se],n+202,tk⟩,[⟨bc "list_iterator.__next__" [.ref (it+200)],dr (it+200),[((it+200),ba (S+200) ((i:Nat):Int)),((S+200),ab xs se)]⟩]⟩
theorem i5 (b:Bool)(w:World)(it n tk i S se:Nat)(xs:aN):SK b w (oq b w it n tk i S se xs):=by apply bq1 b;kernel_rfl
section
variable(b vv:Bool)(w:World)(F:Nat)(X:Hv)(n tk:Nat)(r:Nat)
abbrev DW:SD:=⟨[0],[ac,bi],[],⟨kN qE.1 (cq F) (.ref (r+200)),[],[bF b w F X (if vv then 4 else 3)],n+200,tk⟩,
 [],⟨.pure (.done .next),[],[bF b w F {X with row:=r,q:=qU X.q 3 (if vv then X.q 3 else tk)} 4],n+200,tk+1⟩,[]⟩
theorem zW:SK b w (DW b vv w F X n tk r):=by apply bq2 b vv;kernel_rfl
end
section
variable(b:Bool)(w:World)(F:Nat)(X:Hv)(n tk:Nat)(rs gs:aN)(es:Array DictEntry)(re de g ge:Nat)(key:Str)(kf:Nat->Nat)(kd:Nat)
abbrev zX:SD:=⟨[0,0,0,0],[ac,au,au,au,au,ac,.h [1],.a,.h [2],bf,bf,bf,bf,ac,.x (b5 (g+200) (.ref (X.row+200))) [3],j0],[aG key kf kd,eI (.ref (g+200))],⟨a0 Lr (cq F),[],[bF b w F X 4,pL X.row rs re,pD X.B es de,pL g gs ge],n+200,tk⟩,
 [⟨bc "str.join" [.str (Rf "") tk,.ref (X.4+200)],aG key kf kd,[((X.4+200),ab rs re)]⟩,⟨bc "dict.setdefault" [.ref (X.3+200),.str key ((kf (tk+1))),.ref (n+200)],eI (.ref (g+200)),[((X.3+200),j1 es de)]⟩],⟨.pure (.done .next),[],[bF b w F X 4,pL X.row rs re,pD X.B es de,pL g (gs.push (.ref (X.row+200))) (bU gs (.ref (X.row+200)) ge)],n+201,tk+1+kd+1⟩,[⟨bc "list.append" [.ref (g+200),.ref (X.4+200)],b5 (g+200) (.ref (X.row+200)),[((g+200),ab gs ge)]⟩]⟩
theorem DX:SK b w (zX b w F X n tk rs gs es re de g ge key kf kd):=by apply bq1 b;kernel_rfl
end
section
variable(b:Bool)(w:World)(F:Nat)(X:Hv)(n tk:Nat)(rs:aN)(es:Array DictEntry)(re de:Nat)(h:Int)(key:Str)(kf:Nat->Nat)(kd:Nat)
abbrev zY:SD:=⟨[0,0,0,0],[ac,au,au,au,au,ac,.h [1],.a,.x (jZ (X.B+200) h key (kf (tk+1)) (.ref (n+200)) (.ref (n+200))) [2],fV,bf,bf,bf,bf,ac,.i,bf,bf,j0,bf],[aG key kf kd],⟨a0 Lr (cq F),[],[bF b w F X 4,pL X.row rs re,pD X.B es de],n+200,tk⟩,
 [⟨bc "str.join" [.str (Rf "") tk,.ref (X.4+200)],aG key kf kd,[((X.4+200),ab rs re)]⟩],⟨.pure (.done .next),[],[bF b w F X 4,pL X.row rs re,pD X.B (es.push ⟨h,.str key (kf (tk+1)),.ref (n+200)⟩) (de+1),pL n #[.ref (X.row+200)] 1],n+201,tk+1+kd+1⟩,[⟨bc "dict.setdefault" [.ref (X.3+200),.str key ((kf (tk+1))),.ref (n+200)],jZ (X.B+200) h key (kf (tk+1)) (.ref (n+200)) (.ref (n+200)),[((X.3+200),j1 es de)]⟩]⟩
theorem DY:SK b w (zY b w F X n tk rs es re de h key kf kd):=by apply bq1 b;kernel_rfl
end
section
variable(b:Bool)(w:World)(F:Nat)(X:Hv)(n tk:Nat)
abbrev HY:SD:=⟨[0],[ac,bi],[],⟨a0 (uW 3) (cq F),[],[bF b w F X 4],n+200,tk⟩,
 [],⟨.pure (.done .next),[],[bF b w F {X with m:=99,mt:=tk,q:=qU X.q 4 (tk+1)} 5],n+200,tk+2⟩,[]⟩
theorem DZ:SK b w (HY b w F X n tk):=by apply bq1 b;kernel_rfl
end
section
variable(b:Bool)(w:World)(F:Nat)(X:Hv)(n tk:Nat)(es:Array DictEntry)(de:Nat)
abbrev ou:SC:=⟨[0,0,1],[ac,az,az,az,az,.i,az,az,.a,au,au,.i,au,au,az,az,.a,bf],[],⟨a0 (uW 4) (cq F),[],[bF b w F X 5,pD X.B es de],n+200,tk⟩,
 [],mq zI F (n+1),[bF b w F X 5,pD X.B es de,(n+1+200,zL (X.B+200) 0 es.size de)],n+202,tk,[]⟩
def ll:Option bo:=dR b w (ou b w F X n tk es de)
theorem zZ:SQ (ou b w F X n tk es de) (ll b w F X n tk es de):=by apply bq1 b;kernel_rfl
theorem sR:aY (ll b w F X n tk es de):=af (by apply bq1 b;kernel_rfl)
end
section
variable(b:Bool)(w:World)(F:Nat)(X:Hv)(n tk:Nat)(es:Array DictEntry)(de n2 tk2:Nat)
abbrev D0:SD:=⟨[],[],[],gC (ll b w F X n tk es de) (.ok .next) [] (n2+200) tk2,
 [],⟨.pure (.done .next),[],[],n2+200,tk2⟩,[]⟩
theorem z0:SK b w (D0 b w F X n tk es de n2 tk2):=by apply bq1 b;kernel_rfl
end
section
variable(b vv:Bool)(w:World)(F:Nat)(X:Hv)(n tk:Nat)(r:Nat)
abbrev HZ:SD:=⟨[0],[ac,bi],[],⟨kN zI.1 (cq F) (.ref (r+200)),[],[bF b w F X (if vv then 8 else 5)],n+200,tk⟩,
 [],⟨.pure (.done .next),[],[bF b w F {X with rows:=r,q:=qU X.q 5 (if vv then X.q 5 else tk)} (if vv then 8 else 6)],n+200,tk+1⟩,[]⟩
theorem D1:SK b w (HZ b vv w F X n tk r):=by apply bq2 b vv;kernel_rfl
abbrev H0:SD:=⟨[0],[ac,bi],[],⟨kN qF.1 (cq F) (.ref (r+200)),[],[bF b w F X (if vv then 8 else 6)],n+200,tk⟩,
 [],⟨.pure (.done .next),[],[bF b w F {X with one:=r,q:=qU X.q 6 (if vv then X.q 6 else tk)} (if vv then 8 else 7)],n+200,tk+1⟩,[]⟩
theorem D2:SK b w (H0 b vv w F X n tk r):=by apply bq2 b vv;kernel_rfl
abbrev H2:SD:=⟨[0],[ac,bi],[],⟨kN qG.1 (cq F) (.ref (r+200)),[],[bF b w F X (if vv then 8 else 7)],n+200,tk⟩,
 [],⟨.pure (.done .next),[],[bF b w F {X with two:=r,q:=qU X.q 7 (if vv then X.q 7 else tk)} 8],n+200,tk+1⟩,[]⟩
theorem D3:SK b w (H2 b vv w F X n tk r):=by apply bq2 b vv;kernel_rfl
end
section
variable(b vv:Bool)(w:World)(F:Nat)(X:Hv)(n tk:Nat)(xs:aN)(se:Nat)
abbrev u0:SC:=⟨[0,0,0],[ac,az,az,.i,az,.a,au],[],⟨a0 LT (cq F),[],[bF b w F X (if vv then 8 else 6),pL X.rows xs se],n+200,tk⟩,
 [],mq qF F n,[bF b w F X (if vv then 8 else 6),pL X.rows xs se,pI n (X.rows+200) 0],n+201,tk,[]⟩
def lm:Option bo:=dR b w (u0 b vv w F X n tk xs se)
theorem z5:SQ (u0 b vv w F X n tk xs se) (lm b vv w F X n tk xs se):=by apply bq2 b vv;kernel_rfl
theorem sS:aY (lm b vv w F X n tk xs se):=af (by apply bq2 b vv;kernel_rfl)
end
section
variable(b vv:Bool)(w:World)(F:Nat)(X:Hv)(n tk:Nat)(xs:aN)(se n2 tk2:Nat)
abbrev u3:SD:=⟨[],[],[],gC (lm b vv w F X n tk xs se) (.ok .next) [] (n2+200) tk2,
 [],⟨.pure (.done .next),[],[],n2+200,tk2⟩,[]⟩
theorem z6:SK b w (u3 b vv w F X n tk xs se n2 tk2):=by apply bq2 b vv;kernel_rfl
end
section
variable(b vv:Bool)(w:World)(F:Nat)(X:Hv)(n tk:Nat)(xs:aN)(se:Nat)
abbrev u6:SC:=⟨[0,0,0],[ac,az,az,.i,az,.a,au],[],⟨a0 HS (cq F),[],[bF b w F X (if vv then 8 else 7),pL X.rows xs se],n+200,tk⟩,
 [],mq qG F n,[bF b w F X (if vv then 8 else 7),pL X.rows xs se,pI n (X.rows+200) 0],n+201,tk,[]⟩
def lp:Option bo:=dR b w (u6 b vv w F X n tk xs se)
theorem z7:SQ (u6 b vv w F X n tk xs se) (lp b vv w F X n tk xs se):=by apply bq2 b vv;kernel_rfl
theorem sU:aY (lp b vv w F X n tk xs se):=af (by apply bq2 b vv;kernel_rfl)
end
section
variable(b vv:Bool)(w:World)(F:Nat)(X:Hv)(n tk:Nat)(xs:aN)(se n2 tk2:Nat)
abbrev u7:SD:=⟨[],[],[],gC (lp b vv w F X n tk xs se) (.ok .next) [] (n2+200) tk2,
 [],⟨.pure (.done .next),[],[],n2+200,tk2⟩,[]⟩
theorem z8:SK b w (u7 b vv w F X n tk xs se n2 tk2):=by apply bq2 b vv;kernel_rfl
end
section
variable(b:Bool)(w:World)(F:Nat)(X:Hv)(n tk:Nat)(os_ ts:aN)(oe te:Nat)(h1 h2:Str)(t1 t2:Nat)
abbrev H3:SD:=⟨[0,0,0],[ac,az,az,az,.h [1],ac,au,au,au,.h [2],.o],[aV (.str h1 t1),aV (.str h2 t2),aB false],⟨a0 Js (cq F),[],[bF b w F X 8,pL X.one os_ oe,pL X.two ts te],n+200,tk⟩,
 [⟨bc "list.__getitem__" [.ref (X.6+200),.int ((0:Nat):Int) tk],aV (.str h1 t1),[((X.6+200),ab os_ oe)]⟩,⟨bc "list.__getitem__" [.ref (X.7+200),.int ((0:Nat):Int) (tk+1)],aV (.str h2 t2),[((X.7+200),ab ts te)]⟩,⟨bc "str.__ne__" [.str h1 t1,.str h2 t2],aB false,[]⟩],⟨.pure (.done .next),[],[bF b w F X 8,pL X.one os_ oe,pL X.two ts te],n+200,tk+2⟩,[]⟩
theorem D4:SK b w (H3 b w F X n tk os_ ts oe te h1 h2 t1 t2):=by apply bq1 b;kernel_rfl
end
abbrev z9 (b:Bool)(w:World)(F:Nat)(X:Hv)(n tk:Nat)(os_ ts:aN)(oe te:Nat)(h1 h2:Str)(t1 t2:Nat):SD:=⟨[0,0],[ac,az,az,az,.h [1],ac,az,az,az,.h [1],.o],[aV (.str h1 t1),aV (.str h1 t1),aB false],⟨a0 Js (cq F),[],[bF b w F {X with two:=X.one} 8,pL X.one os_ oe],n+200,tk⟩,
 [⟨bc "list.__getitem__" [.ref (X.6+200),.int ((0:Nat):Int) tk],aV (.str h1 t1),[((X.6+200),ab os_ oe)]⟩,⟨bc "list.__getitem__" [.ref (X.6+200),.int ((0:Nat):Int) (tk+1)],aV (.str h1 t1),[((X.6+200),ab os_ oe)]⟩,⟨bc "str.__ne__" [.str h1 t1,.str h1 t1],aB false,[]⟩],⟨.pure (.done .next),[],[bF b w F {X with two:=X.one} 8,pL X.one os_ oe],n+200,tk+2⟩,[]⟩
theorem D5 (b:Bool)(w:World)(F:Nat)(X:Hv)(n tk:Nat)(os_ ts:aN)(oe te:Nat)(h1 h2:Str)(t1 t2:Nat):SK b w (z9 b w F X n tk os_ ts oe te h1 h2 t1 t2):=by apply bq1 b;kernel_rfl
section
variable(b:Bool)(w:World)(F:Nat)(X:Hv)(n tk:Nat)(os_ ts:aN)(oe te:Nat)(h1 h2:Str)(t1 t2:Nat)(a c d:Int)
abbrev H4:SD:=⟨[0,0,0],MT++[xP,b6,b6,b7,.i,b7,b7,b7,bf,b7,xC,.a,.a,hE,b6,xP,b6,ac,bi],[aV (.str h1 t1),aV (.str h2 t2),aB true,aL a,aL c,aI d,aB true],⟨a0 Js (cq F),[],[bF b w F X 8,pL X.one os_ oe,pL X.two ts te],n+200,tk⟩,
 [⟨bc "list.__getitem__" [.ref (X.6+200),.int ((0:Nat):Int) tk],aV (.str h1 t1),[((X.6+200),ab os_ oe)]⟩,⟨bc "list.__getitem__" [.ref (X.7+200),.int ((0:Nat):Int) (tk+1)],aV (.str h2 t2),[((X.7+200),ab ts te)]⟩,⟨bc "str.__ne__" [.str h1 t1,.str h2 t2],aB true,[]⟩,⟨bc "len" [.ref (X.6+200)],aL a,[((X.6+200),ab os_ oe)]⟩,⟨bc "len" [.ref (X.7+200)],aL c,[((X.7+200),ab ts te)]⟩,⟨bc "int.__add__" [.int a (tk+3),.int c (tk+5)],aI d,[]⟩,⟨bc "int.__lt__" [.int d (tk+6),.int X.m X.9],aB true,[]⟩],⟨.pure (.done .next),[],[bF b w F {X with m:=d,mt:=tk+6} 8,pL X.one os_ oe,pL X.two ts te],n+205,tk+8⟩,[]⟩
theorem D6:SK b w (H4 b w F X n tk os_ ts oe te h1 h2 t1 t2 a c d):=by apply bq1 b;kernel_rfl
abbrev H5:SD:=⟨[0,0,0],MT++[b7,.i,b7,b7,b7,bf,b7,xC,.a,.a,hE,b6,xP,b6,ac,bi],[aV (.str h1 t1),aV (.str h2 t2),aB true,aL a,aL c,aI d,aB false],⟨a0 Js (cq F),[],[bF b w F X 8,pL X.one os_ oe,pL X.two ts te],n+200,tk⟩,
 [⟨bc "list.__getitem__" [.ref (X.6+200),.int ((0:Nat):Int) tk],aV (.str h1 t1),[((X.6+200),ab os_ oe)]⟩,⟨bc "list.__getitem__" [.ref (X.7+200),.int ((0:Nat):Int) (tk+1)],aV (.str h2 t2),[((X.7+200),ab ts te)]⟩,⟨bc "str.__ne__" [.str h1 t1,.str h2 t2],aB true,[]⟩,⟨bc "len" [.ref (X.6+200)],aL a,[((X.6+200),ab os_ oe)]⟩,⟨bc "len" [.ref (X.7+200)],aL c,[((X.7+200),ab ts te)]⟩,⟨bc "int.__add__" [.int a (tk+3),.int c (tk+5)],aI d,[]⟩,⟨bc "int.__lt__" [.int d (tk+6),.int X.m X.9],aB false,[]⟩],⟨.pure (.done .next),[],[bF b w F X 8,pL X.one os_ oe,pL X.two ts te],n+205,tk+8⟩,[]⟩
theorem D7:SK b w (H5 b w F X n tk os_ ts oe te h1 h2 t1 t2 a c d):=by apply bq1 b;kernel_rfl
end
section
variable(b:Bool)(w:World)(F:Nat)(X:Hv)(n tk:Nat)
abbrev D8:SD:=⟨[],[ac],[],⟨a0 (uW 5) (cq F),[],[bF b w F X 8],n+200,tk⟩,
 [],⟨.pure (.done (.ret (.int X.m X.9))),[],[],n+200,tk⟩,[]⟩
theorem Aa:SK b w (D8 b w F X n tk):=by apply bq1 b;kernel_rfl
end
end Mine

namespace Mine
open PySem PyProof.Rows
noncomputable def bX (g:Lt):List Str:=g.L.map (·.1)
noncomputable def gf (W:List Str)(L:List (List Str)):List (List Str):=L.flatMap λr=>W.map λx=>r++[x]
theorem aa.mid {K:Nat->Option Obj}{s:Shared}{M N L R:aK}{nx tok:Nat}(I:aa K s (M++(N++(L++R))) nx tok):aa K s ((M++L)++(N++R)) nx tok:=by
 refine I.perm ?_
 rw[NP]
 exact NQ _ (NX _ _ _)
theorem gK:zJ=kY zJ:=by kernel_rfl
section
variable{b:Bool}{w:World}{B:Bx (KL (PB b w))}{A:Around}{s:Shared}{Q:Result->aP}
theorem Kj {lv:Nat}(hA:ad lv A){F it acc D S se dk:Nat}{C:List Tx}{r:Lt}{base:List (List Str)}(h9:C.length<=3)(hb:base.length<=400)(hr:r.L.length<=100) :
  ∀(left i:Nat) (vv:Bool) (n tk ae dk2:Nat) (v2:Value) (av:List Lt) (s:Shared) (R:aK),i+left=C.length->av.map bX=base++(C.take i).map (λp=>bX r++[p.1])->r.own∈R ->
  aa B.f s ([pI it (S+200) (i:Int),pL S (tL C) se,(D+200,l8 (PB b w) true vv dk dk2 (.ref (r.a+200)) v2),pL acc (aT av) ae]++R) (n+200) tk ->
  (∀(s':Shared) (n' tk' ae' dk2':Nat) (v2':Value) (vv':Bool) (av':List Lt) (N:aK),av'.map bX=base++C.map (λp=>bX r++[p.1])->(∀g∈av',g∈av\/g.own∈N)->aa B.f s' ([pL S (tL C) se,(D+200,l8 (PB b w) true vv' dk dk2' (.ref (r.a+200)) v2'),pL acc (aT av') ae']++(N++R)) (n'+200) tk'->(vv'=true\/i=C.length/\vv'=vv)->bZ s s'->Q (.ok .next) s') ->
  codeAny (Mo PW (WB b w)) A (jR F 1 it acc D) Q s:=by
 intro left
 induction left with
 | zero =>
  intro i vv n tk ae dk2 v2 av s R hi hav hrR I h
  refine aF (cp gK) ?_
  have e:i=C.length:=by lia
  subst e
  refine rF hA (DR b w F it acc D n tk C.length S se (tL C)) nP (fc ⟨aU (by rw[N8,aJ];lia),bu⟩) (R:=[(D+200,l8 (PB b w) true vv dk dk2 (.ref (r.a+200)) v2),pL acc (aT av) ae]++R) I λs1 I1 k1=>?_
  all_goals try dsimp only[zR]at I1
  rw[Om]at hav
  exact λ_ _ _=>h s1 _ _ ae dk2 v2 vv av [] hav (λy hy=>.inl hy) I1 (.inr ⟨rfl,rfl⟩) k1
 | succ left ih =>
  intro i vv n tk ae dk2 v2 av s R hi hav hrR I h
  with_reducible refine gx (l:=C) (i:=i) (by lia) λg hg=>?_
  have hal:av.length<=500:=by have:=congrArg N9 hav;simp at this;lia
  obtain⟨R',hp,J⟩:=I.tk hrR
  have J0:aa B.f s ([pI it (S+200) (i:Int),pL S (tL C) se,(D+200,l8 (PB b w) true vv dk dk2 (.ref (r.a+200)) v2),r.own,pL acc (aT av) ae]++R') (n+200) tk:=J.ord 5 [0,1,2,4,3]
  refine aF (cp gK) ?_
  refine rF hA (DT b vv w F it acc D n tk ae i S se dk dk2 r.a r.e (tL C) (aT av) (tL r.L) (tL r.L++#[.str g.1 g.2]) v2 g.1 g.2)
   (fc ⟨dY (by rw[aJ];simp;lia),bu⟩) (fc ⟨aH (cj hg),fc ⟨aD (by rw[dg];lia),bu⟩⟩) J0 λs1 I1 k1=>?_
  dsimp only[zS]at I1
  with_reducible refine nm (⟨n+1,0,r.L++[g]⟩:Lt) λz hz=>?_
  have ez:z.own=(pL (n+1) (tL r.L++#[.str g.1 g.2]) 0):=by rw[hz];show(pL (n+1) (tL (r.L++[g])) 0)=_;rw[<-cU];simp
  have ea:(aT av).push (.ref (n+1+200))=aT (av++[z]):=by rw[<-kZ,hz]
  rw[ea,show(i:Int)+1=((i+1:Nat):Int) by lia]at I1
  have J1:aa B.f s1 ([pI it (S+200) ((i+1:Nat):Int),pL S (tL C) se,(D+200,l8 (PB b w) true true dk (if vv then dk2 else tk) (.ref (r.a+200)) (.str g.1 g.2)),pL acc (aT (av++[z])) (bU (aT av) (.ref (n+1+200)) ae),z.own]++(r.own::R')) (n+2+200) (tk+1):=by
   rw[ez]
   exact I1.ord 6 [0,1,2,4,5,3]
  have J2:aa B.f s1 ([pI it (S+200) ((i+1:Nat):Int),pL S (tL C) se,(D+200,l8 (PB b w) true true dk (if vv then dk2 else tk) (.ref (r.a+200)) (.str g.1 g.2)),pL acc (aT (av++[z])) (bU (aT av) (.ref (n+1+200)) ae)]++(z.own::R)) (n+2+200) (tk+1):=aa.pb (M:=[pI it (S+200) ((i+1:Nat):Int),pL S (tL C) se,(D+200,l8 (PB b w) true true dk (if vv then dk2 else tk) (.ref (r.a+200)) (.str g.1 g.2)),pL acc (aT (av++[z])) (bU (aT av) (.ref (n+1+200)) ae),z.own]) J1 hp
  refine λ_ _ _=>⟨by rfl,ih (i+1) true (n+2) _ _ _ _ _ s1 (z.own::R) (by lia) ?_ (.tail _ hrR) J2 λs' n' tk' ae' dk2' v2' vv' av' N q0 q1 q2 q4 q3=>?_⟩
  ·rw[bt hg,NO,NO,hav]
   have:bX z=bX r++[g.1]:=by rw[hz];simp[bX]
   simp[this]
  ·have e:N++(z.own::R)=(N++[z.own])++R:=by simp
   rw[e]at q2
   refine h s' n' tk' ae' dk2' v2' vv' av' (N++[z.own]) q0 (λy hy=>?_) q2 (.inl (q4.elim (λx=>x) λx=>x.2)) (k1.trans q3)
   rcases q1 y hy with q|q
   ·rcases NK.mp q with q|q
    ·exact .inl q
    ·rw[NN.mp q];exact .inr (by simp)
   ·exact .inr (NK.mpr (.inl q))
theorem io (W:List Str)(L:List (List Str)):(gf W L).length=L.length*W.length:=by
 unfold gf
 induction L with
 | nil=>simp
 | cons x r ih=>rw[O0,NR,ih];simp[QM];lia
theorem H6 {lv:Nat}(hA:ad lv A)(hlv:lv<=13){F it acc D S se C0 ce:Nat}{C:List Tx}{Ls:List Lt}(h9:C.length<=3)(h1:1<=C.length)(hL:Ls.length<=100)(hz:∀g∈Ls,g.L.length<=100) :
  ∀(left i:Nat) (va vb:Bool) (n tk ae dk dk2:Nat) (v v2:Value) (av:List Lt) (s:Shared) (R:aK),i+left=Ls.length->av.map bX=gf (C.map (·.1)) ((Ls.take i).map bX)->(∀g∈Ls,g.own∈R)->va=decide (0<i)->vb=va ->
  aa B.f s ([pI it (S+200) (i:Int),pL S (aT Ls) se,(D+200,l8 (PB b w) va vb dk dk2 v v2),pC (F+1) (.ref (C0+200)),pL C0 (tL C) ce,pL acc (aT av) ae]++R) (n+200) tk ->
  (∀(s':Shared) (n' tk' ae' dk' dk2':Nat) (v' v2':Value) (av':List Lt) (N:aK),av'.map bX=gf (C.map (·.1)) (Ls.map bX)->(∀g∈av',g∈av\/g.own∈N)->aa B.f s' ([pL S (aT Ls) se,(D+200,l8 (PB b w) (decide (0<Ls.length)) (decide (0<Ls.length)) dk' dk2' v' v2'),pC (F+1) (.ref (C0+200)),pL C0 (tL C) ce,pL acc (aT av') ae']++(N++R)) (n'+200) tk'->bZ s s'->Q (.ok .next) s') ->
  codeAny (Mo PW (WB b w)) A (jR F 0 it acc D) Q s:=by
 intro left
 induction left with
 | zero =>
  intro i va vb n tk ae dk dk2 v v2 av s R hi hav hRL hva hvb I h
  refine aF (cp gK) ?_
  have e:i=Ls.length:=by lia
  subst hvb
  subst hva
  subst e
  refine rF hA (DQ b w F it acc D n tk Ls.length S se (aT Ls)) nP (fc ⟨aU (by rw[N8,dg];lia),bu⟩) (R:=[(D+200,l8 (PB b w) (decide (0<Ls.length)) (decide (0<Ls.length)) dk dk2 v v2),pC (F+1) (.ref (C0+200)),pL C0 (tL C) ce,pL acc (aT av) ae]++R) I λs1 I1 k1=>?_
  all_goals try dsimp only[zQ]at I1
  rw[Om]at hav
  exact λ_ _ _=>h s1 _ _ ae dk dk2 v v2 av [] hav (λy hy=>.inl hy) I1 k1
 | succ left ih =>
  intro i va vb n tk ae dk dk2 v v2 av s R hi hav hRL hva hvb I h
  with_reducible refine gx (l:=Ls) (i:=i) (by lia) λg hg=>?_
  have hgm:=NS hg
  have hal:av.length<=300:=by
   have:=congrArg N9 hav
   rw[io,NM,NM,NM,OR]at this
   have h2:min i Ls.length*C.length<=100*3:=P3 (by lia) h9
   lia
  refine aF (cp gK) ?_
  have J0:aa B.f s ([pI it (S+200) (i:Int),pL S (aT Ls) se,(D+200,l8 (PB b w) va vb dk dk2 v v2),pC (F+1) (.ref (C0+200)),pL C0 (tL C) ce]++([pL acc (aT av) ae]++R)) (n+200) tk:=I
  refine fz hA (DO b va vb w F it acc D n tk i S se C0 ce dk dk2 g.a (aT Ls) (tL C) v v2) rfl nP (fc ⟨aH (il hg),bu⟩) J0 λs1 I1 k1=>?_
  dsimp only[sO]at I1
  rw[show(i:Int)+1=((i+1:Nat):Int) by lia]at I1
  have J1:aa B.f s1 ([pI n (C0+200) ((0:Nat):Int),pL C0 (tL C) ce,(D+200,l8 (PB b w) true (va&&vb) (if va then dk else tk) dk2 (.ref (g.a+200)) v2),pL acc (aT av) ae]++([pI it (S+200) ((i+1:Nat):Int),pL S (aT Ls) se,pC (F+1) (.ref (C0+200))]++R)) (n+1+200) (tk+1):=I1.ord 7 [5,4,2,6,0,1,3]
  refine jQ gK (J1.has (pI n (C0+200) ((0:Nat):Int)) (.head _)) ?_
  refine Kj (hA.uq (wI ..)) (r:=g) (base:=gf (C.map (·.1)) ((Ls.take i).map bX)) h9 ?_ (hz g hgm) C.length 0 (va&&vb) (n+1) _ ae dk2 v2 av s1 ([pI it (S+200) ((i+1:Nat):Int),pL S (aT Ls) se,pC (F+1) (.ref (C0+200))]++R) (by lia) (by rw[hav];simp) (NK.mpr (.inr (hRL g hgm))) J1 ?_
  ·rw[<-hav,NM];lia
  intro s2 n2 tk2 ae2 dk22 v22 vv2 av2 N2 hav2 hR2 I2 hvv2 k2
  have evv:vv2=true:=hvv2.elim (λx=>x) λx=>absurd x.1 (by lia)
  subst evv
  refine rF hA (DP b va vb w F it acc D n tk i S se C0 ce dk dk2 g.a (aT Ls) (tL C) v v2 n2 tk2) nP nP I2 λs3 I3 k3=>?_
  have J3:aa B.f s3 ([pI it (S+200) ((i+1:Nat):Int),pL S (aT Ls) se,(D+200,l8 (PB b w) true true (if va then dk else tk) dk22 (.ref (g.a+200)) v22),pC (F+1) (.ref (C0+200)),pL C0 (tL C) ce,pL acc (aT av2) ae2]++(N2++R)) (n2+200) tk2:=by
   have K3:=aa.mid (M:=[pL C0 (tL C) ce,(D+200,l8 (PB b w) true true (if va then dk else tk) dk22 (.ref (g.a+200)) v22),pL acc (aT av2) ae2]) (L:=[pI it (S+200) ((i+1:Nat):Int),pL S (aT Ls) se,pC (F+1) (.ref (C0+200))]) I3
   exact K3.ord 6 [3,4,1,5,0,2]
  refine λ_ _ _=>⟨by rfl,ih (i+1) true true n2 _ ae2 _ _ _ _ av2 s3 (N2++R) (by lia) ?_ (λy hy=>NK.mpr (.inr (hRL y hy))) (by simp) rfl J3 λs' n' tk' ae' dk' dk2' v' v2' av' N q0 q1 q2 q3=>?_⟩
  ·rw[hav2,OT,hg,NO]
   simp[gf]
  ·rw[<-NP N]at q2
   refine h s' n' tk' ae' dk' dk2' v' v2' av' (N++N2) q0 (λy hy=>?_) q2 (((k1.trans k2).trans k3).trans q3)
   rcases q1 y hy with q|q
   ·rcases hR2 y q with q|q
    ·exact .inl q
    ·exact .inr (NK.mpr (.inr q))
   ·exact .inr (NK.mpr (.inl q))
end
noncomputable def jn (l:List Str):Str:=⟨((l.map (·.cps.toList)).flatten).toArray⟩
theorem D9 (L:List Tx):jn (L.map (·.1))=⟨(aZ L).toArray⟩:=by unfold jn aZ;rw[OL];rfl
structure Gp where
 (key:Str)
 (tok a e:Nat)
 rows:List Lt
abbrev Gp.own (g:Gp):aK:=[pL g.a (aT g.rows) g.e]
noncomputable def eO (l:List Gp):Dk:=l.map λg=>(g.key,g.tok,.ref (g.a+200))
structure fS (As:List (List Str))(bk:List Gp):Prop where
 nd:(bk.map (·.key)).Nodup
 tx:∀g∈bk,g.rows≠[]/\g.rows.length<=As.length/\∀r∈g.rows,jn (bX r)=g.key/\bX r∈As
 al:∀x∈As,∃g∈bk,∃r∈g.rows,bX r=x
 ln:bk.length<=As.length
theorem wJ {bk:List Gp}{k:Str}(h:bM (eO bk) k=none):∀g∈bk,g.key≠k:=by
 intro g hg e
 unfold bM at h
 simp only[Pf,Ps]at h
 have:=h (g.key,g.tok,.ref (g.a+200)) (NL.mpr ⟨g,hg,rfl⟩)
 simp[e]at this
theorem wK {bk:List Gp}{k:Str}{v:Value}(h:bM (eO bk) k=some v):∃(i:Nat) (g:Gp),bk[i]?=some g/\g.key=k/\v=.ref (g.a+200):=by
 obtain⟨i,t,_,h2⟩:=mP h
 unfold eO at h2
 rw[N7]at h2
 obtain⟨g,hg,e⟩:=Pw.mp h2
 simp only[Prod.mk.injEq]at e
 exact⟨i,g,hg,e.1,e.2.2.symm⟩
theorem fS.new {As:List (List Str)}{bk:List Gp}(h:fS As bk){x:List Str}{g:Gp}{r:Lt}(hx:bX r=x)(hg:g.key=jn x)(hr:g.rows=[r])(hn:∀y∈bk,y.key≠jn x):fS (As++[x]) (bk++[g]):=by
 refine⟨?_,λy hy=>?_,λy hy=>?_,by simp;exact h.ln⟩
 ·rw[NO,Oh]
  refine⟨h.nd,by simp,λa ha c hc e=>?_⟩
  obtain⟨y,hy,rfl⟩:=NL.mp ha
  simp only[Oa,Pp,NN]at hc
  exact hn y hy (by rw[e,hc,hg])
 ·rcases NK.mp hy with q|q
  ·obtain⟨h1,h2,h3⟩:=h.tx y q
   exact⟨h1,by simp;lia,λz hz=>⟨(h3 z hz).1,NK.mpr (.inl (h3 z hz).2)⟩⟩
  ·rw[NN.mp q,hr]
   refine⟨by simp,by simp,λz hz=>?_⟩
   rw[NN.mp hz,hx]
   exact⟨hg.symm,by simp⟩
 ·rcases NK.mp hy with q|q
  ·obtain⟨g',h1,r',h2,h3⟩:=h.al y q
   exact⟨g',NK.mpr (.inl h1),r',h2,h3⟩
  ·exact⟨g,by simp,r,by rw[hr];simp,by rw[hx,NN.mp q]⟩
theorem fS.more {As:List (List Str)}{bk:List Gp}(h:fS As bk){x:List Str}{i:Nat}{g g':Gp}{r:Lt}(hi:bk[i]?=some g)(hx:bX r=x)(hg:g.key=jn x)(hk:g'.key=g.key)(hr:g'.rows=g.rows++[r]):fS (As++[x]) (bk.set i g'):=by
 have hgm:=NS hi
 have hil:=(NW.mp hi).1
 refine⟨?_,λy hy=>?_,λy hy=>?_,by rw[List.length_set];simp;have:=h.ln;lia⟩
 ·rw[List.map_set,hk]
  have:(bk.map (·.key))[i]?=some g.key:=by rw[N7,hi];rfl
  rw[qu this]
  exact h.nd
 ·rcases Qz hy with q|q
  ·obtain⟨h1,h2,h3⟩:=h.tx y q
   exact⟨h1,by simp;lia,λz hz=>⟨(h3 z hz).1,NK.mpr (.inl (h3 z hz).2)⟩⟩
  ·obtain⟨h1,h2,h3⟩:=h.tx g hgm
   rw[q,hr,hk]
   refine⟨by simp,by simp;lia,λz hz=>?_⟩
   rcases NK.mp hz with q|q
   ·exact⟨(h3 z q).1,NK.mpr (.inl (h3 z q).2)⟩
   ·rw[NN.mp q,hx]
    exact⟨hg.symm,by simp⟩
 ·have in':∀z∈bk,z≠g->z∈bk.set i g':=λz hz hne=>by
   obtain⟨j,hj⟩:=OV.mp hz
   refine OV.mpr ⟨j,?_⟩
   rw[List.getElem?_set]
   split
   ·rename_i e;subst e;rw[hi]at hj;exact absurd (Oj.inj hj).symm hne
   ·exact hj
  have hg':g'∈bk.set i g':=OV.mpr ⟨i,by rw[P8 hil]⟩
  rcases NK.mp hy with q|q
  ·obtain⟨z,h1,r',h2,h3⟩:=h.al y q
   by_cases e:z=g
   ·exact⟨g',hg',r',by rw[hr,NK];exact .inl (by rw[<-e];exact h2),h3⟩
   ·exact⟨z,in' z h1 e,r',h2,h3⟩
  ·exact⟨g',hg',r,by rw[hr];simp,by rw[hx,NN.mp q]⟩
section
variable{b:Bool}{w:World}{B:Bx (KL (PB b w))}{A:Around}{s:Shared}
abbrev rf (P:Params)(bk:List Gp)(de:Nat):Obj:=j1 (a7 P (eO bk)) de
theorem Ab:qE.2=[Lr]:=by kernel_rfl
theorem Ea:zH.2=[Jr 0,Jr 1]:=by kernel_rfl
theorem H7 {lv:Nat}(hA:ad lv A){st:Stmt}(hst:st=Lr){F n tk de:Nat}{X:Hv}{As:List (List Str)}{bk:List Gp}(ok:fS As bk)(hAs:As.length<=100)(hb1:X.B+200≠1){r:Lt}(hr:r.a=X.row)(hrl:(aZ r.L).length<=100){R:aK}(hR:r.own∈R)
  (I:aa B.f s ([bF b w F X 4,(X.B+200,rf (PB b w) bk de)]++(bk.flatMap Gp.own++R)) (n+200) tk) {Q:Flow->aP} {E:Value->aP}
  (h:∀(s':Shared) (bk':List Gp) (n' tk' de':Nat),fS (As++[bX r]) bk'->aa B.f s' ([bF b w F X 4,(X.B+200,rf (PB b w) bk' de')]++(bk'.flatMap Gp.own++R)) (n'+200) tk'->(∀g'∈bk',∀y∈g'.rows,y=r\/∃g∈bk,y∈g.rows)->bZ s s'->Q .next s') :
  wpAny (Mo PW (WB b w)) A (exec st (cq F)) Q E s:=by
 subst hst
 have l5:2000<=sizeLine:=by decide +kernel
 have hln:=ok.ln
 have hkl:(eO bk).length<=1000:=by unfold eO;rw[NM];lia
 have pj:∀t:Nat,ak PW (WB b w) (KL (PB b w)) 9000 ⟨bc "str.join" [.str (Rf "") t,.ref (r.a+200)],aG (jn (bX r)) (d8 r.L) (ev r.L),[pL r.a (tL r.L) r.e]⟩:=λt=>by
  have:=dW (prog:=PW) (w:=WB b w) (K:=KL (PB b w)) (U:=9000) (t:=t) (a:=r.a+200) (e:=r.e) (ps:=r.L) (by lia)
  rw[<-D9]at this
  exact this
 refine aX ?_
 have J0:aa B.f s (([bF b w F X 4,(X.B+200,rf (PB b w) bk de)]++bk.flatMap Gp.own)++R) (n+200) tk:=I.asc
 obtain⟨R',hp,J1⟩:=J0.tk hR
 rw[hr]at pj
 have er:r.own=(pL X.row (tL r.L) r.e):=by rw[<-hr]
 cases hd:bM (eO bk) (jn (bX r))with
 | none =>
  have K1:aa B.f s ([bF b w F X 4,pL X.row (tL r.L) r.e,(X.B+200,rf (PB b w) bk de)]++(bk.flatMap Gp.own++R')) (n+200) tk:=by
   rw[<-er]
   have K0:aa B.f s ([bF b w F X 4,(X.B+200,rf (PB b w) bk de)]++(bk.flatMap Gp.own++([r.own]++R'))) (n+200) tk:=J1.asd
   exact(aa.mid (L:=[r.own]) K0).ord 3 [0,2,1]
  refine rF hA (DY b w F X n tk (tL r.L) (a7 (PB b w) (eO bk)) r.e de (PyData.keyHash (PB b w) (jn (bX r))) (jn (bX r)) (d8 r.L) (ev r.L)) (fc ⟨pj _,bu⟩) (fc ⟨eK hb1 hkl hd,bu⟩) K1 λs1 I1 k1=>ap ?_
  dsimp only[zY]at I1
  rw[iP]at I1
  with_reducible refine nm (⟨jn (bX r),d8 r.L (tk+1),n,1,[r]⟩:Gp) λg hg=>?_
  have eg:(pL n #[.ref (X.row+200)] 1)=(pL g.a (aT g.rows) g.e):=by rw[hg,<-hr];rfl
  have eb:eO bk++[(jn (bX r),d8 r.L (tk+1),.ref (n+200))]=eO (bk++[g]):=by rw[hg];simp[eO]
  rw[eb,eg,<-er]at I1
  have hpm:((bk++[g]).flatMap Gp.own).Perm ((pL g.a (aT g.rows) g.e)::bk.flatMap Gp.own):=by
   rw[Pc]
   simp only[O0,List.flatMap_nil,Oc]
   exact OW
  have K2:aa B.f s1 ([bF b w F X 4,(X.B+200,rf (PB b w) (bk++[g]) (de+1))]++((bk++[g]).flatMap Gp.own++R)) (n+1+200) (tk+1+ev r.L+1):=by
   refine(I1.ord 4 [0,2,3,1]).perm ?_
   show([bF b w F X 4,(X.B+200,rf (PB b w) (bk++[g]) (de+1))]++((pL g.a (aT g.rows) g.e)::([r.own]++(bk.flatMap Gp.own++R')))).Perm _
   refine NQ _ ?_
   refine((Q5 _ (NX [r.own] _ _)).trans ?_)
   rw[<-Oi]
   exact List.Perm.append hpm.symm hp.symm
  refine h s1 (bk++[g]) _ _ _ (ok.new rfl (by rw[hg]) (by rw[hg]) (λy hy=>wJ hd y hy)) K2 (λg' hg' y hy=>?_) k1
  rcases NK.mp hg' with q|q
  ·exact .inr ⟨g',q,hy⟩
  ·rw[NN.mp q,hg]at hy
   exact .inl (NN.mp hy)
 | some v =>
  obtain⟨i,g,hi,hgk,rfl⟩:=wK hd
  obtain⟨_,hgl,hgt⟩:=ok.tx g (NS hi)
  have K1:aa B.f s ([bF b w F X 4,pL X.row (tL r.L) r.e,(X.B+200,rf (PB b w) bk de),pL g.a (aT g.rows) g.e]++(mR Gp.own bk i++R')) (n+200) tk:=by
   rw[<-er]
   have K0:aa B.f s ([bF b w F X 4,(X.B+200,rf (PB b w) bk de)]++(bk.flatMap Gp.own++([r.own]++R'))) (n+200) tk:=J1.asd
   have K2:=aa.out hi K0
   have K3:aa B.f s (([bF b w F X 4,(X.B+200,rf (PB b w) bk de),pL g.a (aT g.rows) g.e]++[r.own])++(mR Gp.own bk i++R')) (n+200) tk:=aa.mid (M:=[bF b w F X 4,(X.B+200,rf (PB b w) bk de),pL g.a (aT g.rows) g.e]) K2
   exact K3.ord 4 [0,3,1,2]
  refine rF hA (DX b w F X n tk (tL r.L) (aT g.rows) (a7 (PB b w) (eO bk)) r.e de g.a g.e (jn (bX r)) (d8 r.L) (ev r.L)) (fc ⟨pj _,fc ⟨fD hb1 hkl hd,bu⟩⟩) (fc ⟨aD (by rw[dg];lia),bu⟩) K1 λs1 I1 k1=>ap ?_
  dsimp only[zX]at I1
  with_reducible refine nm (⟨g.key,g.tok,g.a,bU (aT g.rows) (.ref (X.row+200)) g.e,g.rows++[r]⟩:Gp) λg' hg'=>?_
  have eg:(pL g.a ((aT g.rows).push (.ref (X.row+200))) (bU (aT g.rows) (.ref (X.row+200)) g.e))=(pL g'.a (aT g'.rows) g'.e):=by rw[hg',<-hr,kZ]
  have eb:eO bk=eO (bk.set i g'):=by
   unfold eO
   rw[List.map_set]
   refine(qu ?_).symm
   rw[N7,hi,hg'];rfl
  rw[eg,eb,<-er]at I1
  have K2:aa B.f s1 ([bF b w F X 4,(X.B+200,rf (PB b w) (bk.set i g') de)]++((bk.set i g').flatMap Gp.own++R)) (n+1+200) (tk+1+ev r.L+1):=by
   have K3:aa B.f s1 ([bF b w F X 4,(X.B+200,rf (PB b w) (bk.set i g') de)]++(g'.own++(r.own::(mR Gp.own bk i++R')))) (n+1+200) (tk+1+ev r.L+1):=I1.ord 4 [0,2,3,1]
   have K4:aa B.f s1 ([bF b w F X 4,(X.B+200,rf (PB b w) (bk.set i g') de)]++(g'.own++(mR Gp.own bk i++R))) (n+1+200) (tk+1+ev r.L+1):=by
    refine K3.perm (NQ _ (NQ _ ?_))
    exact(NX [r.own] _ _).trans (NQ _ hp.symm)
   exact aa.into hi K4
  refine h s1 (bk.set i g') _ _ _ (ok.more hi rfl hgk (by rw[hg']) (by rw[hg'])) K2 (λy hy z hz=>?_) k1
  rcases Qz hy with q|q
  ·exact .inr ⟨y,q,hz⟩
  ·rw[q,hg']at hz
   rcases NK.mp hz with q|q
   ·exact .inr ⟨g,NS hi,q⟩
   ·exact .inl (NN.mp q)
end
abbrev gR (b:Bool)(w:World)(x:Nat)(l:List Gp)(e:Nat):Addr×Obj:=(x+200,rf (PB b w) l e)
section
variable{b:Bool}{w:World}{B:Bx (KL (PB b w))}{A:Around}{s:Shared}
inductive M7 (b:Bool)(w:World)(B:Bx (KL (PB b w)))(s:Shared)(F:Nat)(it:Nat)(se:Nat)(X:Hv)(vv:Bool)(As:List (List Str))(bk:List Gp)(Ls:List Lt)(R:aK)(left:Nat)(s':Shared):Prop
 | mk (k:Nat) (X':Hv) (bk':List Gp) (n' tk' de':Nat) (h1:k+left=Ls.length) (h2:X'.B=X.B) (h3:X'.L=X.L) (h4:fS (As++(Ls.take k).map bX) bk') (h5:(∀g'∈bk',∀y∈g'.rows,y∈Ls\/∃g∈bk,y∈g.rows)) (h6:aa B.f s' ([pI it (X.L+200) (k:Int),pL X.L (aT Ls) se,bF b w F X' (if(vv || decide (0<k))=true then 4 else 3),gR b w X'.B bk' de']++(bk'.flatMap Gp.own++R)) (n'+200) tk') (h7:bZ s s'):M7 b w B s F it se X vv As bk Ls R left s'
theorem Eb {lv:Nat}(hA:ad lv A){F it n tk de se:Nat}{X:Hv}{vv:Bool}{As:List (List Str)}{bk:List Gp}(ok:fS As bk){Ls:List Lt}(hAs:As.length+Ls.length<=100)(hb1:X.B+200≠1)(hL1:1<=Ls.length)(hz:∀r∈Ls,(aZ r.L).length<=100){R:aK}(hR:∀r∈Ls,r.own∈R)
  (I:aa B.f s ([pI it (X.L+200) ((0:Nat):Int),pL X.L (aT Ls) se,bF b w F X (if vv then 4 else 3),gR b w X.B bk de]++(bk.flatMap Gp.own++R)) (n+200) tk) {Q:Result->aP}
  (h:∀(s':Shared) (X':Hv) (bk':List Gp) (n' tk' de':Nat),X'.B=X.B->X'.L=X.L->fS (As++Ls.map bX) bk'->(∀g'∈bk',∀y∈g'.rows,y∈Ls\/∃g∈bk,y∈g.rows)->aa B.f s' ([bF b w F X' 4,gR b w X'.B bk' de',pL X.L (aT Ls) se]++(bk'.flatMap Gp.own++R)) (n'+200) tk'->bZ s s'->Q (.ok .next) s') :
  codeAny (Mo PW (WB b w)) A (mq qE F it) Q s:=by
 refine codeAny_forLoop (M7 b w B s F it se X vv As bk Ls R) ?_ Ls.length
  ⟨0,X,bk,n,tk,de,OF _,rfl,rfl,by simpa using ok,λg' hg' y hy=>.inr ⟨g',hg',hy⟩,by simpa using I,.rfl'⟩ (λ_=>by rfl)
 rintro left s1 ⟨k,X1,bk1,n1,tk1,de1,hk,hXB,hXL,ok1,hrs1,I1,k1⟩
 cases left with
 | zero =>
  refine bN (it:=it) ?_
  refine rF hA (i5 b w it n1 tk1 k X.L se (aT Ls)) nP (fc ⟨aU (by rw[N8,dg];lia),bu⟩) I1 λs2 I2 k2=>ap ?_
  all_goals try dsimp only[oq]at I2
  refine wpAny_execs_nil ?_
  have e:k=Ls.length:=by lia
  subst e
  rw[Om]at ok1
  rw[show(vv || decide (0<Ls.length))=true by simp;lia]at I2
  exact h s2 X1 bk1 _ _ de1 hXB hXL ok1 hrs1 (I2.ord 3 [1,2,0]) (k1.trans k2)
 | succ left =>
  with_reducible refine gx (l:=Ls) (i:=k) (by lia) λg hg=>?_
  have hgm:=NS hg
  refine bN (it:=it) ?_
  refine rF hA (i4 b w it n1 tk1 k X.L se (aT Ls) (.ref (g.a+200))) nP (fc ⟨aH (il hg),bu⟩) I1 λs2 I2 k2=>ap ?_
  dsimp only[om]at I2
  rw[show(k:Int)+1=((k+1:Nat):Int) by lia]at I2
  refine fy ?_
  have J2:aa B.f s2 ([bF b w F X1 (if(vv || decide (0<k))=true then 4 else 3)]++([gR b w X1.B bk1 de1,pI it (X.L+200) ((k+1:Nat):Int),pL X.L (aT Ls) se]++(bk1.flatMap Gp.own++R))) (n1+200) _:=I2.ord 4 [2,3,0,1]
  refine rF hA (zW b (vv || decide (0<k)) w F X1 n1 _ g.a) nP nP J2 λs3 I3 k3=>ap ?_
  with_reducible refine nm ({X1 with row:=g.a,q:=qU X1.q 3 (if(vv || decide (0<k))=true then X1.q 3 else tk1)}:Hv) λX3 hX3=>?_
  have e1:X3.B=X1.B:=by rw[hX3]
  have e2:X3.L=X1.L:=by rw[hX3]
  have e3:g.a=X3.row:=by rw[hX3]
  have J3:aa B.f s3 ([bF b w F X3 4,gR b w X3.B bk1 de1]++(bk1.flatMap Gp.own++([pI it (X.L+200) ((k+1:Nat):Int),pL X.L (aT Ls) se]++R))) (n1+200) (tk1+1):=by
   rw[e1,hX3]
   exact aa.swp (M:=[pI it (X.L+200) ((k+1:Nat):Int),pL X.L (aT Ls) se]) (H:=[bF b w F {X1 with row:=g.a,q:=qU X1.q 3 (if(vv || decide (0<k))=true then X1.q 3 else tk1)} 4,gR b w X1.B bk1 de1]) I3
  rw[Ab]
  refine wpAny_execs_cons ?_
  refine H7 hA rfl ok1 (by simp;lia) (by rw[e1,hXB];exact hb1) e3 (hz g hgm) (NK.mpr (.inr (hR g hgm))) J3 ?_
  intro s4 bk4 n4 tk4 de4 ok4 I4 hrs4 k4
  refine wpAny_execs_nil ?_
  have J4:aa B.f s4 ([pI it (X.L+200) ((k+1:Nat):Int),pL X.L (aT Ls) se,bF b w F X3 4,gR b w X3.B bk4 de4]++(bk4.flatMap Gp.own++R)) (n4+200) tk4:=(aa.swp (N:=[pI it (X.L+200) ((k+1:Nat):Int),pL X.L (aT Ls) se]) I4).ord 4 [2,3,0,1]
  refine⟨left,Og _,k+1,X3,bk4,n4,tk4,de4,by lia,e1.trans hXB,e2.trans hXL,?_,λg' hg' y hy=>?_,?_,((k1.trans k2).trans k3).trans k4⟩
  ·rw[bt hg,NO,<-NP];exact ok4
  ·rcases hrs4 g' hg' y hy with q|⟨g2,q,q2⟩
   ·exact .inl (by rw[q];exact hgm)
   ·exact hrs1 g2 q y q2
  ·rw[show(vv || decide (0<k+1))=true by simp];exact J4
def gS (W:List Str):Nat->List (List Str)
 | 0=>[[]]
 | k+1=>gf W (gS W k)
def dN (W:List Str):Nat->List (List Str)
 | 0=>[]
 | k+1=>dN W k++gS W (k+1)
theorem gh {W:List Str}(h:W.length<=3):∀k,(gS W k).length<=3^k
 | 0=>NT _
 | k+1=>by
  rw[gS,io,Ra]
  exact P3 (gh h k) h
theorem i6 {W:List Str}(h:1<=W.length):∀k,1<=(gS W k).length
 | 0=>NT _
 | k+1=>by rw[gS,io];exact Nat.mul_pos (i6 h k) h
theorem fg {W:List Str}:∀(k:Nat) (r:List Str),r∈gS W k↔r.length=k/\∀x∈r,x∈W
 | 0,r=>by rw[gS,NN];exact⟨λe=>by rw[e];exact⟨rfl,λx hx=>nomatch hx⟩,λh=>P2.mp h.1⟩
 | k+1,r=>by
  rw[gS,gf,Ph]
  constructor
  ·rintro⟨a,ha,hr⟩
   obtain⟨x,hx,rfl⟩:=NL.mp hr
   obtain⟨h1,h2⟩:=(fg k a).mp ha
   refine⟨by simp[h1],λy hy=>?_⟩
   rcases NK.mp hy with q|q
   ·exact h2 y q
   ·rw[NN.mp q];exact hx
  ·rintro⟨h1,h2⟩
   have hne:r≠[]:=by rintro rfl;cases h1
   refine⟨r.dropLast,(fg k _).mpr ⟨by rw[List.length_dropLast];lia,λx hx=>h2 x (List.dropLast_subset _ hx)⟩,NL.mpr ⟨r.getLast hne,h2 _ (List.getLast_mem hne),List.dropLast_concat_getLast hne⟩⟩
theorem d5 {W:List Str}:∀(k:Nat) (r:List Str),r∈dN W k↔(1<=r.length/\r.length<=k)/\∀x∈r,x∈W
 | 0,r=>by simp only[dN,OX,false_iff];lia
 | k+1,r=>by
  rw[dN,NK,d5 k,fg]
  constructor
  ·rintro(⟨h1,h2⟩|⟨h1,h2⟩)
   ·exact⟨by lia,h2⟩
   ·exact⟨by lia,h2⟩
  ·rintro⟨h1,h2⟩
   by_cases e:r.length=k+1
   ·exact .inr ⟨e,h2⟩
   ·exact .inl ⟨by lia,h2⟩
theorem u8 {L:List Tx}{c:Nat}(h:∀p∈L,p.1.length<=c):(aZ L).length<=L.length*c:=by
 induction L with
 | nil=>simp[aZ]
 | cons x r ih =>
  have h1:=h x (.head _)
  have h2:=ih λy hy=>h y (.tail _ hy)
  have e:(aZ (x::r)).length=x.1.length+(aZ r).length:=by simp[aZ,Str.length]
  rw[e,NV,QM];lia
theorem wL {W:List Str}{i j:Nat}(h:i<=j):(dN W i).length<=(dN W j).length:=by
 induction h with
 | refl=>exact NT _
 | step _ ih=>exact NU ih (by rw[dN,NR];exact PL _ _)
theorem qH {W:List Str}(h:W.length<=3):(dN W 3).length<=39:=by
 have h1:=gh h (0+1)
 have h2:=gh h (1+1)
 have h3:=gh h (2+1)
 simp only[dN,NR,Ow]
 lia
theorem aa.re {K:Nat->Option Obj}{s:Shared}{H M N L R:aK}{nx tok:Nat}(I:aa K s (H++(M++(N++(L++R)))) nx tok):aa K s (H++(N++((M++L)++R))) nx tok:=by
 rw[NP M]
 exact aa.swp I
inductive M8 (b:Bool)(w:World)(B:Bx (KL (PB b w)))(s:Shared)(F:Nat)(it:Nat)(X:Hv)(C0:Nat)(ce:Nat)(C:List Tx)(R:aK)(left:Nat)(s':Shared):Prop
 | mk (k:Nat) (X':Hv) (bk':List Gp) (Ls:List Lt) (n' tk' de' se':Nat) (N:aK) (h1:k+left=3) (h2:X'.B=X.B) (h3:Ls.map bX=gS (C.map (·.1)) k) (h4:fS (dN (C.map (·.1)) k) bk') (h5:(∀g∈bk',∀y∈g.rows,y.own∈N++R)) (h6:(∀y∈Ls,y.own∈N++R)) (h7:aa B.f s' ([pR it (k:Int) (left:Int) 1,bF b w F X' (if decide (0<k)=true then 4 else 2),pC (F+1) (.ref (C0+200)),pL C0 (tL C) ce,pL X'.L (aT Ls) se',gR b w X'.B bk' de']++(bk'.flatMap Gp.own++(N++R))) (n'+200) tk') (h8:bZ s s'):M8 b w B s F it X C0 ce C R left s'
theorem Ec {lv:Nat}(hA:ad lv A)(hlv:lv<=10){F it n tk se:Nat}{X:Hv}{C0 ce:Nat}{C:List Tx}(hC:gc C){lst:Lt}(hl:lst.L=[]){R:aK}(hR:lst.own∈R)
  (I:aa B.f s ([pR it 0 3 1,bF b w F X 2,pC (F+1) (.ref (C0+200)),pL C0 (tL C) ce,pL X.L (aT [lst]) se,gR b w X.B [] 0]++R) (n+200) tk) {Q:Result->aP}
  (h:∀(s':Shared) (X':Hv) (bk':List Gp) (n' tk' de':Nat) (N:aK),fS (dN (C.map (·.1)) 3) bk'->(∀g∈bk',∀y∈g.rows,y.own∈N++R)->aa B.f s' ([bF b w F X' 4,gR b w X'.B bk' de',pL C0 (tL C) ce]++(bk'.flatMap Gp.own++(N++R))) (n'+200) tk'->bZ s s'->Q (.ok .next) s') :
  codeAny (Mo PW (WB b w)) A (mq zH F it) Q s:=by
 have h3:(C.map (·.1)).length<=3:=by rw[NM];exact hC.l3
 have h1:1<=(C.map (·.1)).length:=by rw[NM];exact hC.l1
 refine codeAny_forLoop (M8 b w B s F it X C0 ce C R) ?_ 3
  ⟨0,X,[],[lst],n,tk,0,se,[],rfl,rfl,by simp[bX,hl,gS],⟨by simp,λg hg=>(nomatch hg),λx hx=>(nomatch hx),NT _⟩,λg hg=>(nomatch hg),λy hy=>by rw[NN.mp hy];exact hR,I,.rfl'⟩ (λ_=>by rfl)
 rintro left s1 ⟨k,X1,bk1,Ls1,n1,tk1,de1,se1,N1,hk,hXB,hLs,ok1,hb1',hl1,I1,k1⟩
 cases left with
 | zero =>
  refine bN (it:=it) ?_
  refine rF hA (uL b w it n1 tk1 (k:Int) ((0:Nat):Int)) nP (fc ⟨dB (by lia),bu⟩) I1 λs2 I2 k2=>ap ?_
  dsimp only[sB]at I2
  refine wpAny_execs_nil ?_
  have e:k=3:=by lia
  subst e
  exact h s2 X1 bk1 _ _ de1 N1 ok1 hb1' (I2.ord 5 [0,4,2]) (k1.trans k2)
 | succ left =>
  refine bN (it:=it) ?_
  refine rF hA (uK b w it n1 tk1 (k:Int) ((left+1:Nat):Int)) nP (fc ⟨dd (by lia),bu⟩) I1 λs2 I2 k2=>ap ?_
  dsimp only[sA]at I2
  rw[show(k:Int)+1=((k+1:Nat):Int) by lia,show(((left+1:Nat):Int)-1)=(left:Int) by lia]at I2
  refine fy ?_
  have J2:aa B.f s2 ([bF b w F X1 (if decide (0<k)=true then 4 else 2)]++([pR it ((k+1:Nat):Int) (left:Int) 1,pC (F+1) (.ref (C0+200)),pL C0 (tL C) ce,pL X1.L (aT Ls1) se1,gR b w X1.B bk1 de1]++(bk1.flatMap Gp.own++(N1++R)))) (n1+200) _:=I2.ord 6 [1,0,2,3,4,5]
  refine rF hA (zO b (decide (0<k)) w F X1 n1 _ (k:Int) tk1) nP nP J2 λs3 I3 k3=>ap ?_
  with_reducible refine nm ({X1 with k:=(k:Int),kt:=tk1,q:=qU X1.q 2 (if decide (0<k)=true then X1.q 2 else tk1+1)}:Hv) λX3 hX3=>?_
  have e1:X3.B=X1.B:=by rw[hX3]
  have e2:X3.L=X1.L:=by rw[hX3]
  rw[Ea]
  refine wpAny_execs_cons ?_
  refine aX ?_
  have J3:aa B.f s3 ([bF b w F X3 (if decide (0<k)=true then 4 else 3),pL X3.L (aT Ls1) se1]++([pR it ((k+1:Nat):Int) (left:Int) 1,pC (F+1) (.ref (C0+200)),pL C0 (tL C) ce,gR b w X3.B bk1 de1]++(bk1.flatMap Gp.own++(N1++R)))) (n1+200) (tk1+1+1):=by
   rw[e1,e2,hX3];exact I3.ord 6 [0,4,1,2,3,5]
  refine fz hA (zP b (decide (0<k)) w F X3 n1 (tk1+1+1) (aT Ls1) se1) rfl nP nP J3 λs4 I4 k4=>?_
  have hp3:3^k<=9:=NU (Pm (by decide) (show k<=2 by lia)) (by decide)
  have hL100:Ls1.length<=9:=by
   have h5:=congrArg N9 hLs
   rw[NM]at h5
   have:=gh h3 k
   lia
  have hLpos:0<Ls1.length:=by
   have h5:=congrArg N9 hLs
   rw[NM]at h5
   have:=i6 h1 k
   lia
  have hLz:∀g∈Ls1,g.L.length=k/\∀x∈bX g,x∈C.map (·.1):=λg hg=>by
   have h5:bX g∈gS (C.map (·.1)) k:=by rw[<-hLs];exact NL.mpr ⟨g,hg,rfl⟩
   have h6:=(fg k _).mp h5
   exact⟨by simpa[bX]using h6.1,h6.2⟩
  have J4:aa B.f s4 ([pI n1 (X3.L+200) ((0:Nat):Int),pL X3.L (aT Ls1) se1,(n1+2+200,l8 (PB b w) false false 0 0 .none .none),pC (F+1) (.ref (C0+200)),pL C0 (tL C) ce,pL (n1+1) (aT []) 0]++([bF b w F X3 (if decide (0<k)=true then 4 else 3),pR it ((k+1:Nat):Int) (left:Int) 1,gR b w X3.B bk1 de1]++(bk1.flatMap Gp.own++(N1++R)))) (n1+3+200) (tk1+1+1):=I4.ord 9 [2,1,4,6,7,3,0,5,8]
  refine g6 gK (J4.has (pI n1 (X3.L+200) ((0:Nat):Int)) (.head _)) ?_
  refine H6 (hA.uq (sN ..)) (by lia) hC.l3 hC.l1 (by lia) (λg hg=>by rw[(hLz g hg).1];lia) Ls1.length 0 false false (n1+3) _ 0 0 0 .none .none [] s4 _ (by lia) rfl (λg hg=>NK.mpr (.inr (NK.mpr (.inr (hl1 g hg))))) rfl rfl J4 ?_
  intro s5 n5 tk5 ae5 dk5 dk52 v5 v52 av5 N5 hav5 hown5 I5 k5
  rw[decide_eq_true hLpos]at I5
  have J5:aa B.f s5 ([bF b w F X3 (if decide (0<k)=true then 4 else 3),(n1+2+200,l8 (PB b w) true true dk5 dk52 v5 v52)]++([pL (n1+1) (aT av5) ae5,pR it ((k+1:Nat):Int) (left:Int) 1,pC (F+1) (.ref (C0+200)),pL C0 (tL C) ce,gR b w X3.B bk1 de1]++(bk1.flatMap Gp.own++((N5++N1)++R)))) (n5+200) tk5:=by
   have K5:=(aa.mid (M:=[pL X3.L (aT Ls1) se1,(n1+2+200,l8 (PB b w) true true dk5 dk52 v5 v52),pC (F+1) (.ref (C0+200)),pL C0 (tL C) ce,pL (n1+1) (aT av5) ae5]) (L:=[bF b w F X3 (if decide (0<k)=true then 4 else 3),pR it ((k+1:Nat):Int) (left:Int) 1,gR b w X3.B bk1 de1]) I5).ord 8 [5,1,4,6,2,3,7]
   have K6:=aa.re (M:=N5) (N:=bk1.flatMap Gp.own) (L:=N1) (R:=R) K5
   exact K6
  refine rF hA (zT b (decide (0<k)) w F X3 n1 (tk1+1+1) (aT Ls1) se1 n5 tk5 dk5 dk52 v5 v52) nP nP J5 λs6 I6 k6=>ap ?_
  with_reducible refine nm ({X3 with L:=n1+1}:Hv) λX6 hX6=>?_
  have e6:X6.B=X3.B:=by rw[hX6]
  have e6L:n1+1=X6.L:=by rw[hX6]
  refine wpAny_execs_cons ?_
  refine aX ?_
  have J6:aa B.f s6 ([bF b w F X6 (if decide (0<k)=true then 4 else 3),pL X6.L (aT av5) ae5]++([pR it ((k+1:Nat):Int) (left:Int) 1,pC (F+1) (.ref (C0+200)),pL C0 (tL C) ce,gR b w X6.B bk1 de1]++(bk1.flatMap Gp.own++((N5++N1)++R)))) (n5+200) (tk5+1):=by
   rw[e6,hX6];exact I6.ord 6 [0,1,2,3,4,5]
  refine fz hA (zU b (decide (0<k)) w F X6 n5 (tk5+1) (aT av5) ae5) rfl nP nP J6 λs7 I7 k7=>?_
  have hav6:av5.map bX=gS (C.map (·.1)) (k+1):=by rw[hav5,hLs];rfl
  have hA100:(dN (C.map (·.1)) k).length+av5.length<=39:=by
   have e5:(dN (C.map (·.1)) (k+1)).length=(dN (C.map (·.1)) k).length+av5.length:=by
    rw[dN,NR,<-hav6,NM]
   exact NU (OA e5.symm) (NU (wL (by lia)) (qH h3))
  have hz5:∀r∈av5,(aZ r.L).length<=100:=λr hr=>by
   have h5:bX r∈gS (C.map (·.1)) (k+1):=by rw[<-hav6];exact NL.mpr ⟨r,hr,rfl⟩
   have h6:=(fg (k+1) _).mp h5
   have h7:=u8 (L:=r.L) (c:=4) λp hp=>by
    obtain⟨q,hq,e⟩:=NL.mp (h6.2 p.1 (NL.mpr ⟨p,hp,rfl⟩))
    rw[<-e];exact(hC.wd q hq).2.1
   have h8:r.L.length=k+1:=by simpa[bX]using h6.1
   rw[h8]at h7
   lia
  have hR5:∀r∈av5,r.own∈(N5++N1)++R:=λr hr=>by
   rcases hown5 r hr with q|q
   ·exact nomatch q
   ·exact NK.mpr (.inl (NK.mpr (.inl q)))
  have J7:aa B.f s7 ([pI n5 (X6.L+200) ((0:Nat):Int),pL X6.L (aT av5) ae5,bF b w F X6 (if decide (0<k)=true then 4 else 3),gR b w X6.B bk1 de1]++(bk1.flatMap Gp.own++([pR it ((k+1:Nat):Int) (left:Int) 1,pC (F+1) (.ref (C0+200)),pL C0 (tL C) ce]++((N5++N1)++R)))) (n5+1+200) (tk5+1):=by
   have K7:=I7.ord 7 [2,1,0,6,3,4,5]
   exact aa.swp (H:=[pI n5 (X6.L+200) ((0:Nat):Int),pL X6.L (aT av5) ae5,bF b w F X6 (if decide (0<k)=true then 4 else 3),gR b w X6.B bk1 de1]) (M:=[pR it ((k+1:Nat):Int) (left:Int) 1,pC (F+1) (.ref (C0+200)),pL C0 (tL C) ce]) K7
  have hb1:X6.B+200≠1:=by lia
  refine Eb (hA.uq (sQ ..)) ok1 (by lia) hb1 (by have:=congrArg N9 hav6;rw[NM]at this;have:=i6 h1 (k+1);lia) hz5 (λr hr=>NK.mpr (.inr (hR5 r hr))) J7 ?_
  intro s8 X8 bk8 n8 tk8 de8 hX8 hX8L ok8 hrs8 I8 k8
  refine rF hA (zV b (decide (0<k)) w F X6 n5 (tk5+1) (aT av5) ae5 n8 tk8) nP nP I8 λs9 I9 k9=>ap ?_
  refine wpAny_execs_nil ?_
  have J9:aa B.f s9 ([pR it ((k+1:Nat):Int) (left:Int) 1,bF b w F X8 4,pC (F+1) (.ref (C0+200)),pL C0 (tL C) ce,pL X8.L (aT av5) ae5,gR b w X8.B bk8 de8]++(bk8.flatMap Gp.own++((N5++N1)++R))) (n8+200) tk8:=by
   rw[hX8L]
   have K9:aa B.f s9 ([bF b w F X8 4,gR b w X8.B bk8 de8,pL X6.L (aT av5) ae5,pR it ((k+1:Nat):Int) (left:Int) 1,pC (F+1) (.ref (C0+200)),pL C0 (tL C) ce]++(bk8.flatMap Gp.own++((N5++N1)++R))) (n8+200) tk8:=aa.swp (H:=[bF b w F X8 4,gR b w X8.B bk8 de8,pL X6.L (aT av5) ae5]) (N:=[pR it ((k+1:Nat):Int) (left:Int) 1,pC (F+1) (.ref (C0+200)),pL C0 (tL C) ce]) I9
   exact K9.ord 6 [3,0,4,5,2,1]
  refine⟨left,Og _,k+1,X8,bk8,av5,n8,tk8,de8,ae5,N5++N1,by lia,hX8.trans (e6.trans (e1.trans hXB)),hav6,by rw[dN,<-hav6];exact ok8,λg hg y hy=>?_,hR5,?_,(((((((k1.trans k2).trans k3).trans k4).trans k5).trans k6).trans k7).trans k8).trans k9⟩
  ·rcases hrs8 g hg y hy with q|⟨g2,q,q2⟩
   ·exact hR5 y q
   ·rcases NK.mp (hb1' g2 q y q2)with q|q
    ·exact NK.mpr (.inl (NK.mpr (.inr q)))
    ·exact NK.mpr (.inr q)
  ·rw[show decide (0<k+1)=true by simp];exact J9
end
theorem aa.chg1 {K:Nat->Option Obj}{s s':Shared}{a nx tok:Nat}{o o':Obj}{st:aK}(I:aa K s ((a+200,o)::st) nx tok)(k:Kp [a+200] s s')(hg:s'.heap.get? (a+200)=some o'):∃n' tk',aa K s' ((a+200,o')::st) (n'+200) tk':=by
 obtain⟨n1,n2⟩:=Ob.mp I.nodup
 have J:aa K s' st s'.heap.objs.size s'.toks:=(I.sub ((PF st).cons _)).kp k (λp hp q=>n1 (by rw[<-NN.mp q];exact NL.mpr ⟨p,hp,rfl⟩)) λx ox hx q=>I.off x ox hx (by rw[NN.mp q];exact .head _)
 have hlt:=Heap.lt_size hg
 refine⟨s'.heap.objs.size-200,s'.toks,λp hp=>?_,I.nodup,J.base,I.off,?_,rfl⟩
 ·rcases N0.mp hp with q|q
  ·rw[q];exact hg
  ·exact J.has p q
 ·exact(Pv (NU (Pl 200 a) (ON hlt))).symm
theorem aa.gone {K:Nat->Option Obj}{s s':Shared}{a nx tok:Nat}{o:Obj}{st:aK}(I:aa K s ((a+200,o)::st) nx tok)(k:Kp [a+200] s s'){p:Addr×Obj}(hp:p∈st)(h2:200<=p.1):∃n' tk',aa K s' st (n'+200) tk':=by
 obtain⟨n1,n2⟩:=Ob.mp I.nodup
 have J:aa K s' st s'.heap.objs.size s'.toks:=(I.sub ((PF st).cons _)).kp k (λp hp q=>n1 (by rw[<-NN.mp q];exact NL.mpr ⟨p,hp,rfl⟩)) λx ox hx q=>I.off x ox hx (by rw[NN.mp q];exact .head _)
 have h3:(200:Nat)<s'.heap.objs.size:=O7 h2 (Heap.lt_size (J.has p hp))
 refine⟨s'.heap.objs.size-200,s'.toks,?_⟩
 rw[Pv (ON h3)]
 exact J
def jD (g:Lt):Option Str:=(bX g).head?
def u9 (one:Lt)(m:Nat)(two:Lt):Nat:=if jD one=jD two then m else min m (one.L.length+two.L.length)
theorem jE {g:Lt}(h:g.L≠[]):∃p,g.L[0]?=some p/\jD g=some p.1:=by
 cases hg:g.L with
 | nil=>exact absurd hg h
 | cons p r=>exact⟨p,rfl,by simp[jD,bX,hg]⟩
section
variable{b:Bool}{w:World}{B:Bx (KL (PB b w))}{A:Around}{s:Shared}{R:aK}
theorem H8:qF.2=[HS]:=by kernel_rfl
theorem H9:zI.2=[LT]:=by kernel_rfl
theorem Ia:qG.2=[Js]:=by kernel_rfl
theorem sV {x y:Str}:(!(x.cps.toList==y.cps.toList))=decide (x≠y):=by
 by_cases e:x=y
 ·subst e;simp
 ·have h2:¬x.cps.toList=y.cps.toList:=λq=>e (by cases x;cases y;simp only[Str.mk.injEq];exact QH.mp q)
  have h3:¬x.cps=y.cps:=λq=>h2 (by rw[q])
  simp[e,h3]
structure Kk (X X':Hv):Prop where
 B:X'.B=X.B
 rows:X'.rows=X.rows
theorem Kl {lv:Nat}(hA:ad lv A){st:Stmt}(hst:st=Js){F n tk:Nat}{X:Hv}{m:Nat}(hm:X.m=(m:Int)){one two:Lt}(h1:X.one=one.a)(h2:X.two=two.a)(ho:one.own∈R)(ht:two.own∈R)(l1:one.L≠[])(l2:two.L≠[])(z1:one.L.length<=100)(z2:two.L.length<=100)
  (I:aa B.f s ([bF b w F X 8]++R) (n+200) tk) {Q:Flow->aP} {E:Value->aP}
  (h:∀(s':Shared) (X':Hv) (n' tk':Nat),X'.m=((u9 one m two:Nat):Int)->Kk X X'->X'.one=X.one->aa B.f s' ([bF b w F X' 8]++R) (n'+200) tk'->bZ s s'->Q .next s') :
  wpAny (Mo PW (WB b w)) A (exec st (cq F)) Q E s:=by
 subst hst
 obtain⟨p1,q1,d1⟩:=jE l1
 obtain⟨p2,q2,d2⟩:=jE l2
 refine aX ?_
 obtain⟨R1,hp1,I1⟩:=I.tk ho
 by_cases ea:two.a=one.a
 ·have eo:=I.mem_of (NK.mpr (.inr ho)) (by rw[show(one.a+200,two.own.2)=two.own by rw[<-ea]];exact NK.mpr (.inr ht))
  have eL:tL one.L=tL two.L:=by
   have:=congrArg (λo:Obj=>o.data) eo
   simp only[Data.seq.injEq]at this
   exact this.1
  have eh:p1.1=p2.1:=by
   have a1:=cj q1
   have a2:=cj q2
   rw[eL,a2]at a1
   simp only[Oj.injEq,Value.str.injEq]at a1
   exact a1.1.symm
  have em:u9 one m two=m:=if_pos (by rw[d1,d2,eh])
  have eX:X={X with two:=X.one}:=by
   cases X;simp_all
  have K1:aa B.f s ([bF b w F {X with two:=X.one} 8,pL X.one (tL one.L) one.e]++R1) (n+200) tk:=by rw[<-eX,h1];exact I1
  refine rF hA (D5 b w F X n tk (tL one.L) #[] one.e 0 p1.1 p1.1 p1.2 p1.2) (fc ⟨aq (cj q1) (by lia),fc ⟨aq (cj q1) (by lia),fc ⟨cv (by simp),bu⟩⟩⟩) nP K1 λs1 J1 k1=>ap ?_
  dsimp only[z9]at J1
  refine h s1 X n (tk+2) (by rw[em,hm]) ⟨rfl,rfl⟩ rfl ?_ k1
  rw[<-eX,h1]at J1
  exact aa.pb (M:=[bF b w F X 8]) J1 hp1
 ·have ht1:two.own∈R1:=by
   have:=hp1.mem_iff.mp ht
   rcases N0.mp this with q|q
   ·have q1:=congrArg (λp:Addr×Obj=>p.1) q
    have q2:two.a+200=one.a+200:=q1
    lia
   ·exact q
  obtain⟨R2,hp2,I2⟩:=(show aa B.f s ([bF b w F X 8,one.own]++R1) (n+200) tk from I1).tk ht1
  have K2:aa B.f s ([bF b w F X 8,pL X.one (tL one.L) one.e,pL X.two (tL two.L) two.e]++R2) (n+200) tk:=by rw[h1,h2];exact I2
  have back:∀{s':Shared} {X':Hv} {n' tk':Nat},aa B.f s' ([bF b w F X' 8,pL X.one (tL one.L) one.e,pL X.two (tL two.L) two.e]++R2) n' tk'->aa B.f s' ([bF b w F X' 8]++R) n' tk':=λ{s'} {X'} {n'} {tk'} J=>by
   rw[h1,h2]at J
   have J2:aa B.f s' ([bF b w F X' 8,one.own]++R1) n' tk':=aa.pb J hp2
   exact aa.pb (M:=[bF b w F X' 8]) J2 hp1
  by_cases eh:p1.1=p2.1
  ·have em:u9 one m two=m:=if_pos (by rw[d1,d2,eh])
   refine rF hA (D4 b w F X n tk (tL one.L) (tL two.L) one.e two.e p1.1 p2.1 p1.2 p2.2) (fc ⟨aq (cj q1) (by lia),fc ⟨aq (cj q2) (by lia),fc ⟨cv (by rw[sV];exact decide_eq_false λx=>x eh),bu⟩⟩⟩) nP K2 λs1 J1 k1=>ap ?_
   exact h s1 X n _ (by rw[em,hm]) ⟨rfl,rfl⟩ rfl (back J1) k1
  ·have em:u9 one m two=min m (one.L.length+two.L.length):=if_neg (by rw[d1,d2];exact λq=>eh (Oj.inj q))
   have es1:((tL one.L).size:Int)+((tL two.L).size:Int)=((one.L.length+two.L.length:Nat):Int):=by rw[aJ,aJ];lia
   by_cases el:one.L.length+two.L.length<m
   ·refine rF hA (D6 b w F X n tk (tL one.L) (tL two.L) one.e two.e p1.1 p2.1 p1.2 p2.2 ((tL one.L).size:Int) ((tL two.L).size:Int) ((one.L.length+two.L.length:Nat):Int)) (fc ⟨aq (cj q1) (by lia),fc ⟨aq (cj q2) (by lia),fc ⟨cv (by rw[sV];exact decide_eq_true eh),fc ⟨cB (by rw[aJ];lia),fc ⟨cB (by rw[aJ];lia),fc ⟨cb es1,fc ⟨cH (by rw[hm];exact decide_eq_true (by lia)),bu⟩⟩⟩⟩⟩⟩⟩) nP K2 λs1 J1 k1=>ap ?_
    with_reducible refine nm ({X with m:=((one.L.length+two.L.length:Nat):Int),mt:=tk+6}:Hv) λX1 hX1=>?_
    have J2:aa B.f s1 ([bF b w F X1 8,pL X.one (tL one.L) one.e,pL X.two (tL two.L) two.e]++R2) (n+5+200) (tk+8):=by rw[hX1];exact J1
    exact h s1 X1 (n+5) (tk+8) (by rw[hX1,em,Nat.min_eq_right (by lia)]) (by rw[hX1];exact⟨rfl,rfl⟩) (by rw[hX1]) (back J2) k1
   ·refine rF hA (D7 b w F X n tk (tL one.L) (tL two.L) one.e two.e p1.1 p2.1 p1.2 p2.2 ((tL one.L).size:Int) ((tL two.L).size:Int) ((one.L.length+two.L.length:Nat):Int)) (fc ⟨aq (cj q1) (by lia),fc ⟨aq (cj q2) (by lia),fc ⟨cv (by rw[sV];exact decide_eq_true eh),fc ⟨cB (by rw[aJ];lia),fc ⟨cB (by rw[aJ];lia),fc ⟨cb es1,fc ⟨cH (by rw[hm];exact decide_eq_false (by lia)),bu⟩⟩⟩⟩⟩⟩⟩) nP K2 λs1 J1 k1=>ap ?_
    exact h s1 X (n+5) (tk+8) (by rw[em,PU (by lia),hm]) ⟨rfl,rfl⟩ rfl (back J1) k1
inductive M9 (b:Bool)(w:World)(B:Bx (KL (PB b w)))(s:Shared)(R:aK)(F:Nat)(it:Nat)(re:Nat)(X:Hv)(vv:Bool)(m:Nat)(one:Lt)(rs:List Lt)(left:Nat)(s':Shared):Prop
 | mk (k:Nat) (X':Hv) (n' tk':Nat) (h1:k+left=rs.length) (h2:X'.m=(((rs.take k).foldl (u9 one) m:Nat):Int)) (h3:Kk X X') (h4:X'.one=X.one) (h5:aa B.f s' ([pI it (X.rows+200) (k:Int),pL X.rows (aT rs) re,bF b w F X' (if(vv || decide (0<k))=true then 8 else 7)]++R) (n'+200) tk') (h6:bZ s s'):M9 b w B s R F it re X vv m one rs left s'
theorem Ib {lv:Nat}(hA:ad lv A){F it n tk re:Nat}{X:Hv}{vv:Bool}{m:Nat}(hm:X.m=(m:Int)){one:Lt}(h1:X.one=one.a){rs:List Lt}(hrs1:rs≠[])(hrs:rs.length<=100)(ho:one.own∈R)(hr:∀r∈rs,r.own∈R/\r.L≠[]/\r.L.length<=100)(l1:one.L≠[])(z1:one.L.length<=100)
  (I:aa B.f s ([pI it (X.rows+200) ((0:Nat):Int),pL X.rows (aT rs) re,bF b w F X (if vv then 8 else 7)]++R) (n+200) tk) {Q:Result->aP}
  (h:∀(s':Shared) (X':Hv) (n' tk':Nat),X'.m=((rs.foldl (u9 one) m:Nat):Int)->Kk X X'->aa B.f s' ([pL X.rows (aT rs) re,bF b w F X' 8]++R) (n'+200) tk'->bZ s s'->Q (.ok .next) s') :
  codeAny (Mo PW (WB b w)) A (mq qG F it) Q s:=by
 have hl1:1<=rs.length:=Ov.mpr hrs1
 refine codeAny_forLoop (M9 b w B s R F it re X vv m one rs) ?_ rs.length
  ⟨0,X,n,tk,OF _,hm,⟨rfl,rfl⟩,rfl,by simpa using I,.rfl'⟩ (λ_=>by rfl)
 rintro left s1 ⟨k,X1,n1,tk1,hk,hm1,hX,hX1,I1,k1⟩
 cases left with
 | zero =>
  refine bN (it:=it) ?_
  refine rF hA (i5 b w it n1 tk1 k X.rows re (aT rs)) nP (fc ⟨aU (by rw[N8,dg];lia),bu⟩) I1 λs2 I2 k2=>ap ?_
  all_goals try dsimp only[oq]at I2
  refine wpAny_execs_nil ?_
  have e:k=rs.length:=by lia
  subst e
  rw[Om]at hm1
  rw[show(vv || decide (0<rs.length))=true by simp;lia]at I2
  exact h s2 X1 _ _ hm1 hX I2 (k1.trans k2)
 | succ left =>
  with_reducible refine gx (l:=rs) (i:=k) (by lia) λg hg=>?_
  have hgm:=NS hg
  refine bN (it:=it) ?_
  refine rF hA (i4 b w it n1 tk1 k X.rows re (aT rs) (.ref (g.a+200))) nP (fc ⟨aH (il hg),bu⟩) I1 λs2 I2 k2=>ap ?_
  dsimp only[om]at I2
  rw[show(k:Int)+1=((k+1:Nat):Int) by lia]at I2
  refine fy ?_
  have J2:aa B.f s2 ([bF b w F X1 (if(vv || decide (0<k))=true then 8 else 7)]++([pI it (X.rows+200) ((k+1:Nat):Int),pL X.rows (aT rs) re]++R)) (n1+200) _:=I2.ord 3 [2,0,1]
  refine rF hA (D3 b (vv || decide (0<k)) w F X1 n1 _ g.a) nP nP J2 λs3 I3 k3=>ap ?_
  with_reducible refine nm ({X1 with two:=g.a,q:=qU X1.q 7 (if(vv || decide (0<k))=true then X1.q 7 else tk1)}:Hv) λX3 hX3=>?_
  have J3:aa B.f s3 ([bF b w F X3 8]++([pI it (X.rows+200) ((k+1:Nat):Int),pL X.rows (aT rs) re]++R)) (n1+200) (tk1+1):=by rw[hX3];exact I3
  rw[Ia]
  refine wpAny_execs_cons ?_
  obtain⟨r1,r2,r3⟩:=hr g hgm
  refine Kl hA rfl (X:=X3) (by rw[hX3];exact hm1) (one:=one) (two:=g) (by rw[hX3];exact hX1.trans h1) (by rw[hX3]) (NK.mpr (.inr ho)) (NK.mpr (.inr r1)) l1 r2 z1 r3 J3 ?_
  intro s4 X4 n4 tk4 hm4 hX4 hX41 I4 k4
  refine wpAny_execs_nil ?_
  refine⟨left,Og _,k+1,X4,n4,tk4,by lia,?_,⟨hX4.B.trans (by rw[hX3];exact hX.B),hX4.rows.trans (by rw[hX3];exact hX.rows)⟩,hX41.trans (by rw[hX3];exact hX1),?_,((k1.trans k2).trans k3).trans k4⟩
  ·rw[bt hg,PG];exact hm4
  ·rw[show(vv || decide (0<k+1))=true by simp];exact I4.ord 3 [1,2,0]
inductive Na (b:Bool)(w:World)(B:Bx (KL (PB b w)))(s:Shared)(R:aK)(F:Nat)(it:Nat)(re:Nat)(X:Hv)(vv:Bool)(m:Nat)(rs:List Lt)(left:Nat)(s':Shared):Prop
 | mk (k:Nat) (X':Hv) (n' tk':Nat) (h1:k+left=rs.length) (h2:X'.m=(((rs.take k).foldl (λm one=>rs.foldl (u9 one) m) m:Nat):Int)) (h3:Kk X X') (h4:aa B.f s' ([pI it (X.rows+200) (k:Int),pL X.rows (aT rs) re,bF b w F X' (if(vv || decide (0<k))=true then 8 else 6)]++R) (n'+200) tk') (h5:bZ s s'):Na b w B s R F it re X vv m rs left s'
theorem Ic {lv:Nat}(hA:ad lv A)(hlv:lv<=10){F it n tk re:Nat}{X:Hv}{vv:Bool}{m:Nat}(hm:X.m=(m:Int)){rs:List Lt}(hrs1:rs≠[])(hrs:rs.length<=100)(hr:∀r∈rs,r.own∈R/\r.L≠[]/\r.L.length<=100)
  (I:aa B.f s ([pI it (X.rows+200) ((0:Nat):Int),pL X.rows (aT rs) re,bF b w F X (if vv then 8 else 6)]++R) (n+200) tk) {Q:Result->aP}
  (h:∀(s':Shared) (X':Hv) (n' tk':Nat),X'.m=((rs.foldl (λm one=>rs.foldl (u9 one) m) m:Nat):Int)->Kk X X'->aa B.f s' ([pL X.rows (aT rs) re,bF b w F X' 8]++R) (n'+200) tk'->bZ s s'->Q (.ok .next) s') :
  codeAny (Mo PW (WB b w)) A (mq qF F it) Q s:=by
 have hl1:1<=rs.length:=Ov.mpr hrs1
 refine codeAny_forLoop (Na b w B s R F it re X vv m rs) ?_ rs.length
  ⟨0,X,n,tk,OF _,hm,⟨rfl,rfl⟩,by simpa using I,.rfl'⟩ (λ_=>by rfl)
 rintro left s1 ⟨k,X1,n1,tk1,hk,hm1,hX,I1,k1⟩
 cases left with
 | zero =>
  refine bN (it:=it) ?_
  refine rF hA (i5 b w it n1 tk1 k X.rows re (aT rs)) nP (fc ⟨aU (by rw[N8,dg];lia),bu⟩) I1 λs2 I2 k2=>ap ?_
  all_goals try dsimp only[oq]at I2
  refine wpAny_execs_nil ?_
  have e:k=rs.length:=by lia
  subst e
  rw[Om]at hm1
  rw[show(vv || decide (0<rs.length))=true by simp;lia]at I2
  exact h s2 X1 _ _ hm1 hX I2 (k1.trans k2)
 | succ left =>
  with_reducible refine gx (l:=rs) (i:=k) (by lia) λg hg=>?_
  have hgm:=NS hg
  obtain⟨r1,r2,r3⟩:=hr g hgm
  refine bN (it:=it) ?_
  refine rF hA (i4 b w it n1 tk1 k X.rows re (aT rs) (.ref (g.a+200))) nP (fc ⟨aH (il hg),bu⟩) I1 λs2 I2 k2=>ap ?_
  dsimp only[om]at I2
  rw[show(k:Int)+1=((k+1:Nat):Int) by lia]at I2
  refine fy ?_
  have J2:aa B.f s2 ([bF b w F X1 (if(vv || decide (0<k))=true then 8 else 6)]++([pI it (X.rows+200) ((k+1:Nat):Int),pL X.rows (aT rs) re]++R)) (n1+200) _:=I2.ord 3 [2,0,1]
  refine rF hA (D2 b (vv || decide (0<k)) w F X1 n1 _ g.a) nP nP J2 λs3 I3 k3=>ap ?_
  with_reducible refine nm ({X1 with one:=g.a,q:=qU X1.q 6 (if(vv || decide (0<k))=true then X1.q 6 else tk1)}:Hv) λX3 hX3=>?_
  have e3:X3.rows=X.rows:=by rw[hX3];exact hX.rows
  have J3:aa B.f s3 ([bF b w F X3 (if(vv || decide (0<k))=true then 8 else 7),pL X3.rows (aT rs) re]++([pI it (X.rows+200) ((k+1:Nat):Int)]++R)) (n1+200) (tk1+1):=by rw[e3,hX3];exact I3.ord 3 [0,2,1]
  rw[H8]
  refine wpAny_execs_cons ?_
  refine aX ?_
  refine fz hA (z7 b (vv || decide (0<k)) w F X3 n1 (tk1+1) (aT rs) re) rfl nP nP J3 λs4 I4 k4=>?_
  have J4:aa B.f s4 ([pI n1 (X3.rows+200) ((0:Nat):Int),pL X3.rows (aT rs) re,bF b w F X3 (if(vv || decide (0<k))=true then 8 else 7)]++((pI it (X.rows+200) ((k+1:Nat):Int))::R)) (n1+1+200) (tk1+1):=I4.ord 4 [2,1,0,3]
  refine Ib (hA.uq (sU ..)) (m:=(rs.take k).foldl (λm one=>rs.foldl (u9 one) m) m) (by rw[hX3];exact hm1) (one:=g) (by rw[hX3]) hrs1 hrs (.tail _ r1) (λr hr'=>⟨.tail _ (hr r hr').1,(hr r hr').2⟩) r2 r3 J4 ?_
  intro s5 X5 n5 tk5 hm5 hX5 I5 k5
  refine rF hA (z8 b (vv || decide (0<k)) w F X3 n1 (tk1+1) (aT rs) re n5 tk5) nP nP I5 λs6 I6 k6=>ap ?_
  dsimp only[u7]at I6
  refine wpAny_execs_nil ?_
  rw[e3]at I6
  refine⟨left,Og _,k+1,X5,n5,tk5,by lia,?_,⟨hX5.B.trans (by rw[hX3];exact hX.B),hX5.rows.trans e3⟩,?_,((((k1.trans k2).trans k3).trans k4).trans k5).trans k6⟩
  ·rw[bt hg,PG];exact hm5
  ·rw[show(vv || decide (0<k+1))=true by simp];exact I6.ord 3 [2,0,1]
end
def gF (m:Nat)(g:Gp):Nat:=g.rows.foldl (λm one=>g.rows.foldl (u9 one) m) m
theorem wM:(cA 18).2.1=[uW 0,uW 1,uW 2,uW 3,uW 4,uW 5]:=by kernel_rfl
section
variable{b:Bool}{w:World}{B:Bx (KL (PB b w))}{A:Around}{s:Shared}{R:aK}
theorem Ac (bk:List Gp):Pairs (strKind PW (WB b w)) (a7 (PB b w) (eO bk)).toList (bk.map λg=>(g.key,Value.ref (g.a+200))):=by
 simp only[a7,eO,OL]
 induction bk with
 | nil=>exact .nil
 | cons g r ih=>exact .cons (strKind_is _ _ _ _) rfl ih
theorem Km {s:Shared}{a de:Nat}{bk:List Gp}(hn:(bk.map (·.key)).Nodup)(ho:s.heap.get? a=some (rf (PB b w) bk de)):s.heap.DictAt (strKind PW (WB b w)) a (bk.map λg=>(g.key,Value.ref (g.a+200))) de:=
 ⟨_,_,ho,⟨rfl,rfl,rfl⟩,rfl,iR _,Ac bk,by rw[OL];exact hn⟩
inductive Nb (b:Bool)(w:World)(B:Bx (KL (PB b w)))(s:Shared)(R:aK)(F:Nat)(it:Nat)(de:Nat)(X:Hv)(m:Nat)(bk:List Gp)(left:Nat)(s':Shared):Prop
 | mk (k:Nat) (X':Hv) (n' tk':Nat) (o:Obj) (h1:k+left=bk.length) (h2:X'.m=(((bk.take k).foldl gF m:Nat):Int)) (h3:X'.B=X.B) (h4:(o.cls=.type "dict_valueiterator" /\ o.data=.fields #[.ref (X.B+200),.int k 0,.int bk.length 0,.int de 0])) (h5:aa B.f s' ([(it+200,o),bF b w F X' (if decide (0<k)=true then 8 else 5),gR b w X.B bk de]++R) (n'+200) tk') (h6:bZ s s'):Nb b w B s R F it de X m bk left s'
theorem wN {lv:Nat}(hA:ad lv A)(hlv:lv<=9){F it n tk de:Nat}{X:Hv}{m:Nat}(hm:X.m=(m:Int)){bk:List Gp}(hnd:(bk.map (·.key)).Nodup)(hb:bk≠[])(hG:∀g∈bk,(pL g.a (aT g.rows) g.e)∈R/\g.rows≠[]/\g.rows.length<=100/\∀r∈g.rows,r.own∈R/\r.L≠[]/\r.L.length<=100)
  (I:aa B.f s ([(it+200,zL (X.B+200) 0 bk.length de),bF b w F X 5,gR b w X.B bk de]++R) (n+200) tk) {Q:Result->aP}
  (h:∀(s':Shared) (X':Hv) (n' tk':Nat),X'.m=((bk.foldl gF m:Nat):Int)->aa B.f s' ([bF b w F X' 8]++R) (n'+200) tk'->bZ s s'->Q (.ok .next) s') :
  codeAny (Mo PW (WB b w)) A (mq zI F it) Q s:=by
 have hl1:1<=bk.length:=Ov.mpr hb
 have hkl:(bk.map λg=>(g.key,Value.ref (g.a+200))).length=bk.length:=NM _
 refine codeAny_forLoop (Nb b w B s R F it de X m bk) ?_ bk.length
  ⟨0,X,n,tk,_,OF _,hm,rfl,⟨rfl,rfl⟩,I,.rfl'⟩ (λ_=>by rfl)
 rintro left s1 ⟨k,X1,n1,tk1,o1,hk,hm1,hX,ho1,I1,k1⟩
 have hat:=Km (b:=b) (w:=w) hnd (I1.has (gR b w X.B bk de) (.tail _ (.tail _ (.head _))))
 have hit:s1.heap.IsValIter (it+200) (X.B+200) k (bk.map λg=>(g.key,Value.ref (g.a+200))).length de:=⟨o1,I1.has (it+200,o1) (.head _),ho1.1,by rw[hkl];exact ho1.2⟩
 cases left with
 | zero =>
  refine wpAny_pyNext_values_end hA.handled hit hat (by rw[Qv,hkl];lia) λh' hx=>?_
  have e:k=bk.length:=by lia
  subst e
  obtain⟨n2,tk2,I2⟩:=aa.gone (s':={s1 with heap:=h'}) (p:=(bF b w F X1 (if decide (0<bk.length)=true then 8 else 5))) I1 (yB (n:=s1.toks) hx (.head _)) (.head _) (Pl _ _)
  refine wpAny_execs_nil ?_
  rw[Om]at hm1
  rw[decide_eq_true (show 0<bk.length by lia)]at I2
  exact h _ X1 n2 tk2 hm1 (I2.ord 2 [0]) (k1.trans ⟨rfl,rfl,rfl⟩)
 | succ left =>
  with_reducible refine gx (l:=bk) (i:=k) (by lia) λg hg=>?_
  have hgm:=NS hg
  obtain⟨g1,g2,g3,g4⟩:=hG g hgm
  refine wpAny_pyNext_values_item hit hat (by rw[N7,hg];rfl) λh' hi' hsb=>?_
  obtain⟨o2,hg2,hc2,hd2⟩:=hi'
  rw[hkl]at hd2
  obtain⟨n2,tk2,I2⟩:=aa.chg1 (s':={s1 with heap:=h'}) I1 (nJ (n:=s1.toks) hsb (.head _)) hg2
  have k2:bZ s1 {s1 with heap:=h'}:=⟨rfl,rfl,rfl⟩
  generalize hs2:({s1 with heap:=h'}:Shared)=s2 at I2 k2
  refine fy ?_
  have J2:aa B.f s2 ([bF b w F X1 (if decide (0<k)=true then 8 else 5)]++([(it+200,o2),gR b w X.B bk de]++R)) (n2+200) tk2:=I2.ord 3 [1,0,2]
  refine rF hA (D1 b (decide (0<k)) w F X1 n2 tk2 g.a) nP nP J2 λs3 I3 k3=>ap ?_
  with_reducible refine nm ({X1 with rows:=g.a,q:=qU X1.q 5 (if decide (0<k)=true then X1.q 5 else tk2)}:Hv) λX3 hX3=>?_
  have e3:g.a=X3.rows:=by rw[hX3]
  rw[H9]
  refine wpAny_execs_cons ?_
  refine aX ?_
  obtain⟨R',hp,I4⟩:=(show aa B.f s3 ([bF b w F X3 (if decide (0<k)=true then 8 else 6),(it+200,o2),gR b w X.B bk de]++R) (n2+200) (tk2+1) by rw[hX3];exact I3).tk g1
  have J4:aa B.f s3 ([bF b w F X3 (if decide (0<k)=true then 8 else 6),pL X3.rows (aT g.rows) g.e]++([(it+200,o2),gR b w X.B bk de]++R')) (n2+200) (tk2+1):=by
   rw[<-e3];exact I4.ord 4 [0,3,1,2]
  refine fz hA (z5 b (decide (0<k)) w F X3 n2 (tk2+1) (aT g.rows) g.e) rfl nP nP J4 λs5 I5 k5=>?_
  have inR:∀r∈g.rows,r.own∈[(it+200,o2),gR b w X.B bk de]++R':=λr hr=>by
   have h1:=(g4 r hr).1
   have h2:=hp.mem_iff.mp h1
   rcases N0.mp h2 with q|q
   ·exfalso
    have q1:=congrArg (λp:Addr×Obj=>p.2) q
    have q2:ab (tL r.L) r.e=ab (aT g.rows) g.e:=q1
    have q3:=congrArg (λo:Obj=>o.data) q2
    simp only[Data.seq.injEq]at q3
    obtain⟨p0,e0,_⟩:=jE (g4 r hr).2.1
    have q4:=cj e0
    have oo:∃r0,g.rows[0]?=some r0:=⟨_,NZ (Ov.mpr g2)⟩
    obtain⟨r0,hr0⟩:=oo
    rw[q3.1,il hr0]at q4
    exact nomatch q4
   ·exact NK.mpr (.inr q)
  have J5:aa B.f s5 ([pI n2 (X3.rows+200) ((0:Nat):Int),pL X3.rows (aT g.rows) g.e,bF b w F X3 (if decide (0<k)=true then 8 else 6)]++([(it+200,o2),gR b w X.B bk de]++R')) (n2+1+200) (tk2+1):=I5.ord 5 [2,1,0,3,4]
  refine Ic (hA.uq (sS ..)) (by lia) (m:=(bk.take k).foldl gF m) (by rw[hX3];exact hm1) g2 g3 (λr hr=>⟨inR r hr,(g4 r hr).2⟩) J5 ?_
  intro s6 X6 n6 tk6 hm6 hX6 I6 k6
  refine rF hA (z6 b (decide (0<k)) w F X3 n2 (tk2+1) (aT g.rows) g.e n6 tk6) nP nP I6 λs7 I7 k7=>ap ?_
  dsimp only[u3]at I7
  refine wpAny_execs_nil ?_
  have e6:X6.rows=g.a:=hX6.rows.trans e3.symm
  have J7:aa B.f s7 ([(it+200,o2),bF b w F X6 8,gR b w X.B bk de]++R) (n6+200) tk6:=by
   rw[<-e3]at I7
   exact aa.pb (M:=[(it+200,o2),bF b w F X6 8,gR b w X.B bk de]) (I7.ord 4 [2,1,3,0]) hp
  refine⟨left,Og _,k+1,X6,n6,tk6,o2,by lia,?_,hX6.B.trans (by rw[hX3];exact hX),⟨hc2,hd2⟩,?_,((((k1.trans k2).trans k3).trans k5).trans k6).trans k7⟩
  ·rw[bt hg,PG];exact hm6
  ·rw[show decide (0<k+1)=true by simp];exact J7
inductive Gq (b:Bool)(w:World)(B:Bx (KL (PB b w)))(s:Shared)(R:aK)(C0:Nat)(se:Nat)(C:List Tx)(r:Result)(s':Shared):Prop
 | mk (bk:List Gp) (t n' tk':Nat) (h1:r=.ok (.ret (.int ((bk.foldl gF 99:Nat):Int) t))) (h2:fS (dN (C.map (·.1)) 3) bk) (h3:aa B.f s' ([pL C0 (tL C) se]++R) (n'+200) tk') (h4:bZ s s'):Gq b w B s R C0 se C r s'
theorem Ed {lv:Nat}(hA:ad lv A)(hlv:lv<=6){C0 se:Nat}{C:List Tx}(hC:gc C){n tk:Nat}(I:aa B.f s ([pL C0 (tL C) se]++R) (n+200) tk) :
  codeAny (Mo PW (WB b w)) A (oj C0) (Gq b w B s R C0 se C) s:=by
 have h3:(C.map (·.1)).length<=3:=by rw[NM];exact hC.l3
 have h1:1<=(C.map (·.1)).length:=by rw[NM];exact hC.l1
 refine e8 ?_
 have hA0:ad (lv+1) (A.under (oj C0)):=hA.under (by lia) rfl
 refine rF hA0 (DJ b w n tk C0) nP nP I λs1 I1 k1=>?_
 refine λ_ _ _=>⟨by rfl,?_⟩
 refine gH ?_
 have hA1:ad (lv+1) (A.deeper (cq n)):=hA.deeper (by lia)
 rw[wM]
 with_reducible refine nm (⟨λ_=>0,0,0,0,0,0,0,0,0,0,0⟩:Hv) λX1 hX1=>?_
 have J1:aa B.f s1 ([bF b w n X1 0]++([pC (n+1) (.ref (C0+200)),pL C0 (tL C) se]++R)) (n+2+200) tk:=I1
 refine wpAny_execs_cons ?_
 refine aX ?_
 refine rF hA1 (DK b w n X1 (n+2) tk) nP nP J1 ?_
 intro s2 I2 k2
 refine ap ?_
 with_reducible refine nm ({X1 with L:=n+2+1,q:=qU X1.q 0 tk}:Hv) λX2 hX2=>?_
 have e2:X2.L=n+2+1:=by rw[hX2]
 have J2:aa B.f s2 ([bF b w n X2 1]++([pL (n+2) #[] 0,pL (n+2+1) #[.ref (n+2+200)] 0,pC (n+1) (.ref (C0+200)),pL C0 (tL C) se]++R)) (n+4+200) (tk+1):=by rw[hX2];exact I2
 refine wpAny_execs_cons ?_
 refine aX ?_
 refine rF hA1 (DL b w n X2 (n+4) (tk+1)) nP nP J2 ?_
 intro s3 I3 k3
 refine ap ?_
 with_reducible refine nm ({X2 with B:=n+4,q:=qU X2.q 1 (tk+1)}:Hv) λX3 hX3=>?_
 have e3:X3.L=n+2+1:=by rw[hX3];exact e2
 have e3B:X3.B=n+4:=by rw[hX3]
 with_reducible refine nm (⟨n+2,0,[]⟩:Lt) λl0 hl0=>?_
 have J3:aa B.f s3 ([bF b w n X3 2]++([pC (n+1) (.ref (C0+200)),pL C0 (tL C) se,pL X3.L (aT [l0]) 0,gR b w X3.B [] 0]++(l0.own::R))) (n+5+200) (tk+1+1):=by
  rw[e3,e3B,hX3,hl0];exact I3.ord 6 [0,4,5,3,1,2]
 refine wpAny_execs_cons ?_
 refine aX ?_
 refine fz hA1 (zM b w n X3 (n+5) (tk+1+1)) rfl nP nP J3 ?_
 intro s4 I4 k4
 refine Ec (hA1.uq (sM ..)) (by lia) hC (lst:=l0) (by rw[hl0]) (List.mem_cons_self ..) (I4.ord 6 [1,0,2,3,4,5]) ?_
 intro s5 X5 bk n5 tk5 de5 N5 ok5 hrs5 I5 k5
 refine rF hA1 (zN b w n X3 (n+5) (tk+1+1) n5 tk5) nP nP I5 λs6 I6 k6=>ap ?_
 have J6:aa B.f s6 ([bF b w n X5 4]++([gR b w X5.B bk de5,pL C0 (tL C) se]++(bk.flatMap Gp.own++(N5++(l0.own::R))))) (n5+200) tk5:=I6
 refine wpAny_execs_cons ?_
 refine aX ?_
 refine rF hA1 (DZ b w n X5 n5 tk5) nP nP J6 ?_
 intro s7 I7 k7
 refine ap ?_
 with_reducible refine nm ({X5 with m:=99,mt:=tk5,q:=qU X5.q 4 (tk5+1)}:Hv) λX7 hX7=>?_
 have e7:X7.B=X5.B:=by rw[hX7]
 have J7:aa B.f s7 ([bF b w n X7 5,pD X7.B (a7 (PB b w) (eO bk)) de5]++((pL C0 (tL C) se)::(bk.flatMap Gp.own++(N5++(l0.own::R))))) (n5+200) (tk5+2):=by
  rw[e7,hX7];exact I7
 refine wpAny_execs_cons ?_
 refine aX ?_
 refine fz hA1 (zZ b w n X7 n5 (tk5+2) (a7 (PB b w) (eO bk)) de5) rfl nP nP J7 ?_
 intro s8 I8 k8
 all_goals try dsimp only[ou]at I8
 have hds:(a7 (PB b w) (eO bk)).size=bk.length:=by rw[iQ];exact NM _
 rw[hds]at I8
 have hA39:=qH h3
 have hbk:bk≠[]:=by
  rintro rfl
  have hx:1<=(gS (C.map (·.1)) 1).length:=i6 h1 1
  obtain⟨y,hy⟩:∃y,y∈dN (C.map (·.1)) 3:=by
   cases hq:gS (C.map (·.1)) 1 with
   | nil=>rw[hq]at hx;exact absurd hx (by decide)
   | cons y r=>exact⟨y,(d5 3 y).mpr (by
     have:=(fg 1 y).mp (by rw[hq];exact .head _)
     exact⟨by lia,this.2⟩)⟩
  obtain⟨g,hg,_⟩:=ok5.al y hy
  exact nomatch hg
 have hG:∀g∈bk,(pL g.a (aT g.rows) g.e)∈((pL C0 (tL C) se)::(bk.flatMap Gp.own++(N5++(l0.own::R))))/\g.rows≠[]/\g.rows.length<=100/\∀r∈g.rows,r.own∈((pL C0 (tL C) se)::(bk.flatMap Gp.own++(N5++(l0.own::R))))/\r.L≠[]/\r.L.length<=100:=λg hg=>by
  obtain⟨q1,q2,q3⟩:=ok5.tx g hg
  refine⟨.tail _ (NK.mpr (.inl (Ph.mpr ⟨g,hg,.head _⟩))),q1,by lia,λr hr=>⟨.tail _ (NK.mpr (.inr (hrs5 g hg r hr))),?_⟩⟩
  have q4:=((d5 3 _).mp (q3 r hr).2).1
  have q5:(bX r).length=r.L.length:=NM _
  rw[q5]at q4
  exact⟨λq=>by rw[q]at q4;exact absurd q4.1 (by decide),by lia⟩
 refine wN (hA1.uq (sR ..)) (by lia) (m:=99) (by rw[hX7];rfl) ok5.nd hbk hG (I8.ord 3 [2,0,1]) ?_
 intro s9 X9 n9 tk9 hm9 I9 k9
 refine rF hA1 (z0 b w n X7 n5 (tk5+2) (a7 (PB b w) (eO bk)) de5 n9 tk9) nP nP I9 λs10 I10 k10=>ap ?_
 have J10:aa B.f s10 ([bF b w n X9 8]++((pL C0 (tL C) se)::(bk.flatMap Gp.own++(N5++(l0.own::R))))) (n9+200) tk9:=I10
 refine wpAny_execs_cons ?_
 refine aX ?_
 refine rF hA1 (Aa b w n X9 n9 tk9) nP nP J10 λs11 I11 k11=>ap ?_
 refine⟨bk,X9.mt,n9,tk9,by show Except.ok (Flow.ret (.int X9.m X9.mt))=_;rw[hm9],ok5,I11.sub (QO _ ?_),(((((((((k1.trans k2).trans k3).trans k4).trans k5).trans k6).trans k7).trans k8).trans k9).trans k10).trans k11⟩
 exact((OE _ _).trans (Ou _ _)).trans (Ou _ _)
end
end Mine

namespace Mine
open PySem
noncomputable abbrev sW:Code:=.call (.ref 188) ⟨[.ref 189],[]⟩
def fh (i:Nat):Stmt:=((cA 19).2.1[i]?).getD default
abbrev aE:Env:={scope:=(cA 19).2.2,locals:=190,globals:=3,cells:=[⟨Rf "machine",193⟩,⟨Rf "v",192⟩,⟨Rf "spelled",191⟩],qual:=Rf "law.<locals>.",func:=some 188,code:=.ref 187,frame:=some 190,builtins:=0}
structure Lv where
 kk:Bool
 q:Nat->Nat
 (go pm:Bool)
 (kv style dots least:Int)
 (kt wd tst told cd rd met fd ah bk pair few one two tsh tw tty ttk tse tre tdo tmo tle tte tfi tsc:Nat)
 (sheet word typed tok sent rest more text first second:Str)
noncomputable def LU:Lv:=⟨false,λ_=>0,false,false,0,0,0,0,0,0,0,0,0,0,0,0,0,0,0,0,0,0,0,0,0,0,0,0,0,0,0,0,0,0,⟨#[]⟩,⟨#[]⟩,⟨#[]⟩,⟨#[]⟩,⟨#[]⟩,⟨#[]⟩,⟨#[]⟩,⟨#[]⟩,⟨#[]⟩,⟨#[]⟩⟩
abbrev Ad (P:Params)(X:Lv):List DictEntry:=[eT P "script" (X.q 0) (.ref 189),eT P "numbers" (X.q 1) (.ref 194)]++(if X.kk then [eT P "k" (X.q 2) (.int X.kv X.kt)]else [])
abbrev Ae (P:Params)(X:Lv):List DictEntry:=
 [eT P "words" (X.q 3) (.ref (X.wd+200)),eT P "sheet" (X.q 4) (.str X.sheet X.tsh),eT P "word" (X.q 5) (.str X.word X.tw),eT P "style" (X.q 6) (.int X.style X.tst),eT P "typed" (X.q 7) (.str X.typed X.tty),
  eT P "told" (X.q 8) (.ref (X.told+200)),eT P "code" (X.q 9) (.ref (X.cd+200)),eT P "readers" (X.q 10) (.ref (X.rd+200)),eT P "token" (X.q 11) (.str X.tok X.ttk),eT P "met" (X.q 12) (.ref (X.met+200)),eT P "found" (X.q 13) (.ref (X.fd+200)),
  eT P "ahead" (X.q 14) (.ref (X.ah+200)),eT P "back" (X.q 15) (.ref (X.bk+200)),eT P "sent" (X.q 16) (.str X.sent X.tse),eT P "rest" (X.q 17) (.str X.rest X.tre),eT P "dots" (X.q 18) (.int X.dots X.tdo)]
abbrev Kn (P:Params)(X:Lv):List DictEntry:=if X.pm then [eT P "pair" (X.q 19) (.ref (X.pair+200)),eT P "more" (X.q 20) (.str X.more X.tmo)]else []
abbrev Ie (P:Params)(X:Lv):List DictEntry:=
 [eT P "fewer" (X.q 21) (.ref (X.few+200)),eT P "least" (X.q 22) (.int X.least X.tle),eT P "one" (X.q 23) (.ref (X.one+200)),eT P "two" (X.q 24) (.ref (X.two+200)),eT P "text" (X.q 25) (.str X.text X.tte),eT P "first" (X.q 26) (.str X.first X.tfi),eT P "second" (X.q 27) (.str X.second X.tsc)]
abbrev LV (P:Params)(X:Lv)(m:Nat):Obj:=bO (Ad P X++(Ae P X).take m) (if X.kk then 3+m else 2+m)
abbrev LW (P:Params)(X:Lv)(j:Nat):Obj:=bO (Ad P X++(Ae P X++(Kn P X++(Ie P X).take j))) (if X.kk then(if X.pm then 21+j else 19+j)else(if X.pm then 20+j else 18+j))
noncomputable def cm (l:List Stmt)(env:Env):Sem Fin:=PySem.W.R.bindR (PySem.W.Fast.tw12563942051412417395 l env) λf=>.pure (.done f)
def pf (l:List Nat):List Stmt:=l.map fh
section
variable{prog:Program}{w:World}{A:Around}{s:Shared}{env:Env}
theorem i7 {Γ:Ctx}{l2:List Stmt}{Q:Flow->Pos->aP}{E:Value->Pos->aP}:∀(l1:List Stmt) (p:Pos) (s:Shared),
  (execs l1 env).wp (Mo prog w) Γ (λf p' s'=>match f with|.next=>(execs l2 env).wp (Mo prog w) Γ Q E p' s'|f=>Q f p' s') E p s->(execs (l1++l2) env).wp (Mo prog w) Γ Q E p s
 | [],p,s,h=>by
  rw[execs_nil]at h
  exact h
 | x::r,p,s,h=>by
  rw[Oi,execs_cons,Sem.wp_bind']
  rw[execs_cons,Sem.wp_bind']at h
  refine Sem.wp_mono (Mo prog w) Γ _ (λf p' s' h'=>?_) (λ_ _ _ h'=>h') _ _ h
  cases f with
  | next=>exact i7 r p' s' h'
  | _=>exact h'
theorem cR {l l1 l2:List Stmt}(hl:l=l1++l2){Q:Flow->aP}{E:Value->aP}
  (h:an prog w A (λfin s'=>match fin with|.done .next=>wpAny (Mo prog w) A (execs l2 env) Q E s'|.done f=>Q f s'|_=>False) E [] (cm l1 env) s):wpAny (Mo prog w) A (execs l env) Q E s:=by
 subst hl
 intro Γ p hΓ
 have:=h Γ p hΓ
 unfold cm at this
 rw[<-PySem.W.Fast.te12563942051412417395,<-PySem.W.R.bindR_eq]at this
 have h1:=(Sem.wp_bind' (Mo prog w) Γ (execs l1 env) (λf=>(.pure (.done f):Sem Fin)) (λa _ s'=>(match a with|.done .next=>wpAny (Mo prog w) A (execs l2 env) Q E s'|.done f=>Q f s'|_=>False)) (λe _ s'=>E e s') p s).mp this
 refine i7 l1 p s (Sem.wp_mono (Mo prog w) Γ _ (λf p' s' h'=>?_) (λ_ _ _ h'=>h') _ _ h1)
 cases f with
 | next=>exact h' Γ p' hΓ
 | _=>exact h'
end
abbrev bE (b:Bool)(w:World)(X:Lv)(i:Nat):Addr×Obj:=(190,LV (PB b w) X i)
abbrev cz (b:Bool)(w:World)(X:Lv)(i:Nat):Addr×Obj:=(190,LW (PB b w) X i)
abbrev bD (L:Lx):Addr×Obj:=(193,bQ (.ref (L.x+200)))
abbrev fA (X:Lv)(k g p:Bool):Lv:={X with kk:=k,go:=g,pm:=p}
abbrev fB (X:Lv)(k p:Bool):Lv:={X with kk:=k,pm:=p}
abbrev fK (X:Lv)(k:Bool):Lv:={X with kk:=k}
def Ko:Rg×List Stmt:=i3 (fh 1)
abbrev ip (it:Nat):Code:=.forLoop Ko.1 (.ref it) Ko.2 [] aE
def sX:Rg×List Stmt:=i3 (fh 5)
def LX (i:Nat):Stmt:=(sX.2[i]?).getD default
abbrev mU (l:Rg×List Stmt)(it:Nat):Code:=.forLoop l.1 (.ref (it+200)) l.2 [] aE
def sY:Rg:=wz (sk (LX 0))
def sZ:Rg:=sk (fh 7)
def qI:Rg×List Stmt:=i3 (fh 11)
def Af (i:Nat):Stmt:=(qI.2[i]?).getD default
noncomputable def LY (s:Stmt):Rg×List Stmt:=match s with|.While t bd _ _=>(t,bd)|_=>default
def eD:Rg×List Stmt:=LY (fh 15)
def bR (i:Nat):Stmt:=(eD.2[i]?).getD default
abbrev vc:Code:=.whileLoop eD.1 eD.2 [] aE
def qJ:Rg×List Stmt:=i3 (bR 5)
def d6 (i:Nat):Stmt:=(qJ.2[i]?).getD default
def lq:Rg:=wz (sk (fh 22))
def lr:Rg:=wz (sk (fh 23))
def LZ (s:Stmt):Rg×List Stmt×List Stmt×Pos:=match s with|.If t b r p=>(t,b,r,p)|_=>default
noncomputable def qK (s:Stmt):Rg:=(LZ s).1
def Nc (e:Rg):List Rg×Pos:=match e with|.BoolOp _ l p=>(l,p)|_=>default
noncomputable def wO (e:Rg)(i:Nat):Rg:=((Nc e).1[i]?).getD default
def L0 (e:Rg):Rg×List Rg×Pos:=match e with|.Compare l _ r p=>(l,r,p)|_=>default
noncomputable def Gr (e:Rg):Rg:=(L0 e).1
noncomputable def Ig (e:Rg):Rg:=((L0 e).2.1[0]?).getD default
def ov:Rg:=Ig (wO (qK (fh 8)) 0)
noncomputable abbrev Gs (e:Rg):Sem Fin:=qh (isTrue e aE (eval e aE))
noncomputable abbrev cX (j:Nat):Str×Addr:=match j with
 | 0=>⟨Rf "spelled",191⟩
 | 1=>⟨Rf "machine",193⟩
 | _=>⟨Rf "v",192⟩
abbrev Kq (e:Rg)(cells:List (Str×Addr))(D:Nat):Env:=⟨nR (BN e).2.2.2.2.1,D+200,3,cells,Rf "law.<locals>.",none,.ref 187,some 190,0⟩
abbrev cY (e:Rg)(cells:List (Str×Addr))(it acc D:Nat):Code:=.compLoop e 0 (.ref (it+200)) (.ref (acc+200)) (Kq e cells D)
abbrev ls (e:Rg)(cells:List (Str×Addr))(it acc D:Nat):Code:=.compStart e 0 (.ref (it+200)) (.ref (acc+200)) (Kq e cells D)
section
variable(b:Bool)(w:World)(tk:Nat)
abbrev Ih:SD:=⟨[0,0,0,0],[.b,.b,.a,.a,.a,.a,ac,bi,.s],[],⟨aA sW,[],[],190,tk⟩,
 [],⟨.pure (.again (.func (cA 19).2.1 aE)),[],[(190,bO [eT (PB b w) "script" tk (.ref 189)] 1),(191,aM),(192,aM),(193,aM)],194,tk+1⟩,[]⟩
theorem Ee:SK b w (Ih b w tk):=by apply bq1 b;kernel_rfl
end
section
variable(b:Bool)(w:World)(k0:Nat)(vs:aN)(tk:Nat)(c:Int)
abbrev ow:SC:=⟨[0,0,0,6],MU++[b7,.i,b7,b7,b7,bf,b7,xC,.a,.a,hE,b6,xP,b6,.i,.i,.a,bx,bx,.i,bx,bx,bx,bx,.h [8],jV],[aL c,aB false,aR (bL 0 c 1)],⟨cm (pf [0,1,2,3,4]) aE,[],[(190,bO [eT (PB b w) "script" k0 (.ref 189)] 1),(189,ab vs 0)],194,tk⟩,
 [⟨bc "len" [.ref 189],aL c,[(189,ab vs 0)]⟩,⟨bc "int.__lt__" [.int ((12:Nat):Int) (tk+6),.int c (tk+5)],aB false,[]⟩,⟨bc "range.__iter__" [.ref 200],aR (bL 0 c 1),[(200,⟨.type "range",.none,.fields #[.int ((0:Nat):Int) (tk+7),.int c (tk+5),.int ((1:Nat):Int) (tk+8)],#[]⟩)]⟩],ip 201,[bE b w {LU with q:=λj=>if j=0 then k0 else tk+3} 0,(189,ab vs 0),(194,ab (aO [(320,tk),(18,tk+1),(197,tk+2)]) 0),(201,bL 0 c 1)],202,tk+9,[]⟩
def lu:Option bo:=dR b w (ow b w k0 vs tk c)
theorem Ag:SQ (ow b w k0 vs tk c) (lu b w k0 vs tk c):=by apply bq1 b;kernel_rfl
theorem s0:aY (lu b w k0 vs tk c):=af (by apply bq1 b;kernel_rfl)
end
section
variable(b:Bool)(w:World)(k0:Nat)(vs:aN)(tk:Nat)(c:Int)
abbrev oz:SC:=⟨[0,0,0,6],MU++[xP,b6,b6,b7,.i,b7,b7,b7,bf,b7,xC,.a,.a,hE,b6,xP,b6,.i,.i,.a,bx,bx,.i,bx,bx,bx,bx,.i,bx,bx,bx,bx,.a,jV],[aL c,aB true],⟨cm (pf [0,1,2,3,4]) aE,[],[(190,bO [eT (PB b w) "script" k0 (.ref 189)] 1),(189,ab vs 0)],194,tk⟩,
 [⟨bc "len" [.ref 189],aL c,[(189,ab vs 0)]⟩,⟨bc "int.__lt__" [.int ((12:Nat):Int) (tk+6),.int c (tk+5)],aB true,[]⟩],ip 201,[bE b w {LU with q:=λj=>if j=0 then k0 else tk+3} 0,(189,ab vs 0),(194,ab (aO [(320,tk),(18,tk+1),(197,tk+2)]) 0),(201,bL 0 12 1)],202,tk+9,[]⟩
def lw:Option bo:=dR b w (oz b w k0 vs tk c)
theorem Ah:SQ (oz b w k0 vs tk c) (lw b w k0 vs tk c):=by apply bq1 b;kernel_rfl
theorem tf:aY (lw b w k0 vs tk c):=af (by apply bq1 b;kernel_rfl)
end
section
variable(b kk:Bool)(w:World)(X:Lv)(tk e:Nat)(vs xs:aN)(i left:Int)(r:Nat)(a x y z:Int)(ta tx:Nat)
abbrev vd:SD:=⟨[0,0,0,0],[bf,.x (iF 201 i left 1) [3],bf,j0,bf,j0,ac,bi,ac,ac,.o,az,az,.h [1],ac,ac,au,au,au,.h [2],.i,.o,.o,az,az,.x (Ct 194 r (.int z (tk+8))) [1],jI],[aI ((r:Nat):Int),aV (.int a ta),aV (.int x tx),aI y,aI z],⟨aA (ip 201),[],[bE b w (fK X kk) 0,(194,ab xs e),(189,ab vs 0),(201,bL i left 1)],202,tk⟩,
 [⟨bc "int.__mod__" [.int i tk,.int ((3:Nat):Int) (tk+2)],aI ((r:Nat):Int),[]⟩,⟨bc "list.__getitem__" [.ref 194,.int ((r:Nat):Int) (tk+3)],aV (.int a ta),[(194,ab xs e)]⟩,⟨bc "list.__getitem__" [.ref 189,.int i tk],aV (.int x tx),[(189,ab vs 0)]⟩,⟨bc "int.__mod__" [.int x tx,.int ((1000000:Nat):Int) (tk+6)],aI y,[]⟩,⟨bc "int.__add__" [.int a ta,.int y (tk+7)],aI z,[]⟩],⟨.pure (.again (ip 201)),[],[bE b w {X with kk:=true,q:=qU X.q 2 (if kk then X.q 2 else tk+1),kt:=tk,kv:=i} 0,(194,ab (xs.setIfInBounds r (.int z (tk+8))) (LR xs r (.int z (tk+8)) e)),(189,ab vs 0),(201,bL (i+1) (left-1) 1)],202,tk+9⟩,[⟨bc "range_iterator.__next__" [.ref 201],iF 201 i left 1,[(201,bL i left ((1:Nat):Int))]⟩,⟨bc "list.__setitem__" [.ref 194,.int ((r:Nat):Int) (tk+3),.int z (tk+8)],Ct 194 r (.int z (tk+8)),[(194,ab xs e)]⟩]⟩
theorem Ai:SK b w (vd b kk w X tk e vs xs i left r a x y z ta tx):=by apply bq2 b kk;kernel_rfl
end
abbrev ve (b:Bool)(w:World)(tk:Nat)(i left:Int):SD:=⟨[],[ac,.x (nv) [0],.a,.a,au],[],⟨aA (ip 201),[(ip 201,kr)],[(201,bL i left 1)],202,tk⟩,
 [],⟨.pure (.done .next),[],[],204,tk⟩,[⟨bc "range_iterator.__next__" [.ref 201],nv,[(201,bL i left ((1:Nat):Int))]⟩]⟩
theorem Aj (b:Bool)(w:World)(tk:Nat)(i left:Int):SK b w (ve b w tk i left):=by apply bq1 b;kernel_rfl
section
variable(b kk:Bool)(w:World)(X:Lv)(k0:Nat)(vs:aN)(tk:Nat)(c:Int)(tk2:Nat)
abbrev Ak:SD:=⟨[0,0,0,0],[.a,ac,bi,.a,az,jI,ac,bi],[],gC (lu b w k0 vs tk c) (.ok .next) [bE b w (fK X kk) 0,(191,aM)] 204 tk2,
 [],⟨.pure (.done .next),[],[bE b w {X with kk:=kk,wd:=4,q:=qU (qU X.q 3 tk2) 4 (tk2+2),tsh:=tk2+1,sheet:=⟨#[]⟩} 2,(191,bQ (.ref (5+200))),pL 4 #[] 0,pD 5 #[] 0],206,tk2+3⟩,[]⟩
theorem wP:SK b w (Ak b kk w X k0 vs tk c tk2):=by apply bq2 b kk;kernel_rfl
abbrev Am:SD:=⟨[0,0,0,0],[.a,ac,bi,.a,az,jI,ac,bi],[],gC (lw b w k0 vs tk c) (.ok .next) [bE b w (fK X kk) 0,(191,aM)] 204 tk2,
 [],⟨.pure (.done .next),[],[bE b w {X with kk:=kk,wd:=4,q:=qU (qU X.q 3 tk2) 4 (tk2+2),tsh:=tk2+1,sheet:=⟨#[]⟩} 2,(191,bQ (.ref (5+200))),pL 4 #[] 0,pD 5 #[] 0],206,tk2+3⟩,[]⟩
theorem wQ:SK b w (Am b kk w X k0 vs tk c tk2):=by apply bq2 b kk;kernel_rfl
end
section
variable(b kk:Bool)(w:World)(X:Lv)(n tk:Nat)(xs:aN)(e:Nat)
abbrev An:SC:=⟨[0,0,0],[ac,az,az,.i,az,.a,au],[],⟨cm (pf [5,6]) aE,[],[bE b w (fK X kk) 2,(194,ab xs e)],n+200,tk⟩,
 [],mU sX n,[bE b w (fK X kk) 2,(194,ab xs e),pI n 194 0],n+201,tk,[]⟩
def oA:Option bo:=dR b w (An b kk w X n tk xs e)
theorem Eg:SQ (An b kk w X n tk xs e) (oA b kk w X n tk xs e):=by apply bq2 b kk;kernel_rfl
theorem wR:aY (oA b kk w X n tk xs e):=af (by apply bq2 b kk;kernel_rfl)
end
abbrev Ii (b:Bool)(w:World)(it n tk i e:Nat)(xs:aN)(v:Value):SD:=⟨[0,0],[ac,.x (bW (it+200) (i:Int) v) [0,0],ac,bi],[],⟨fN it,[],[pI it 194 (i:Int),(194,ab xs e)],n+200,tk⟩,
 [],⟨.pure (.done (.ret (v))),[],[pI it 194 ((i:Int)+1),(194,ab xs e)],n+200,tk⟩,[⟨bc "list_iterator.__next__" [.ref (it+200)],bW (it+200) (i:Int) v,[((it+200),ba 194 ((i:Nat):Int)),(194,ab xs e)]⟩]⟩
theorem Eh (b:Bool)(w:World)(it n tk i e:Nat)(xs:aN)(v:Value):SK b w (Ii b w it n tk i e xs v):=by apply bq1 b;kernel_rfl
abbrev Ij (b:Bool)(w:World)(it n tk i e:Nat)(xs:aN):SD:=⟨[1],[ac,.x (dr (it+200)) [0,0],ac,bi,.a,.a,bf],[],⟨fN it,[],[pI it 194 (i:Int),(194,ab xs e)],n+200,tk⟩,
 [],⟨.pure (.done .next),[],[(194,ab xs e)],n+202,tk⟩,[⟨bc "list_iterator.__next__" [.ref (it+200)],dr (it+200),[((it+200),ba 194 ((i:Nat):Int)),(194,ab xs e)]⟩]⟩
theorem Ei (b:Bool)(w:World)(it n tk i e:Nat)(xs:aN):SK b w (Ij b w it n tk i e xs):=by apply bq1 b;kernel_rfl
abbrev Ik (b:Bool)(w:World)(n tk:Nat)(co:Option Value)(x:Int)(tx:Nat):SD:=⟨[0],[ac,bi],[],⟨kN sX.1 aE (.int x tx),[],[(192,d0 co)],n+200,tk⟩,
 [],⟨.pure (.done .next),[],[(192,l7 x tx)],n+200,tk⟩,[]⟩
theorem Ej (b:Bool)(w:World)(n tk:Nat)(co:Option Value)(x:Int)(tx:Nat):SK b w (Ik b w n tk co x tx):=by apply bq1 b;kernel_rfl
section
variable(b kk vv:Bool)(w:World)(X:Lv)(n tk:Nat)(v:Int)(tv:Nat)(a c:Int)
abbrev Ao:SC:=⟨[0,0,1,0,0],[.b,.b,az,.o,.o,.i,.i,.a,au,au,.i,au,au,au,au,.h [2],bf,.a,.a],[aI a,aI c,aR (bL 0 c 1)],⟨cm sX.2 aE,[],[bE b w (fK X kk) (if vv then 5 else 2),(192,l7 v tv)],n+200,tk⟩,
 [⟨bc "int.__mod__" [.int v tv,.int ((4:Nat):Int) (tk+2)],aI a,[]⟩,⟨bc "int.__add__" [.int ((1:Nat):Int) (tk+1),.int a (tk+3)],aI c,[]⟩,⟨bc "range.__iter__" [.ref (n+200)],aR (bL 0 c 1),[((n+200),⟨.type "range",.none,.fields #[.int ((0:Nat):Int) (tk+5),.int c (tk+4),.int ((1:Nat):Int) (tk+6)],#[]⟩)]⟩],ls sY [cX 2] (n+1) (n+2) (n+3),[bE b w (fK X kk) (if vv then 5 else 2),(192,l7 v tv),pR (n+1) 0 c 1,pL (n+2) #[] 0,(n+3+200,cy [] 0)],n+204,tk+7,[]⟩
def oB:Option bo:=dR b w (Ao b kk vv w X n tk v tv a c)
theorem Ek:SQ (Ao b kk vv w X n tk v tv a c) (oB b kk vv w X n tk v tv a c):=by apply bq3 b kk vv;kernel_rfl
theorem wS:aY (oB b kk vv w X n tk v tv a c):=af (by apply bq3 b kk vv;kernel_rfl)
end
section
variable(b vv:Bool)(w:World)(it acc D n tk ae dk tv g:Nat)(av:aN)(dv:Value)(v i left a1 a2 a3 a4:Int)
abbrev Ap:SD:=⟨[0,0,0,0],[ac,.x (iF (it+200) i left 1) [0],ac,bi,ac,bi,az,jI,au,.o,az,.o,.o,.o,.o,.x (b5 (acc+200) (.str ⟨#[g]⟩ (tk+10))) [3],j0],[aI a1,aI a2,aI a3,aI a4,aS ⟨#[g]⟩],⟨aA (cY sY [cX 2] it acc D),[],[pR it i left 1,(D+200,jd (PB b w) vv "k" dk dv),(192,l7 v tv),pL acc av ae],n+200,tk⟩,
 [⟨bc "int.__floordiv__" [.int v tv,.int ((4:Nat):Int) (tk+3)],aI a1,[]⟩,⟨bc "int.__pow__" [.int ((2:Nat):Int) (tk+5),.int i tk],aI a2,[]⟩,⟨bc "int.__floordiv__" [.int a1 (tk+4),.int a2 (tk+6)],aI a3,[]⟩,⟨bc "int.__mod__" [.int a3 (tk+7),.int ((2:Nat):Int) (tk+8)],aI a4,[]⟩,⟨bc "str.__getitem__" [.str (Rf "fi") (tk+2),.int a4 (tk+9)],aS ⟨#[g]⟩,[]⟩],⟨.pure (.again (cY sY [cX 2] it acc D)),[],[pR it (i+1) (left-1) 1,(D+200,jd (PB b w) true "k" (if vv then dk else tk+1) (.int i tk)),(192,l7 v tv),pL acc (av.push (.str ⟨#[g]⟩ (tk+10))) (bU av (.str ⟨#[g]⟩ (tk+10)) ae)],n+200,tk+11⟩,[⟨bc "range_iterator.__next__" [.ref (it+200)],iF (it+200) i left 1,[((it+200),bL i left ((1:Nat):Int))]⟩,⟨bc "list.append" [.ref (acc+200),.str ({cps:=#[g]}) (tk+10)],b5 (acc+200) (.str ⟨#[g]⟩ (tk+10)),[((acc+200),ab av ae)]⟩]⟩
theorem El:SK b w (Ap b vv w it acc D n tk ae dk tv g av dv v i left a1 a2 a3 a4):=by apply bq2 b vv;kernel_rfl
end
abbrev vf (b:Bool)(w:World)(it acc D n tk:Nat)(i left:Int):SD:=⟨[],[ac,.x (nv) [0],.a,.a,au],[],⟨aA (cY sY [cX 2] it acc D),[],[pR it i left 1],n+200,tk⟩,
 [],⟨.pure (.done .next),[],[],n+202,tk⟩,[⟨bc "range_iterator.__next__" [.ref (it+200)],nv,[((it+200),bL i left ((1:Nat):Int))]⟩]⟩
theorem Aq (b:Bool)(w:World)(it acc D n tk:Nat)(i left:Int):SK b w (vf b w it acc D n tk i left):=by apply bq1 b;kernel_rfl
section
variable(b kk vv:Bool)(w:World)(X:Lv)(n tk:Nat)(v:Int)(tv:Nat)(a c:Int)(n2 tk2 we ae dk:Nat)(ws av:aN)(dv:Value)(wo:Str)(wf:Nat->Nat)(wd:Nat)(st:Int)
abbrev th:SC:=⟨[0,0,0],[b7,b7,xC,.h [3],ac,bi,az,.o,ac,bi,ac,au,au,au,au,ac,.x (b5 (X.wd+200) (.str wo (wf (tk2+0)))) [2],fV,.b,ac,ac,.b],[aG wo wf wd,aI st],gC (oB b kk vv w X n tk v tv a c) (.ok .next) [bE b w (fK X kk) (if vv then 5 else 2),(192,l7 v tv),pL X.wd ws we,pL (n+2) av ae,(n+3+200,jd (PB b w) true "k" dk dv)] (n2+200) tk2,
 [⟨bc "str.join" [.str (Rf "") tk,.ref (n+202)],aG wo wf wd,[((n+202),ab av ae)]⟩,⟨bc "int.__floordiv__" [.int v tv,.int ((64:Nat):Int) (tk2+wd+1)],aI st,[]⟩],nS wo (wf tk2) st (tk2+wd+2),[bE b w {X with kk:=kk,word:=wo,tw:=wf tk2,style:=st,tst:=tk2+wd+2,q:=qU (qU X.q 5 (if vv then X.q 5 else tk2+wd)) 6 (if vv then X.q 6 else tk2+wd+3)} (if vv then 5 else 4),(192,l7 v tv),pL X.wd (ws.push (.str wo (wf tk2))) (bU ws (.str wo (wf tk2)) we)],n2+200,tk2+wd+4,[⟨bc "list.append" [.ref (X.10+200),.str wo ((wf (tk2)))],b5 (X.wd+200) (.str wo (wf (tk2+0))),[((X.10+200),ab ws we)]⟩]⟩
def gL:Option bo:=dR b w (th b kk vv w X n tk v tv a c n2 tk2 we ae dk ws av dv wo wf wd st)
theorem Em:SQ (th b kk vv w X n tk v tv a c n2 tk2 we ae dk ws av dv wo wf wd st) (gL b kk vv w X n tk v tv a c n2 tk2 we ae dk ws av dv wo wf wd st):=by apply bq3 b kk vv;kernel_rfl
theorem wT:aY (gL b kk vv w X n tk v tv a c n2 tk2 we ae dk ws av dv wo wf wd st):=af (by apply bq3 b kk vv;kernel_rfl)
end
abbrev qL (b kk vv:Bool)(w:World)(X:Lv)(n tk:Nat)(Y:Lv)(v:Int)(tv:Nat)(a c:Int)(n2 tk2 we ae dk:Nat)(ws av:aN)(dv:Value)(wo:Str)(wf:Nat->Nat)(wd:Nat)(st:Int)(n3 tk3 ty de:Nat)(es:Array DictEntry)(y:Str)(m:Int)(z1 z2 z3 z4:Str)(f1 f2 f3 f4:Nat->Nat)(d1 d2 d3 d4:Nat)(h:Int)(oy:Str)(ot:Nat):SD:=⟨[0,0,0],[ac,bi,az,au,au,au,au,ac,ac,.x (jZ (5+200) h Y.word Y.tw (.str y ty) (.str y ty)) [2],fV,ac,ac,.o,.o,.o,ac,.o,.o,.o,ac,bi],[aI m,aB false,aG z1 f1 d1,aG z2 f2 d2,aG z3 f3 d3,aG z4 f4 d4],gC (gL b kk vv w X n tk v tv a c n2 tk2 we ae dk ws av dv wo wf wd st) (.ok (.ret (.str y ty))) [bE b w (fK Y kk) (if vv then 5 else 4),(191,bQ (.ref (5+200))),pD 5 es de] (n3+200) tk3,
 [⟨bc "int.__mod__" [.int Y.style Y.11,.int ((2:Nat):Int) (tk3+2)],aI m,[]⟩,⟨bc "int.__eq__" [.int m (tk3+3),.int ((1:Nat):Int) (tk3+4)],aB false,[]⟩,⟨bc "str.__add__" [.str (Rf "‌") (tk3+5),.str (Rf ".") (tk3+6)],aG z1 f1 d1,[]⟩,⟨bc "str.__add__" [.str z1 ((f1 (tk3+7))),.str y ty],aG z2 f2 d2,[]⟩,⟨bc "str.__add__" [.str z2 ((f2 (tk3+7+d1))),.str (Rf "\n") (tk3+7+d1+d2)],aG z3 f3 d3,[]⟩,⟨bc "str.__add__" [.str Y.sheet Y.23,.str z3 ((f3 (tk3+7+d1+d2+1)))],aG z4 f4 d4,[]⟩],⟨.pure (.done .next),[],[bE b w {Y with kk:=kk,typed:=y,tty:=ty,sheet:=z4,tsh:=f4 (tk3+7+d1+d2+1+d3),q:=qU Y.q 7 (if vv then Y.q 7 else tk3)} 5,(191,bQ (.ref (5+200))),pD 5 (es.push ⟨h,.str Y.word Y.tw,.str y ty⟩) (de+1)],n3+200,tk3+7+d1+d2+1+d3+d4+1⟩,[⟨bc "dict.setdefault" [.ref 205,.str Y.word Y.24,.str y ty],jZ (5+200) h Y.word Y.tw (.str y ty) (.str y ty),[(205,j1 es de)]⟩]⟩
theorem wU (b kk vv:Bool)(w:World)(X:Lv)(n tk:Nat)(Y:Lv)(v:Int)(tv:Nat)(a c:Int)(n2 tk2 we ae dk:Nat)(ws av:aN)(dv:Value)(wo:Str)(wf:Nat->Nat)(wd:Nat)(st:Int)(n3 tk3 ty de:Nat)(es:Array DictEntry)(y:Str)(m:Int)(z1 z2 z3 z4:Str)(f1 f2 f3 f4:Nat->Nat)(d1 d2 d3 d4:Nat)(h:Int)(oy:Str)(ot:Nat):SK b w (qL b kk vv w X n tk Y v tv a c n2 tk2 we ae dk ws av dv wo wf wd st n3 tk3 ty de es y m z1 z2 z3 z4 f1 f2 f3 f4 d1 d2 d3 d4 h oy ot):=by apply bq3 b kk vv;kernel_rfl
abbrev Ar (b kk vv:Bool)(w:World)(X:Lv)(n tk:Nat)(Y:Lv)(v:Int)(tv:Nat)(a c:Int)(n2 tk2 we ae dk:Nat)(ws av:aN)(dv:Value)(wo:Str)(wf:Nat->Nat)(wd:Nat)(st:Int)(n3 tk3 ty de:Nat)(es:Array DictEntry)(y:Str)(m:Int)(z1 z2 z3 z4:Str)(f1 f2 f3 f4:Nat->Nat)(d1 d2 d3 d4:Nat)(h:Int)(oy:Str)(ot:Nat):SD:=⟨[0,0,0],[ac,bi,az,au,au,au,au,ac,ac,.h [2],ac,ac,.o,.o,.o,ac,.o,.o,.o,ac,bi],[eI (.str oy ot),aI m,aB false,aG z1 f1 d1,aG z2 f2 d2,aG z3 f3 d3,aG z4 f4 d4],gC (gL b kk vv w X n tk v tv a c n2 tk2 we ae dk ws av dv wo wf wd st) (.ok (.ret (.str y ty))) [bE b w (fK Y kk) (if vv then 5 else 4),(191,bQ (.ref (5+200))),pD 5 es de] (n3+200) tk3,
 [⟨bc "dict.setdefault" [.ref 205,.str Y.word Y.24,.str y ty],eI (.str oy ot),[(205,j1 es de)]⟩,⟨bc "int.__mod__" [.int Y.style Y.11,.int ((2:Nat):Int) (tk3+2)],aI m,[]⟩,⟨bc "int.__eq__" [.int m (tk3+3),.int ((1:Nat):Int) (tk3+4)],aB false,[]⟩,⟨bc "str.__add__" [.str (Rf "‌") (tk3+5),.str (Rf ".") (tk3+6)],aG z1 f1 d1,[]⟩,⟨bc "str.__add__" [.str z1 ((f1 (tk3+7))),.str y ty],aG z2 f2 d2,[]⟩,⟨bc "str.__add__" [.str z2 ((f2 (tk3+7+d1))),.str (Rf "\n") (tk3+7+d1+d2)],aG z3 f3 d3,[]⟩,⟨bc "str.__add__" [.str Y.sheet Y.23,.str z3 ((f3 (tk3+7+d1+d2+1)))],aG z4 f4 d4,[]⟩],⟨.pure (.done .next),[],[bE b w {Y with kk:=kk,typed:=y,tty:=ty,sheet:=z4,tsh:=f4 (tk3+7+d1+d2+1+d3),q:=qU Y.q 7 (if vv then Y.q 7 else tk3)} 5,(191,bQ (.ref (5+200))),pD 5 es de],n3+200,tk3+7+d1+d2+1+d3+d4+1⟩,[]⟩
theorem wV (b kk vv:Bool)(w:World)(X:Lv)(n tk:Nat)(Y:Lv)(v:Int)(tv:Nat)(a c:Int)(n2 tk2 we ae dk:Nat)(ws av:aN)(dv:Value)(wo:Str)(wf:Nat->Nat)(wd:Nat)(st:Int)(n3 tk3 ty de:Nat)(es:Array DictEntry)(y:Str)(m:Int)(z1 z2 z3 z4:Str)(f1 f2 f3 f4:Nat->Nat)(d1 d2 d3 d4:Nat)(h:Int)(oy:Str)(ot:Nat):SK b w (Ar b kk vv w X n tk Y v tv a c n2 tk2 we ae dk ws av dv wo wf wd st n3 tk3 ty de es y m z1 z2 z3 z4 f1 f2 f3 f4 d1 d2 d3 d4 h oy ot):=by apply bq3 b kk vv;kernel_rfl
abbrev qN (b kk vv:Bool)(w:World)(X:Lv)(n tk:Nat)(Y:Lv)(v:Int)(tv:Nat)(a c:Int)(n2 tk2 we ae dk:Nat)(ws av:aN)(dv:Value)(wo:Str)(wf:Nat->Nat)(wd:Nat)(st:Int)(n3 tk3 ty de:Nat)(es:Array DictEntry)(y:Str)(m:Int)(z1 z2 z3 z4:Str)(f1 f2 f3 f4:Nat->Nat)(d1 d2 d3 d4:Nat)(h:Int)(oy:Str)(ot:Nat):SD:=⟨[0,0,0],[ac,bi,az,au,au,au,au,ac,ac,.x (jZ (5+200) h Y.word Y.tw (.str y ty) (.str y ty)) [2],fV,ac,ac,.o,.o,.o,ac,.o,.o,.o,ac,bi],[aI m,aB true,aG z1 f1 d1,aG z2 f2 d2,aG z3 f3 d3,aG z4 f4 d4],gC (gL b kk vv w X n tk v tv a c n2 tk2 we ae dk ws av dv wo wf wd st) (.ok (.ret (.str y ty))) [bE b w (fK Y kk) (if vv then 5 else 4),(191,bQ (.ref (5+200))),pD 5 es de] (n3+200) tk3,
 [⟨bc "int.__mod__" [.int Y.style Y.11,.int ((2:Nat):Int) (tk3+2)],aI m,[]⟩,⟨bc "int.__eq__" [.int m (tk3+3),.int ((1:Nat):Int) (tk3+4)],aB true,[]⟩,⟨bc "str.__add__" [.str (Rf "\\") (tk3+5),.str (Rf ".") (tk3+6)],aG z1 f1 d1,[]⟩,⟨bc "str.__add__" [.str z1 ((f1 (tk3+7))),.str y ty],aG z2 f2 d2,[]⟩,⟨bc "str.__add__" [.str z2 ((f2 (tk3+7+d1))),.str (Rf "\n") (tk3+7+d1+d2)],aG z3 f3 d3,[]⟩,⟨bc "str.__add__" [.str Y.sheet Y.23,.str z3 ((f3 (tk3+7+d1+d2+1)))],aG z4 f4 d4,[]⟩],⟨.pure (.done .next),[],[bE b w {Y with kk:=kk,typed:=y,tty:=ty,sheet:=z4,tsh:=f4 (tk3+7+d1+d2+1+d3),q:=qU Y.q 7 (if vv then Y.q 7 else tk3)} 5,(191,bQ (.ref (5+200))),pD 5 (es.push ⟨h,.str Y.word Y.tw,.str y ty⟩) (de+1)],n3+200,tk3+7+d1+d2+1+d3+d4+1⟩,[⟨bc "dict.setdefault" [.ref 205,.str Y.word Y.24,.str y ty],jZ (5+200) h Y.word Y.tw (.str y ty) (.str y ty),[(205,j1 es de)]⟩]⟩
theorem wW (b kk vv:Bool)(w:World)(X:Lv)(n tk:Nat)(Y:Lv)(v:Int)(tv:Nat)(a c:Int)(n2 tk2 we ae dk:Nat)(ws av:aN)(dv:Value)(wo:Str)(wf:Nat->Nat)(wd:Nat)(st:Int)(n3 tk3 ty de:Nat)(es:Array DictEntry)(y:Str)(m:Int)(z1 z2 z3 z4:Str)(f1 f2 f3 f4:Nat->Nat)(d1 d2 d3 d4:Nat)(h:Int)(oy:Str)(ot:Nat):SK b w (qN b kk vv w X n tk Y v tv a c n2 tk2 we ae dk ws av dv wo wf wd st n3 tk3 ty de es y m z1 z2 z3 z4 f1 f2 f3 f4 d1 d2 d3 d4 h oy ot):=by apply bq3 b kk vv;kernel_rfl
abbrev At (b kk vv:Bool)(w:World)(X:Lv)(n tk:Nat)(Y:Lv)(v:Int)(tv:Nat)(a c:Int)(n2 tk2 we ae dk:Nat)(ws av:aN)(dv:Value)(wo:Str)(wf:Nat->Nat)(wd:Nat)(st:Int)(n3 tk3 ty de:Nat)(es:Array DictEntry)(y:Str)(m:Int)(z1 z2 z3 z4:Str)(f1 f2 f3 f4:Nat->Nat)(d1 d2 d3 d4:Nat)(h:Int)(oy:Str)(ot:Nat):SD:=⟨[0,0,0],[ac,bi,az,au,au,au,au,ac,ac,.h [2],ac,ac,.o,.o,.o,ac,.o,.o,.o,ac,bi],[eI (.str oy ot),aI m,aB true,aG z1 f1 d1,aG z2 f2 d2,aG z3 f3 d3,aG z4 f4 d4],gC (gL b kk vv w X n tk v tv a c n2 tk2 we ae dk ws av dv wo wf wd st) (.ok (.ret (.str y ty))) [bE b w (fK Y kk) (if vv then 5 else 4),(191,bQ (.ref (5+200))),pD 5 es de] (n3+200) tk3,
 [⟨bc "dict.setdefault" [.ref 205,.str Y.word Y.24,.str y ty],eI (.str oy ot),[(205,j1 es de)]⟩,⟨bc "int.__mod__" [.int Y.style Y.11,.int ((2:Nat):Int) (tk3+2)],aI m,[]⟩,⟨bc "int.__eq__" [.int m (tk3+3),.int ((1:Nat):Int) (tk3+4)],aB true,[]⟩,⟨bc "str.__add__" [.str (Rf "\\") (tk3+5),.str (Rf ".") (tk3+6)],aG z1 f1 d1,[]⟩,⟨bc "str.__add__" [.str z1 ((f1 (tk3+7))),.str y ty],aG z2 f2 d2,[]⟩,⟨bc "str.__add__" [.str z2 ((f2 (tk3+7+d1))),.str (Rf "\n") (tk3+7+d1+d2)],aG z3 f3 d3,[]⟩,⟨bc "str.__add__" [.str Y.sheet Y.23,.str z3 ((f3 (tk3+7+d1+d2+1)))],aG z4 f4 d4,[]⟩],⟨.pure (.done .next),[],[bE b w {Y with kk:=kk,typed:=y,tty:=ty,sheet:=z4,tsh:=f4 (tk3+7+d1+d2+1+d3),q:=qU Y.q 7 (if vv then Y.q 7 else tk3)} 5,(191,bQ (.ref (5+200))),pD 5 es de],n3+200,tk3+7+d1+d2+1+d3+d4+1⟩,[]⟩
theorem wX (b kk vv:Bool)(w:World)(X:Lv)(n tk:Nat)(Y:Lv)(v:Int)(tv:Nat)(a c:Int)(n2 tk2 we ae dk:Nat)(ws av:aN)(dv:Value)(wo:Str)(wf:Nat->Nat)(wd:Nat)(st:Int)(n3 tk3 ty de:Nat)(es:Array DictEntry)(y:Str)(m:Int)(z1 z2 z3 z4:Str)(f1 f2 f3 f4:Nat->Nat)(d1 d2 d3 d4:Nat)(h:Int)(oy:Str)(ot:Nat):SK b w (At b kk vv w X n tk Y v tv a c n2 tk2 we ae dk ws av dv wo wf wd st n3 tk3 ty de es y m z1 z2 z3 z4 f1 f2 f3 f4 d1 d2 d3 d4 h oy ot):=by apply bq3 b kk vv;kernel_rfl
section
variable(b kk:Bool)(w:World)(X:Lv)(n tk:Nat)(xs:aN)(e:Nat)(n2 tk2:Nat)(Y:Lv)
abbrev tn:SC:=⟨[0],[.b,.b,ac,.b],[],gC (oA b kk w X n tk xs e) (.ok .next) [bE b w (fK Y kk) 5] (n2+200) tk2,
 [],ic Y.sheet Y.tsh,[bE b w (fK Y kk) 5],n2+200,tk2,[]⟩
def oC:Option bo:=dR b w (tn b kk w X n tk xs e n2 tk2 Y)
theorem En:SQ (tn b kk w X n tk xs e n2 tk2 Y) (oC b kk w X n tk xs e n2 tk2 Y):=by apply bq2 b kk;kernel_rfl
theorem wY:aY (oC b kk w X n tk xs e n2 tk2 Y):=af (by apply bq2 b kk;kernel_rfl)
end
section
variable(b kk:Bool)(w:World)(X:Lv)(n tk:Nat)(xs:aN)(e:Nat)(n2 tk2:Nat)(Y:Lv)(n3 tk3:Nat)(y:Str)(ty:Nat)
abbrev Au:SC:=⟨[],[.b],[],gC (oC b kk w X n tk xs e n2 tk2 Y) (.ok (.ret (.str y ty))) [] (n3+200) tk3,
 [],gz y ty,[],n3+200,tk3,[]⟩
def oD:Option bo:=dR b w (Au b kk w X n tk xs e n2 tk2 Y n3 tk3 y ty)
theorem Eo:SQ (Au b kk w X n tk xs e n2 tk2 Y n3 tk3 y ty) (oD b kk w X n tk xs e n2 tk2 Y n3 tk3 y ty):=by apply bq2 b kk;kernel_rfl
theorem wZ:aY (oD b kk w X n tk xs e n2 tk2 Y n3 tk3 y ty):=af (by apply bq2 b kk;kernel_rfl)
end
section
variable(b kk:Bool)(w:World)(X:Lv)(n tk:Nat)(xs:aN)(e:Nat)(n2 tk2:Nat)(Y:Lv)(n3 tk3:Nat)(y:Str)(ty n4 tk4 x:Nat)
abbrev Il:SD:=⟨[0],[ac,bi],[],gC (oD b kk w X n tk xs e n2 tk2 Y n3 tk3 y ty) (.ok (.ret (.ref (x+200)))) [(193,aM)] (n4+200) tk4,
 [],⟨.pure (.done .next),[],[(193,bQ (.ref (x+200)))],n4+200,tk4⟩,[]⟩
theorem Ep:SK b w (Il b kk w X n tk xs e n2 tk2 Y n3 tk3 y ty n4 tk4 x):=by apply bq2 b kk;kernel_rfl
end
section
variable(b kk:Bool)(w:World)(X:Lv)(n tk:Nat)(ws:aN)(we:Nat)
abbrev Av:SC:=⟨[0,0,0,0,0],[ac,az,az,.i,az,.a,au,.a,.a],[],⟨cm (pf [7]) aE,[],[bE b w (fK X kk) 5,pL X.wd ws we],n+200,tk⟩,
 [],ls sZ [cX 1] n (n+1) (n+2),[bE b w (fK X kk) 5,pL X.wd ws we,pI n (X.wd+200) 0,pL (n+1) #[] 0,(n+2+200,cy [] 0)],n+203,tk,[]⟩
def oE:Option bo:=dR b w (Av b kk w X n tk ws we)
theorem Es:SQ (Av b kk w X n tk ws we) (oE b kk w X n tk ws we):=by apply bq2 b kk;kernel_rfl
theorem w0:aY (oE b kk w X n tk ws we):=af (by apply bq2 b kk;kernel_rfl)
end
section
variable(b vv:Bool)(w:World)(L:Lx)(it acc D S n tk i e dk tl tw:Nat)(xs:aN)(dv:Value)(lin:Int)(wo:Str)
abbrev Aw:SC:=⟨[0,0,0,0,0,0],[ac,.x (bW (it+200) (i:Int) (.str wo tw)) [0,0],ac,bi,au,fV,.b,bf,b6,.b,.b,.b,b6,.b,.b,.b,b6,.b,.b,.b,.b,b6,b7,.b],[],⟨aA (cY sZ [cX 1] it acc D),[],[pI it (S+200) (i:Int),pL S xs e,c5 b w D vv dk dv,bD L,jc (PB b w) L lin tl,jb L],n+200,tk⟩,
 [],fp L.x,[pI it (S+200) ((i:Int)+1),pL S xs e,c5 b w D true (if vv then dk else tk) (.str wo tw),bD L,jc (PB b w) L lin tl,jb L],n+200,tk+1,[⟨bc "list_iterator.__next__" [.ref (it+200)],bW (it+200) (i:Int) (.str wo tw),[((it+200),ba (S+200) ((i:Nat):Int)),((S+200),ab xs e)]⟩]⟩
def oF:Option bo:=dR b w (Aw b vv w L it acc D S n tk i e dk tl tw xs dv lin wo)
theorem Et:SQ (Aw b vv w L it acc D S n tk i e dk tl tw xs dv lin wo) (oF b vv w L it acc D S n tk i e dk tl tw xs dv lin wo):=by apply bq2 b vv;kernel_rfl
theorem w2:aY (oF b vv w L it acc D S n tk i e dk tl tw xs dv lin wo):=af (by apply bq2 b vv;kernel_rfl)
end
section
variable(b vv:Bool)(w:World)(L:Lx)(it acc D S n tk i e dk tl tw:Nat)(xs:aN)(dv:Value)(lin:Int)(wo:Str)(n2 tk2 ty:Nat)(y:Str)
abbrev Ax:SC:=⟨[],[.b],[],gC (oF b vv w L it acc D S n tk i e dk tl tw xs dv lin wo) (.ok (.ret (.str y ty))) [] (n2+200) tk2,
 [],jr y ty,[],n2+200,tk2,[]⟩
def oG:Option bo:=dR b w (Ax b vv w L it acc D S n tk i e dk tl tw xs dv lin wo n2 tk2 ty y)
theorem Eu:SQ (Ax b vv w L it acc D S n tk i e dk tl tw xs dv lin wo n2 tk2 ty y) (oG b vv w L it acc D S n tk i e dk tl tw xs dv lin wo n2 tk2 ty y):=by apply bq2 b vv;kernel_rfl
theorem w3:aY (oG b vv w L it acc D S n tk i e dk tl tw xs dv lin wo n2 tk2 ty y):=af (by apply bq2 b vv;kernel_rfl)
end
section
variable(b vv:Bool)(w:World)(L:Lx)(it acc D S n tk i e dk tl tw:Nat)(xs:aN)(dv:Value)(lin:Int)(wo:Str)(n2 tk2 ty:Nat)(y:Str)(n3 tk3 tz ae:Nat)(z:Str)(av:aN)
abbrev Ay:SD:=⟨[0],[.x (b5 (acc+200) (.str z tz)) [0],bi],[],gC (oG b vv w L it acc D S n tk i e dk tl tw xs dv lin wo n2 tk2 ty y) (.ok (.ret (.str z tz))) [pL acc av ae] (n3+200) tk3,
 [],⟨.pure (.again (cY sZ [cX 1] it acc D)),[],[pL acc (av.push (.str z tz)) (bU av (.str z tz) ae)],n3+200,tk3⟩,[⟨bc "list.append" [.ref (acc+200),.str z tz],b5 (acc+200) (.str z tz),[((acc+200),ab av ae)]⟩]⟩
theorem Ev:SK b w (Ay b vv w L it acc D S n tk i e dk tl tw xs dv lin wo n2 tk2 ty y n3 tk3 tz ae z av):=by apply bq2 b vv;kernel_rfl
end
abbrev Im (b:Bool)(w:World)(it acc D n tk i S e:Nat)(xs:aN):SD:=⟨[1],[ac,.x (dr (it+200)) [0,0],ac,bi,.a,.a,bf],[],⟨aA (cY sZ [cX 1] it acc D),[],[pI it (S+200) (i:Int),pL S xs e],n+200,tk⟩,
 [],⟨.pure (.done .next),[],[pL S xs e],n+202,tk⟩,[⟨bc "list_iterator.__next__" [.ref (it+200)],dr (it+200),[((it+200),ba (S+200) ((i:Nat):Int)),((S+200),ab xs e)]⟩]⟩
theorem Ew (b:Bool)(w:World)(it acc D n tk i S e:Nat)(xs:aN):SK b w (Im b w it acc D n tk i S e xs):=by apply bq1 b;kernel_rfl
section
variable(b kk:Bool)(w:World)(X:Lv)(n tk:Nat)(ws:aN)(we:Nat)(n2 tk2 dk:Nat)(dv:Value)
abbrev Az:SD:=⟨[0],[ac,bi,az,az,jI],[],gC (oE b kk w X n tk ws we) (.ok .next) [bE b w (fK X kk) 5,c5 b w (n+2) true dk dv] (n2+200) tk2,
 [],⟨.pure (.done .next),[],[bE b w {X with kk:=kk,told:=n+1,q:=qU X.q 8 tk2} 6],n2+200,tk2+1⟩,[]⟩
theorem Ex:SK b w (Az b kk w X n tk ws we n2 tk2 dk dv):=by apply bq2 b kk;kernel_rfl
end
section
variable(b kk:Bool)(w:World)(X:Lv)(n tk:Nat)
abbrev Io:SD:=⟨[0],[ac],[],⟨gX (Gr (wO (qK (fh 8)) 0)) aE,[],[bE b w (fK X kk) 6],n+200,tk⟩,
 [],⟨.pure (.done (.ret (.ref (X.told+200)))),[],[bE b w (fK X kk) 6],n+200,tk⟩,[]⟩
theorem Ey:SK b w (Io b kk w X n tk):=by apply bq2 b kk;kernel_rfl
end
section
variable(b kk:Bool)(w:World)(X:Lv)(n tk:Nat)(ws:aN)(we:Nat)
abbrev AA:SC:=⟨[0,0,0,0,0],[ac,az,az,.i,az,.a,au,.a,.a],[],⟨gX ov aE,[],[bE b w (fK X kk) 6,pL X.wd ws we],n+200,tk⟩,
 [],ls ov [] n (n+1) (n+2),[bE b w (fK X kk) 6,pL X.wd ws we,pI n (X.wd+200) 0,pL (n+1) #[] 0,(n+2+200,cy [] 0)],n+203,tk,[]⟩
def oH:Option bo:=dR b w (AA b kk w X n tk ws we)
theorem Ez:SQ (AA b kk w X n tk ws we) (oH b kk w X n tk ws we):=by apply bq2 b kk;kernel_rfl
theorem w4:aY (oH b kk w X n tk ws we):=af (by apply bq2 b kk;kernel_rfl)
end
section
variable(b vv:Bool)(w:World)(it acc D S n tk i e dk tw ae:Nat)(xs av:aN)(dv:Value)(wo z:Str)(f:Nat->Nat)(d:Nat)
abbrev AB:SD:=⟨[0,0,0,0],[ac,.x (bW (it+200) (i:Int) (.str wo tw)) [0,0],ac,bi,au,fV,au,.o,.x (b5 (acc+200) (.str z (f (tk+2)))) [3],j0],[aG z f d],⟨aA (cY ov [] it acc D),[],[pI it (S+200) (i:Int),pL S xs e,c5 b w D vv dk dv,pL acc av ae],n+200,tk⟩,
 [⟨bc "str.__add__" [.str (Rf ".") (tk+1),.str wo tw],aG z f d,[]⟩],⟨.pure (.again (cY ov [] it acc D)),[],[pI it (S+200) ((i:Int)+1),pL S xs e,c5 b w D true (if vv then dk else tk) (.str wo tw),pL acc (av.push (.str z (f (tk+2)))) (bU av (.str z (f (tk+2))) ae)],n+200,tk+2+d⟩,[⟨bc "list_iterator.__next__" [.ref (it+200)],bW (it+200) (i:Int) (.str wo tw),[((it+200),ba (S+200) ((i:Nat):Int)),((S+200),ab xs e)]⟩,⟨bc "list.append" [.ref (acc+200),.str z ((f (tk+2)))],b5 (acc+200) (.str z (f (tk+2))),[((acc+200),ab av ae)]⟩]⟩
theorem EA:SK b w (AB b vv w it acc D S n tk i e dk tw ae xs av dv wo z f d):=by apply bq2 b vv;kernel_rfl
end
abbrev AC (b:Bool)(w:World)(it acc D n tk i S e:Nat)(xs:aN):SD:=⟨[1],[ac,.x (dr (it+200)) [0,0],ac,bi,.a,.a,bf],[],⟨aA (cY ov [] it acc D),[],[pI it (S+200) (i:Int),pL S xs e],n+200,tk⟩,
 [],⟨.pure (.done .next),[],[pL S xs e],n+202,tk⟩,[⟨bc "list_iterator.__next__" [.ref (it+200)],dr (it+200),[((it+200),ba (S+200) ((i:Nat):Int)),((S+200),ab xs e)]⟩]⟩
theorem EB (b:Bool)(w:World)(it acc D n tk i S e:Nat)(xs:aN):SK b w (AC b w it acc D n tk i S e xs):=by apply bq1 b;kernel_rfl
section
variable(b kk:Bool)(w:World)(X:Lv)(n tk:Nat)(ws:aN)(we:Nat)(n2 tk2 dk:Nat)(dv:Value)
abbrev Ip:SD:=⟨[],[ac,ac,bi],[],gC (oH b kk w X n tk ws we) (.ok .next) [c5 b w (n+2) true dk dv] (n2+200) tk2,
 [],⟨.pure (.done (.ret (.ref (n+1+200)))),[],[],n2+200,tk2⟩,[]⟩
theorem EC:SK b w (Ip b kk w X n tk ws we n2 tk2 dk dv):=by apply bq2 b kk;kernel_rfl
end
section
variable(b:Bool)(w:World)(n tk tl:Nat)(L:Lx)(lin:Int)
abbrev Iq:SD:=⟨[0,0,0],[ac,au,.b,.b,.b,.i,au,.b,.b,.b,au,au,.b,az,.o],[aB false],⟨Gs (wO (qK (fh 8)) 1),[],[bD L,jc (PB b w) L lin tl,jb L],n+200,tk⟩,
 [⟨bc "int.__ne__" [.int lin tl,.int ((3:Nat):Int) (tk+1)],aB false,[]⟩],⟨.pure (.done (.ret (.bool false))),[],[bD L,jc (PB b w) L lin tl,jb L],n+200,tk+2⟩,[]⟩
theorem ED:SK b w (Iq b w n tk tl L lin):=by apply bq1 b;kernel_rfl
end
noncomputable def EE (s:Stmt):List Stmt:=(LZ s).2.1
abbrev Kr (P:Params)(X:Lv)(g:Nat):Obj:=bO (Ad P X++((Ae P X).take (if X.go then 16 else g)++(if X.go then Kn P X else []))) (if X.kk then(if X.go then(if X.pm then 21 else 19)else 3+g)else(if X.go then(if X.pm then 20 else 18)else 2+g))
abbrev Gt (a:Nat)(d:Int)(t:Nat):Obj:=Hf [.ref (a+200),.int d t]
abbrev Ks (a c:Nat):Obj:=Hf [.ref (a+200),.ref (c+200)]
abbrev cn (b:Bool)(w:World)(X:Lv)(i:Nat):Addr×Obj:=(190,Kr (PB b w) X i)
abbrev cM (x a c:Nat):Addr×Obj:=(x+200,Ks a c)
abbrev dn:Addr×Obj:=(191,bQ (.ref (5+200)))
abbrev Jt (x a:Nat)(d:Int)(t:Nat):Addr×Obj:=(x+200,Gt a d t)
section
variable(b kk:Bool)(w:World)(X:Lv)(n tk:Nat)(xs:aN)(e:Nat)
abbrev to:SC:=⟨[0,0,0,0,0],[.a,ac,bi,.a,ac,bi,ac,az,az,.i,az,.a,b7],[],⟨cm (pf [9,10,11,12,13,14]) aE,[],[bE b w (fK X kk) 6,pL X.told xs e],n+200,tk⟩,
 [],mU qI (n+2),[bE b w {X with kk:=kk,cd:=n,rd:=n+1,q:=qU (qU X.q 9 tk) 10 (tk+1)} 8,pL X.told xs e,pL n #[] 0,pD (n+1) #[] 0,pI (n+2) (X.told+200) 0],n+203,tk+2,[]⟩
def oI:Option bo:=dR b w (to b kk w X n tk xs e)
theorem EF:SQ (to b kk w X n tk xs e) (oI b kk w X n tk xs e):=by apply bq2 b kk;kernel_rfl
theorem w5:aY (oI b kk w X n tk xs e):=af (by apply bq2 b kk;kernel_rfl)
end
section
variable(b kk:Bool)(w:World)(X:Lv)(n tk:Nat)(xs:aN)(e:Nat)(Y:Lv)(n2 tk2:Nat)(L:Lx)(lin:Int)(tl:Nat)
abbrev tq:SC:=⟨[0,0,0,0,0,0],[.a,ac,bi,.a,ac,bi,az,bf,.b,.b,.b,bf,.b,.b,.b,bf,.b,.b,.b,.b,bf,au,.b],[],gC (oI b kk w X n tk xs e) (.ok .next) [bE b w (fK Y kk) 9,bD L,jc (PB b w) L lin tl,jb L] (n2+200) tk2,
 [],fp L.x,[bE b w {Y with kk:=kk,met:=n2,fd:=n2+1,q:=qU (qU Y.q 12 tk2) 13 (tk2+1)} 11,bD L,jc (PB b w) L lin tl,jb L,pL n2 #[] 0,pL (n2+1) #[] 0],n2+202,tk2+2,[]⟩
def oJ:Option bo:=dR b w (tq b kk w X n tk xs e Y n2 tk2 L lin tl)
theorem EG:SQ (tq b kk w X n tk xs e Y n2 tk2 L lin tl) (oJ b kk w X n tk xs e Y n2 tk2 L lin tl):=by apply bq2 b kk;kernel_rfl
theorem w6:aY (oJ b kk w X n tk xs e Y n2 tk2 L lin tl):=af (by apply bq2 b kk;kernel_rfl)
end
section
variable(b kk:Bool)(w:World)(X:Lv)(n tk:Nat)(xs:aN)(e:Nat)(Y Z:Lv)(n2 tk2:Nat)(L:Lx)(lin:Int)(tl:Nat)(n3 tk3 ty:Nat)(y:Str)
abbrev AD:SD:=⟨[0],[ac,bi],[],gC (oJ b kk w X n tk xs e Y n2 tk2 L lin tl) (.ok (.ret (.str y ty))) [bE b w (fK Z kk) 11] (n3+200) tk3,
 [],⟨.pure (.done .next),[],[bE b w {Z with kk:=kk,tok:=y,ttk:=ty} 11],n3+200,tk3+1⟩,[]⟩
theorem EH:SK b w (AD b kk w X n tk xs e Y Z n2 tk2 L lin tl n3 tk3 ty y):=by apply bq2 b kk;kernel_rfl
end
section
variable(b kk vv:Bool)(w:World)(X:Lv)(n tk:Nat)(y:Str)(ty:Nat)
abbrev EI:SD:=⟨[0],[ac,bi],[],⟨kN qI.1 aE (.str y ty),[],[bE b w (fK X kk) (if vv then 9 else 8)],n+200,tk⟩,
 [],⟨.pure (.done .next),[],[bE b w {X with kk:=kk,tok:=y,ttk:=ty,q:=qU X.q 11 (if vv then X.q 11 else tk)} 9],n+200,tk+1⟩,[]⟩
theorem AE:SK b w (EI b kk vv w X n tk y ty):=by apply bq3 b kk vv;kernel_rfl
end
section
variable(b kk:Bool)(w:World)(X:Lv)(n tk:Nat)(es:Array DictEntry)(de:Nat)
abbrev vg:SD:=⟨[0,0],[ac,ac,az,az,.h [1]],[eI (.bool true)],⟨a0 (Af 0) aE,[],[bE b w (fK X kk) 9,pD X.rd es de],n+200,tk⟩,
 [⟨bc "dict.__contains__" [.ref (X.14+200),.str X.tok X.26],eI (.bool true),[((X.14+200),j1 es de)]⟩],⟨.pure (.done .next),[],[bE b w (fK X kk) 9,pD X.rd es de],n+200,tk+1⟩,[]⟩
theorem AF:SK b w (vg b kk w X n tk es de):=by apply bq2 b kk;kernel_rfl
end
section
variable(b kk:Bool)(w:World)(X:Lv)(n tk:Nat)(es:Array DictEntry)(de:Nat)(cs:aN)(ce:Nat)(L:Lx)(lin:Int)(tl:Nat)(y:Str)(yf yg:Nat->Nat)(yd ye:Nat)(h:Int)
abbrev oK:SC:=⟨[0,0,0,0,0,0,2,0,0],[ac,ac,az,az,.h [1],ac,au,au,au,au,ac,.a,.h [6],.x (b5 (X.cd+200) (.str y (yf (tk+2)))) [2],fV,ac,.a,.h [7],.a,.a,.a,ac,ac,az,az,.x (jZ (X.rd+200) h X.tok X.ttk (.ref (n+4+200)) .none) [1],jI,bf,b6,.b,.b,.b,b6,.b,.b,.b,b6,.b,.b,.b,.b,b6,b7,ac,.b],[eI (.bool false),aG y yf yd,aG y yg ye],⟨a0 (Af 0) aE,[],[bE b w (fK X kk) 9,pD X.rd es de,pL X.cd cs ce,bD L,jc (PB b w) L lin tl,jb L],n+200,tk⟩,
 [⟨bc "dict.__contains__" [.ref (X.14+200),.str X.tok X.26],eI (.bool false),[((X.14+200),j1 es de)]⟩,⟨bc "str.__getitem__" [.str X.tok X.26,.ref (n+200)],aG y yf yd,[((n+200),bq (.int ((1:Nat):Int) (tk+1)) .none .none)]⟩,⟨bc "str.__getitem__" [.str X.tok X.26,.ref (n+201)],aG y yg ye,[((n+201),bq (.int ((1:Nat):Int) (tk+2+yd)) .none .none)]⟩],kB L.x (.str X.tok X.ttk),[bE b w (fK X kk) 9,pD X.rd (es.push ⟨h,.str X.tok X.ttk,.ref (n+4+200)⟩) (de+1),pL X.cd (cs.push (.str y (yf (tk+2)))) (bU cs (.str y (yf (tk+2))) ce),bD L,jc (PB b w) L lin tl,jb L,pL (n+2) #[.str y (yg (tk+2+yd+1))] 0,pL (n+3) #[] 0,cM (n+4) (n+2) (n+3)],n+205,tk+2+yd+1+ye+1,[⟨bc "list.append" [.ref (X.13+200),.str y ((yf (tk+2)))],b5 (X.cd+200) (.str y (yf (tk+2))),[((X.13+200),ab cs ce)]⟩,⟨bc "dict.__setitem__" [.ref (X.14+200),.str X.tok X.26,.ref (n+204)],jZ (X.rd+200) h X.tok X.ttk (.ref (n+4+200)) .none,[((X.14+200),j1 es de)]⟩]⟩
def lx:Option bo:=dR b w (oK b kk w X n tk es de cs ce L lin tl y yf yg yd ye h)
theorem AG:SQ (oK b kk w X n tk es de cs ce L lin tl y yf yg yd ye h) (lx b kk w X n tk es de cs ce L lin tl y yf yg yd ye h):=by apply bq2 b kk;kernel_rfl
theorem tr:aY (lx b kk w X n tk es de cs ce L lin tl y yf yg yd ye h):=af (by apply bq2 b kk;kernel_rfl)
end
section
variable(b kk:Bool)(w:World)(X:Lv)(n tk:Nat)(es:Array DictEntry)(de:Nat)(cs:aN)(ce:Nat)(L:Lx)(lin:Int)(tl:Nat)(y:Str)(yf yg:Nat->Nat)(yd ye:Nat)(h:Int)(n2 tk2:Nat)
abbrev vh:SD:=⟨[],[],[],gC (lx b kk w X n tk es de cs ce L lin tl y yf yg yd ye h) (.ok (.ret .none)) [] (n2+200) tk2,
 [],⟨.pure (.done .next),[],[],n2+200,tk2⟩,[]⟩
theorem AH:SK b w (vh b kk w X n tk es de cs ce L lin tl y yf yg yd ye h n2 tk2):=by apply bq2 b kk;kernel_rfl
end
section
variable(b:Bool)(w:World)(n tk:Nat)
abbrev vi:SC:=⟨[],[],[],⟨cm (pf [15,16,17]) aE,[],[],n+200,tk⟩,
 [],vc,[],n+200,tk,[]⟩
def gi:Option bo:=dR b w (vi n tk)
theorem AI:SQ (vi n tk) (gi b w n tk):=by apply bq1 b;kernel_rfl
theorem tA:aY (gi b w n tk):=af (by apply bq1 b;kernel_rfl)
end
section
variable(b kk gg pm:Bool)(w:World)(X:Lv)(n tk:Nat)(r:Bool)
abbrev Kt:SD:=⟨[0],[ac,.o],[aB r],⟨Gs (wO eD.1 0),[],[cn b w (fA X kk gg pm) 11],n+200,tk⟩,
 [⟨bc "str.__ne__" [.str X.tok X.26,.str (Rf "") tk],aB r,[]⟩],⟨.pure (.done (.ret (.bool r))),[],[cn b w (fA X kk gg pm) 11],n+200,tk+1⟩,[]⟩
theorem Ir:SK b w (Kt b kk gg pm w X n tk r):=by apply bq4 b kk gg pm;kernel_rfl
end
section
variable(b kk gg pm:Bool)(w:World)(X:Lv)(n tk:Nat)
abbrev Ku:SD:=⟨[0],[ac],[],⟨gX (Gr (wO eD.1 1)) aE,[],[cn b w (fA X kk gg pm) 11],n+200,tk⟩,
 [],⟨.pure (.done (.ret (.ref (X.fd+200)))),[],[cn b w (fA X kk gg pm) 11],n+200,tk⟩,[]⟩
theorem Is:SK b w (Ku b kk gg pm w X n tk):=by apply bq4 b kk gg pm;kernel_rfl
end
abbrev Kv (b:Bool)(w:World)(n tk:Nat):SD:=⟨[0],[.a],[],⟨gX (Ig (wO eD.1 1)) aE,[],[],n+200,tk⟩,
 [],⟨.pure (.done (.ret (.ref (n+200)))),[],[pL n #[] 0],n+201,tk⟩,[]⟩
theorem It (b:Bool)(w:World)(n tk:Nat):SK b w (Kv b w n tk):=by apply bq1 b;kernel_rfl
section
variable(b kk gg pm:Bool)(w:World)(X:Lv)(n tk:Nat)(es:Array DictEntry)(de tp a c:Nat)
noncomputable def oM: Option bo:=(go aA (SB b w) (KL (PB b w)) 300 [ac,ac,az,az,.h [1],ac,ac,az,az,az,.h [1],au,au,au,.i,au,.a,bf,bf,.i,bf,bf,bf,au,bf,j0,bf,.i,bf,bf,bf,au,bf,j0,bf,.i,bf,bf,bf,au,bf,j0,.a,.a,b6,ac,bi,ac,bi,.b,ac,.b] [eI (.bool true),eI (.ref (tp+200))] ⟨cm [bR 0,bR 1,bR 2,bR 3,bR 4,bR 5] aE,[],[cn b w (fA X kk gg pm) 11,pD X.rd es de,cM tp a c],n+200,tk⟩)
theorem EJ: jW [0,0,0] (oM b kk gg pm w X n tk es de tp a c)
 [⟨bc "dict.__contains__" [.ref (X.14+200),.str X.tok X.26],eI (.bool true),[((X.14+200),j1 es de)]⟩,⟨bc "dict.__getitem__" [.ref (X.14+200),.str X.tok X.26],eI (.ref (tp+200)),[((X.14+200),j1 es de)]⟩] (ic X.tok X.ttk) [cn b w {X with kk:=kk,go:=gg,pm:=pm,ah:=a,bk:=c,q:=qU (qU X.q 14 (if gg then X.q 14 else tk+2)) 15 (if gg then X.q 15 else tk+3)} 13,pD X.rd es de,cM tp a c] (n+203) (tk+4) []:=by apply bq4 b kk gg pm;kernel_rfl
theorem w7:aY (oM b kk gg pm w X n tk es de tp a c):=af (by apply bq4 b kk gg pm;kernel_rfl)
end
section
variable(b kk gg pm:Bool)(w:World)(X:Lv)(n tk:Nat)(es:Array DictEntry)(de tp a c:Nat)(Y:Lv)(n2 tk2 ts ce:Nat)(sent rest:Str)(c1 c2 d:Int)(cs:aN)
abbrev tG:SC:=⟨[0,0,0],[ac,bi,ac,.o,ac,bi,.b,.b,ac,.o,.b,.b,ac,.o,.o,ac,bi,ac,az,az,.i,az,.a,au],[aS rest,aL c1,aL c2,aI d],gC (oM b kk gg pm w X n tk es de tp a c) (.ok (.ret (.str sent ts))) [cn b w (fA Y kk gg pm) 13,pL Y.cd cs ce] (n2+200) tk2,
 [⟨bc "str.lstrip" [.str sent ts,.str (Rf ".") (tk2+1)],aS rest,[]⟩,⟨bc "len" [.str sent ts],aL c1,[]⟩,⟨bc "len" [.str rest (tk2+2)],aL c2,[]⟩,⟨bc "int.__sub__" [.int c1 (tk2+5),.int c2 (tk2+7)],aI d,[]⟩],mU qJ n2,[cn b w {Y with kk:=kk,go:=true,pm:=gg&&pm,sent:=sent,tse:=ts,rest:=rest,tre:=tk2+2,dots:=d,tdo:=tk2+8,q:=qU (qU (qU Y.q 16 (if gg then Y.q 16 else tk2)) 17 (if gg then Y.q 17 else tk2+3)) 18 (if gg then Y.q 18 else tk2+9)} 11,pL Y.cd cs ce,pI n2 (Y.cd+200) 0],n2+201,tk2+10,[]⟩
def oN:Option bo:=dR b w (tG b kk gg pm w X n tk es de tp a c Y n2 tk2 ts ce sent rest c1 c2 d cs)
theorem EK:SQ (tG b kk gg pm w X n tk es de tp a c Y n2 tk2 ts ce sent rest c1 c2 d cs) (oN b kk gg pm w X n tk es de tp a c Y n2 tk2 ts ce sent rest c1 c2 d cs):=by apply bq4 b kk gg pm;kernel_rfl
theorem w8:aY (oN b kk gg pm w X n tk es de tp a c Y n2 tk2 ts ce sent rest c1 c2 d cs):=af (by apply bq4 b kk gg pm;kernel_rfl)
end
section
variable(b kk gg pm:Bool)(w:World)(X:Lv)(n tk:Nat)(es:Array DictEntry)(de tp a c:Nat)(Y:Lv)(n2 tk2 ts ce:Nat)(sent rest:Str)(c1 c2 d:Int)(cs:aN)(n3 tk3:Nat)
abbrev Iu:SD:=⟨[],[],[],gC (oN b kk gg pm w X n tk es de tp a c Y n2 tk2 ts ce sent rest c1 c2 d cs) (.ok .next) [] (n3+200) tk3,
 [],⟨.pure (.done .next),[],[],n3+200,tk3⟩,[]⟩
theorem EL:SK b w (Iu b kk gg pm w X n tk es de tp a c Y n2 tk2 ts ce sent rest c1 c2 d cs n3 tk3):=by apply bq4 b kk gg pm;kernel_rfl
end
section
variable(b kk pm:Bool)(w:World)(X:Lv)(n tk:Nat)(y:Str)(ty:Nat)
abbrev Gu:SD:=⟨[0],[ac,bi],[],⟨kN qJ.1 aE (.str y ty),[],[cn b w (fA X kk true pm) 11],n+200,tk⟩,
 [],⟨.pure (.done .next),[],[cn b w {X with kk:=kk,go:=true,pm:=pm,word:=y,tw:=ty} 11],n+200,tk+1⟩,[]⟩
theorem Iv:SK b w (Gu b kk pm w X n tk y ty):=by apply bq3 b kk pm;kernel_rfl
end
section
variable(b kk pm:Bool)(w:World)(X:Lv)(n tk:Nat)
abbrev Iw:SD:=⟨[0],[ac,.o],[aB false],⟨a0 (d6 0) aE,[],[cn b w (fA X kk true pm) 11],n+200,tk⟩,
 [⟨bc "int.__eq__" [.int X.dots X.29,.int ((2:Nat):Int) tk],aB false,[]⟩],⟨.pure (.done .next),[],[cn b w (fA X kk true pm) 11],n+200,tk+1⟩,[]⟩
theorem EM:SK b w (Iw b kk pm w X n tk):=by apply bq3 b kk pm;kernel_rfl
abbrev Ix:SD:=⟨[0],[ac,.o,ac,ac,.o],[aB true,aB false],⟨a0 (d6 0) aE,[],[cn b w (fA X kk true pm) 11],n+200,tk⟩,
 [⟨bc "int.__eq__" [.int X.dots X.29,.int ((2:Nat):Int) tk],aB true,[]⟩,⟨bc "str.__eq__" [.str X.word X.24,.str X.rest X.28],aB false,[]⟩],⟨.pure (.done .next),[],[cn b w (fA X kk true pm) 11],n+200,tk+1⟩,[]⟩
theorem EN:SK b w (Ix b kk pm w X n tk):=by apply bq3 b kk pm;kernel_rfl
abbrev Iy:SD:=⟨[0],[ac,.o,ac,ac,.o],[aB true,aB true],⟨a0 (d6 0) aE,[],[cn b w (fA X kk true pm) 11],n+200,tk⟩,
 [⟨bc "int.__eq__" [.int X.dots X.29,.int ((2:Nat):Int) tk],aB true,[]⟩,⟨bc "str.__eq__" [.str X.word X.24,.str X.rest X.28],aB true,[]⟩],⟨.pure (.done .cont),[],[cn b w (fA X kk true pm) 11],n+200,tk+1⟩,[]⟩
theorem EO:SK b w (Iy b kk pm w X n tk):=by apply bq3 b kk pm;kernel_rfl
end
section
variable(b kk pm:Bool)(w:World)(X:Lv)(n tk:Nat)(bz zs:aN)(be:Nat)(l:Int)(y:Str)(yf:Nat->Nat)(yd:Nat)
abbrev Iz:SD:=⟨[0,0,1,0],[ac,ac,.o,ac,ac,.a,az,au,az,.h [1,0],ac,.a,ac,bi,ac,.b,.b,ac,.o,.a,.h [5],ac,bi],[aB true,aR (ab zs 0),aL l,aG y yf yd],⟨a0 (d6 1) aE,[],[cn b w (fA X kk true pm) 11,pL X.bk bz be],n+200,tk⟩,
 [⟨bc "str.startswith" [.str X.word X.24,.str X.rest X.28],aB true,[]⟩,⟨bc "list.__add__" [.ref (X.18+200),.ref (n+200)],aR (ab zs 0),[((X.18+200),ab bz be),((n+200),ab #[.str X.word X.24] 0)]⟩,⟨bc "len" [.str X.rest X.28],aL l,[]⟩,⟨bc "str.__getitem__" [.str X.word X.24,.ref (n+203)],aG y yf yd,[((n+203),bq (.int l (tk+2)) .none .none)]⟩],⟨.pure (.done .next),[],[cn b w {X with kk:=kk,go:=true,pm:=true,pair:=n+2,more:=y,tmo:=yf (tk+3),q:=qU (qU X.q 19 (if pm then X.q 19 else tk)) 20 (if pm then X.q 20 else tk+3+yd)} 11,pL X.bk bz be,pL (n+1) zs 0,cM (n+2) (n+1) X.ah],n+204,tk+3+yd+1⟩,[]⟩
theorem EP:SK b w (Iz b kk pm w X n tk bz zs be l y yf yd):=by apply bq3 b kk pm;kernel_rfl
abbrev IA:SD:=⟨[0,0,1,0],[ac,ac,.o,ac,ac,.o,ac,ac,ac,.a,az,au,az,.h [1,0],.a,ac,bi,ac,.b,.b,ac,.o,.a,.h [5],ac,bi],[aB false,aB true,aR (ab zs 0),aL l,aG y yf yd],⟨a0 (d6 1) aE,[],[cn b w (fA X kk true pm) 11,pL X.bk bz be],n+200,tk⟩,
 [⟨bc "str.startswith" [.str X.word X.24,.str X.rest X.28],aB false,[]⟩,⟨bc "str.startswith" [.str X.rest X.28,.str X.word X.24],aB true,[]⟩,⟨bc "list.__add__" [.ref (X.18+200),.ref (n+200)],aR (ab zs 0),[((X.18+200),ab bz be),((n+200),ab #[.str X.word X.24] 0)]⟩,⟨bc "len" [.str X.word X.24],aL l,[]⟩,⟨bc "str.__getitem__" [.str X.rest X.28,.ref (n+203)],aG y yf yd,[((n+203),bq (.int l (tk+2)) .none .none)]⟩],⟨.pure (.done .next),[],[cn b w {X with kk:=kk,go:=true,pm:=true,pair:=n+2,more:=y,tmo:=yf (tk+3),q:=qU (qU X.q 19 (if pm then X.q 19 else tk)) 20 (if pm then X.q 20 else tk+3+yd)} 11,pL X.bk bz be,pL (n+1) zs 0,cM (n+2) X.ah (n+1)],n+204,tk+3+yd+1⟩,[]⟩
theorem EQ:SK b w (IA b kk pm w X n tk bz zs be l y yf yd):=by apply bq3 b kk pm;kernel_rfl
end
section
variable(b kk pm:Bool)(w:World)(X:Lv)(n tk:Nat)
abbrev IB:SD:=⟨[0],[ac,ac,.o,ac,ac,.o],[aB false,aB false],⟨a0 (d6 1) aE,[],[cn b w (fA X kk true pm) 11],n+200,tk⟩,
 [⟨bc "str.startswith" [.str X.word X.24,.str X.rest X.28],aB false,[]⟩,⟨bc "str.startswith" [.str X.rest X.28,.str X.word X.24],aB false,[]⟩],⟨.pure (.done .cont),[],[cn b w (fA X kk true pm) 11],n+200,tk⟩,[]⟩
theorem ER:SK b w (IB b kk pm w X n tk):=by apply bq3 b kk pm;kernel_rfl
end
section
variable(b kk:Bool)(w:World)(X:Lv)(n tk:Nat)(fs:aN)(fe:Nat)
abbrev IC:SD:=⟨[0,0,0],[ac,.o,ac,az,az,az,az,ac,ac,.a,.x (b5 (X.fd+200) (.ref (n+200))) [1],jI],[aB true],⟨a0 (d6 2) aE,[],[cn b w (fA X kk true true) 11,pL X.fd fs fe],n+200,tk⟩,
 [⟨bc "str.__eq__" [.str X.more X.30,.str (Rf "") tk],aB true,[]⟩],⟨.pure (.done .next),[],[cn b w (fA X kk true true) 11,pL X.fd (fs.push (.ref (n+200))) (bU fs (.ref (n+200)) fe),Jt n X.pair X.dots X.tdo],n+201,tk+1⟩,[⟨bc "list.append" [.ref (X.16+200),.ref (n+200)],b5 (X.fd+200) (.ref (n+200)),[((X.16+200),ab fs fe)]⟩]⟩
theorem ES:SK b w (IC b kk w X n tk fs fe):=by apply bq2 b kk;kernel_rfl
end
section
variable(b kk:Bool)(w:World)(X:Lv)(n tk:Nat)(ms:aN)(me:Nat)
abbrev ID:SD:=⟨[0,0],[ac,.o,ac,ac,az,az,.h [1]],[aB false,aB true],⟨a0 (d6 2) aE,[],[cn b w (fA X kk true true) 11,pL X.met ms me],n+200,tk⟩,
 [⟨bc "str.__eq__" [.str X.more X.30,.str (Rf "") tk],aB false,[]⟩,⟨bc "list.__contains__" [.ref (X.15+200),.str X.more X.30],aB true,[((X.15+200),ab ms me)]⟩],⟨.pure (.done .next),[],[cn b w (fA X kk true true) 11,pL X.met ms me],n+200,tk+1⟩,[]⟩
theorem ET:SK b w (ID b kk w X n tk ms me):=by apply bq2 b kk;kernel_rfl
end
section
variable(b kk:Bool)(w:World)(X:Lv)(n tk:Nat)(ms:aN)(me:Nat)(es:Array DictEntry)(de:Nat)(L:Lx)(lin:Int)(tl:Nat)(z1 z2 z3 z4:Str)(f1 f2 f3 f4:Nat->Nat)(d1 d2 d3 d4:Nat)(h:Int)
abbrev tH:SC:=⟨[0,0,0,0,0,0],[ac,.o,ac,ac,az,az,.h [1],ac,az,az,az,az,ac,.x (b5 (X.met+200) (.str X.more X.tmo)) [1],jI,ac,ac,ac,.i,.o,ac,.o,au,au,.x (jZ (X.rd+200) h z2 (f2 (tk+2+d1)) (.ref (X.pair+200)) .none) [2],fV,bf,b6,.b,.b,.b,b6,.b,.b,.b,b6,.b,.b,.b,.b,b6,b7,ac,.i,.o,ac,.o,.b],[aB false,aB false,aG z1 f1 d1,aG z2 f2 d2,aG z3 f3 d3,aG z4 f4 d4],⟨a0 (d6 2) aE,[],[cn b w (fA X kk true true) 11,pL X.met ms me,pD X.rd es de,bD L,jc (PB b w) L lin tl,jb L],n+200,tk⟩,
 [⟨bc "str.__eq__" [.str X.more X.30,.str (Rf "") tk],aB false,[]⟩,⟨bc "list.__contains__" [.ref (X.15+200),.str X.more X.30],aB false,[((X.15+200),ab ms me)]⟩,⟨bc "str.__mul__" [.str (Rf ".") (tk+1),.int X.dots X.29],aG z1 f1 d1,[]⟩,⟨bc "str.__add__" [.str z1 ((f1 (tk+2))),.str X.more X.30],aG z2 f2 d2,[]⟩,⟨bc "str.__mul__" [.str (Rf ".") (tk+2+d1+d2+1),.int X.dots X.29],aG z3 f3 d3,[]⟩,⟨bc "str.__add__" [.str z3 ((f3 (tk+2+d1+d2+2))),.str X.more X.30],aG z4 f4 d4,[]⟩],kB L.x (.str z4 (f4 (tk+2+d1+d2+2+d3))),[cn b w (fA X kk true true) 11,pL X.met (ms.push (.str X.more X.tmo)) (bU ms (.str X.more X.tmo) me),pD X.rd (es.push ⟨h,.str z2 (f2 (tk+2+d1)),.ref (X.pair+200)⟩) (de+1),bD L,jc (PB b w) L lin tl,jb L],n+200,tk+2+d1+d2+2+d3+d4,[⟨bc "list.append" [.ref (X.15+200),.str X.more X.30],b5 (X.met+200) (.str X.more X.tmo),[((X.15+200),ab ms me)]⟩,⟨bc "dict.__setitem__" [.ref (X.14+200),.str z2 ((f2 (tk+2+d1))),.ref (X.19+200)],jZ (X.rd+200) h z2 (f2 (tk+2+d1)) (.ref (X.pair+200)) .none,[((X.14+200),j1 es de)]⟩]⟩
def oO:Option bo:=dR b w (tH b kk w X n tk ms me es de L lin tl z1 z2 z3 z4 f1 f2 f3 f4 d1 d2 d3 d4 h)
theorem EU:SQ (tH b kk w X n tk ms me es de L lin tl z1 z2 z3 z4 f1 f2 f3 f4 d1 d2 d3 d4 h) (oO b kk w X n tk ms me es de L lin tl z1 z2 z3 z4 f1 f2 f3 f4 d1 d2 d3 d4 h):=by apply bq2 b kk;kernel_rfl
theorem w9:aY (oO b kk w X n tk ms me es de L lin tl z1 z2 z3 z4 f1 f2 f3 f4 d1 d2 d3 d4 h):=af (by apply bq2 b kk;kernel_rfl)
end
section
variable(b kk:Bool)(w:World)(X:Lv)(n tk:Nat)(ms:aN)(me:Nat)(es:Array DictEntry)(de:Nat)(L:Lx)(lin:Int)(tl:Nat)(z1 z2 z3 z4:Str)(f1 f2 f3 f4:Nat->Nat)(d1 d2 d3 d4:Nat)(h:Int)(n2 tk2:Nat)
abbrev AJ:SD:=⟨[],[],[],gC (oO b kk w X n tk ms me es de L lin tl z1 z2 z3 z4 f1 f2 f3 f4 d1 d2 d3 d4 h) (.ok (.ret .none)) [] (n2+200) tk2,
 [],⟨.pure (.done .next),[],[],n2+200,tk2⟩,[]⟩
theorem EV:SK b w (AJ b kk w X n tk ms me es de L lin tl z1 z2 z3 z4 f1 f2 f3 f4 d1 d2 d3 d4 h n2 tk2):=by apply bq2 b kk;kernel_rfl
end
section
variable(b kk pm:Bool)(w:World)(X:Lv)(n tk:Nat)
abbrev IE:SD:=⟨[0],[ac],[],⟨gX (Gr (qK (bR 6))) aE,[],[cn b w (fA X kk true pm) 11],n+200,tk⟩,
 [],⟨.pure (.done (.ret (.ref (X.fd+200)))),[],[cn b w (fA X kk true pm) 11],n+200,tk⟩,[]⟩
theorem EW:SK b w (IE b kk pm w X n tk):=by apply bq3 b kk pm;kernel_rfl
end
abbrev AK (b:Bool)(w:World)(n tk:Nat):SD:=⟨[0],[.a],[],⟨gX (Ig (qK (bR 6))) aE,[],[],n+200,tk⟩,
 [],⟨.pure (.done (.ret (.ref (n+200)))),[],[pL n #[] 0],n+201,tk⟩,[]⟩
theorem EX (b:Bool)(w:World)(n tk:Nat):SK b w (AK b w n tk):=by apply bq1 b;kernel_rfl
section
variable(b:Bool)(w:World)(n tk:Nat)(L:Lx)(lin:Int)(tl:Nat)
noncomputable def ly: Option bo:=(go aA (SB b w) (KL (PB b w)) 300 [ac,au,.b,.b,.b,au,.b,.b,.b,au,.b,.b,.b,.b,au,az,.b] [] ⟨cm (EE (bR 6)) aE,[],[bD L,jc (PB b w) L lin tl,jb L],n+200,tk⟩)
theorem IF: jW [0,0,0] (ly b w n tk L lin tl)
 [] (fp L.x) [bD L,jc (PB b w) L lin tl,jb L] (n+200) tk []:=by apply bq1 b;kernel_rfl
theorem AL:aY (ly b w n tk L lin tl):=af (by apply bq1 b;kernel_rfl)
end
section
variable(b kk pm:Bool)(w:World)(n tk:Nat)(L:Lx)(lin:Int)(tl:Nat)(X:Lv)(n2 tk2 ty:Nat)(y:Str)
abbrev AM:SD:=⟨[0],[ac,bi],[],gC (ly b w n tk L lin tl) (.ok (.ret (.str y ty))) [cn b w (fA X kk true pm) 11] (n2+200) tk2,
 [],⟨.pure (.done .next),[],[cn b w {X with kk:=kk,go:=true,pm:=pm,tok:=y,ttk:=ty} 11],n2+200,tk2+1⟩,[]⟩
theorem EY:SK b w (AM b kk pm w n tk L lin tl X n2 tk2 ty y):=by apply bq3 b kk pm;kernel_rfl
end
section
variable(b kk pm:Bool)(w:World)(X:Lv)(n tk n2 tk2:Nat)
abbrev AN:SC:=⟨[0],[.b,ac,.b],[],gC (gi b w n tk) (.ok .next) [cz b w (fB X kk pm) 0] (n2+200) tk2,
 [],nW X.cd tk2,[cz b w (fB X kk pm) 0],n2+200,tk2+1,[]⟩
def oP:Option bo:=dR b w (AN b kk pm w X n tk n2 tk2)
theorem EZ:SQ (AN b kk pm w X n tk n2 tk2) (oP b kk pm w X n tk n2 tk2):=by apply bq3 b kk pm;kernel_rfl
theorem xa:aY (oP b kk pm w X n tk n2 tk2):=af (by apply bq3 b kk pm;kernel_rfl)
end
section
variable(b kk pm:Bool)(w:World)(X:Lv)(n tk n2 tk2:Nat)(n3 tk3 a:Nat)
abbrev tI:SC:=⟨[0],[ac,bi,.b,ac,.b],[],gC (oP b kk pm w X n tk n2 tk2) (.ok (.ret (.ref (a+200)))) [cz b w (fB X kk pm) 0] (n3+200) tk3,
 [],oj X.cd,[cz b w {X with kk:=kk,pm:=pm,few:=a,q:=qU X.q 21 tk3} 1],n3+200,tk3+1,[]⟩
def oQ:Option bo:=dR b w (tI b kk pm w X n tk n2 tk2 n3 tk3 a)
theorem E0:SQ (tI b kk pm w X n tk n2 tk2 n3 tk3 a) (oQ b kk pm w X n tk n2 tk2 n3 tk3 a):=by apply bq3 b kk pm;kernel_rfl
theorem xb:aY (oQ b kk pm w X n tk n2 tk2 n3 tk3 a):=af (by apply bq3 b kk pm;kernel_rfl)
end
section
variable(b kk pm:Bool)(w:World)(X:Lv)(n tk n2 tk2:Nat)(Y:Lv)(n3 tk3 a n4 tk4 mt:Nat)(m:Int)
abbrev vj:SD:=⟨[0],[ac,bi],[],gC (oQ b kk pm w X n tk n2 tk2 n3 tk3 a) (.ok (.ret (.int m mt))) [cz b w (fB Y kk pm) 1] (n4+200) tk4,
 [],⟨.pure (.done .next),[],[cz b w {Y with kk:=kk,pm:=pm,least:=m,tle:=mt,q:=qU Y.q 22 tk4} 2],n4+200,tk4+1⟩,[]⟩
theorem AO:SK b w (vj b kk pm w X n tk n2 tk2 Y n3 tk3 a n4 tk4 mt m):=by apply bq3 b kk pm;kernel_rfl
end
section
variable(b kk pm:Bool)(w:World)(X:Lv)(n tk:Nat)
abbrev E1:SD:=⟨[0],[ac],[],⟨gX (Gr (qK (fh 18))) aE,[],[cz b w (fB X kk pm) 2],n+200,tk⟩,
 [],⟨.pure (.done (.ret (.ref (X.fd+200)))),[],[cz b w (fB X kk pm) 2],n+200,tk⟩,[]⟩
theorem AP:SK b w (E1 b kk pm w X n tk):=by apply bq3 b kk pm;kernel_rfl
end
abbrev E2 (b:Bool)(w:World)(n tk:Nat):SD:=⟨[0],[.a],[],⟨gX (Ig (qK (fh 18))) aE,[],[],n+200,tk⟩,
 [],⟨.pure (.done (.ret (.ref (n+200)))),[],[pL n #[] 0],n+201,tk⟩,[]⟩
theorem AR (b:Bool)(w:World)(n tk:Nat):SK b w (E2 b w n tk):=by apply bq1 b;kernel_rfl
section
variable(b kk pm:Bool)(w:World)(X:Lv)(n tk:Nat)(L:Lx)(lin:Int)(tl fe:Nat)(fs:aN)
abbrev E3:SD:=⟨[0],[au,b7,.b,.b,.b,.i,b7,.b,.b,.b,b7,b7,.b,bf,.o,ac,az,az,.h [1],ac,.o],[aB true,aB false,aB true],⟨cm (EE (fh 18)) aE,[],[cz b w (fB X kk pm) 2,pL X.few fs fe,bD L,jc (PB b w) L lin tl,jb L],n+200,tk⟩,
 [⟨bc "int.__eq__" [.int lin tl,.int ((4:Nat):Int) (tk+1)],aB true,[]⟩,⟨bc "list.__contains__" [.ref (X.20+200),.bool true],aB false,[((X.20+200),ab fs fe)]⟩,⟨bc "int.__eq__" [.int X.least X.31,.int ((99:Nat):Int) (tk+2)],aB true,[]⟩],⟨.pure (.done (.ret (.bool true))),[],[cz b w (fB X kk pm) 2],n+200,tk+3⟩,[]⟩
theorem AS:SK b w (E3 b kk pm w X n tk L lin tl fe fs):=by apply bq3 b kk pm;kernel_rfl
end
section
variable(b kk pm:Bool)(w:World)(X:Lv)(n tk:Nat)(fs os_ ts:aN)(fe oe te tp pr td:Nat)(d:Int)(L:Lx)(lin:Int)(tl:Nat)(tx:Str)(xf:Nat->Nat)(xd:Nat)(h1 h2:Str)(u1 u2:Nat)(l1 l2 l3:Int)
abbrev tJ:SC:=⟨[0,0,0,0,0,0,0,0,0,6,0,0],[ac,az,az,az,.h [1],au,au,au,.i,au,.a,jV,jV,.i,jV,jV,jV,au,jV,Li,jV,.i,jV,jV,jV,au,jV,Li,jV,.i,jV,jV,jV,au,jV,Li,.a,.a,cP,bf,bf,bf,.i,bf,.a,bb,bb,.i,bb,bb,bb,bf,bb,rv,bb,.i,bb,bb,bb,bf,bb,rv,bb,.i,bb,bb,bb,bf,bb,rv,.a,.a,vL,ac,bi,ac,bi,ac,bi,ac,.h [4],ac,bi,ac,b7,b7,b7,.h [4],ac,b6,b6,b6,.h [5],.o,.b,.b,ac,.h [4],.b,.b,ac,.h [5],.o,ac,.o,iy,bx,.b,.b,.b,.i,bx,.b,.b,.b,bx,bx,.b,hE,.o,ac,b7,b7,.i,b7,.a,LE,.a,.a],[aV (.ref (tp+200)),aG tx xf xd,aV (.str h1 u1),aV (.str h2 u2),aB false,aL l1,aL l2,aI l3,aB false,aB false],⟨cm (pf [19,20,21,22,23,24]) aE,[],[cz b w (fB X kk pm) 2,pL X.fd fs fe,Jt tp pr d td,cM pr X.one X.two,pL X.one os_ oe,pL X.two ts te,bD L,jc (PB b w) L lin tl,jb L],n+200,tk⟩,
 [⟨bc "list.__getitem__" [.ref (X.16+200),.int ((0:Nat):Int) tk],aV (.ref (tp+200)),[((X.16+200),ab fs fe)]⟩,⟨bc "str.join" [.str (Rf "") (tk+4),.ref (X.21+200)],aG tx xf xd,[((X.21+200),ab os_ oe)]⟩,⟨bc "list.__getitem__" [.ref (X.21+200),.int ((0:Nat):Int) (tk+5+xd+1)],aV (.str h1 u1),[((X.21+200),ab os_ oe)]⟩,⟨bc "list.__getitem__" [.ref (X.22+200),.int ((0:Nat):Int) (tk+5+xd+2)],aV (.str h2 u2),[((X.22+200),ab ts te)]⟩,⟨bc "str.__eq__" [.str h1 u1,.str h2 u2],aB false,[]⟩,⟨bc "len" [.ref (X.21+200)],aL l1,[((X.21+200),ab os_ oe)]⟩,⟨bc "len" [.ref (X.22+200)],aL l2,[((X.22+200),ab ts te)]⟩,⟨bc "int.__add__" [.int l1 (tk+5+xd+4),.int l2 (tk+5+xd+6)],aI l3,[]⟩,⟨bc "int.__ne__" [.int l3 (tk+5+xd+7),.int d td],aB false,[]⟩,⟨bc "int.__ne__" [.int lin tl,.int ((3:Nat):Int) (tk+5+xd+9)],aB false,[]⟩],ls lq [cX 0] (n+6) (n+7) (n+8),[cz b w {X with kk:=kk,pm:=pm,dots:=d,tdo:=td,text:=tx,tte:=xf (tk+5),q:=qU (qU (qU X.q 23 (tk+1)) 24 (tk+2)) 25 (tk+5+xd)} 5,pL X.fd fs fe,Jt tp pr d td,cM pr X.one X.two,pL X.one os_ oe,pL X.two ts te,bD L,jc (PB b w) L lin tl,jb L,pI (n+6) (X.one+200) 0,pL (n+7) #[] 0,(n+8+200,cy [] 0)],n+209,tk+5+xd+11,[]⟩
def oR:Option bo:=dR b w (tJ b kk pm w X n tk fs os_ ts fe oe te tp pr td d L lin tl tx xf xd h1 h2 u1 u2 l1 l2 l3)
theorem E4:SQ (tJ b kk pm w X n tk fs os_ ts fe oe te tp pr td d L lin tl tx xf xd h1 h2 u1 u2 l1 l2 l3) (oR b kk pm w X n tk fs os_ ts fe oe te tp pr td d L lin tl tx xf xd h1 h2 u1 u2 l1 l2 l3):=by apply bq3 b kk pm;kernel_rfl
theorem xc:aY (oR b kk pm w X n tk fs os_ ts fe oe te tp pr td d L lin tl tx xf xd h1 h2 u1 u2 l1 l2 l3):=af (by apply bq3 b kk pm;kernel_rfl)
end
section
variable(b vv:Bool)(w:World)(it acc D S n tk i e dk tw ty ae de:Nat)(xs av:aN)(es:Array DictEntry)(dv:Value)(wo y:Str)
abbrev vk:SD:=⟨[0,0,0,0,0,0],[ac,.x (bW (it+200) (i:Int) (.str wo tw)) [0,0],ac,bi,au,fV,bf,au,b7,b7,b7,.h [4],.x (b5 (acc+200) (.str y ty)) [5],xP],[eI (.str y ty)],⟨aA (cY lq [cX 0] it acc D),[],[pI it (S+200) (i:Int),pL S xs e,c5 b w D vv dk dv,dn,pD 5 es de,pL acc av ae],n+200,tk⟩,
 [⟨bc "dict.__getitem__" [.ref 205,.str wo tw],eI (.str y ty),[(205,j1 es de)]⟩],⟨.pure (.again (cY lq [cX 0] it acc D)),[],[pI it (S+200) ((i:Int)+1),pL S xs e,c5 b w D true (if vv then dk else tk) (.str wo tw),dn,pD 5 es de,pL acc (av.push (.str y ty)) (bU av (.str y ty) ae)],n+200,tk+2⟩,[⟨bc "list_iterator.__next__" [.ref (it+200)],bW (it+200) (i:Int) (.str wo tw),[((it+200),ba (S+200) ((i:Nat):Int)),((S+200),ab xs e)]⟩,⟨bc "list.append" [.ref (acc+200),.str y ty],b5 (acc+200) (.str y ty),[((acc+200),ab av ae)]⟩]⟩
theorem AU:SK b w (vk b vv w it acc D S n tk i e dk tw ty ae de xs av es dv wo y):=by apply bq2 b vv;kernel_rfl
end
abbrev vm (b:Bool)(w:World)(it acc D n tk i S e:Nat)(xs:aN):SD:=⟨[1],[ac,.x (dr (it+200)) [0,0],ac,bi,.a,.a,bf],[],⟨aA (cY lq [cX 0] it acc D),[],[pI it (S+200) (i:Int),pL S xs e],n+200,tk⟩,
 [],⟨.pure (.done .next),[],[pL S xs e],n+202,tk⟩,[⟨bc "list_iterator.__next__" [.ref (it+200)],dr (it+200),[((it+200),ba (S+200) ((i:Nat):Int)),((S+200),ab xs e)]⟩]⟩
theorem AV (b:Bool)(w:World)(it acc D n tk i S e:Nat)(xs:aN):SK b w (vm b w it acc D n tk i S e xs):=by apply bq1 b;kernel_rfl
section
variable(b vv:Bool)(w:World)(it acc D S n tk i e dk tw ty ae de:Nat)(xs av:aN)(es:Array DictEntry)(dv:Value)(wo y:Str)
abbrev vn:SD:=⟨[0,0,0,0,0,0],[ac,.x (bW (it+200) (i:Int) (.str wo tw)) [0,0],ac,bi,au,fV,bf,au,b7,b7,b7,.h [4],.x (b5 (acc+200) (.str y ty)) [5],xP],[eI (.str y ty)],⟨aA (cY lr [cX 0] it acc D),[],[pI it (S+200) (i:Int),pL S xs e,c5 b w D vv dk dv,dn,pD 5 es de,pL acc av ae],n+200,tk⟩,
 [⟨bc "dict.__getitem__" [.ref 205,.str wo tw],eI (.str y ty),[(205,j1 es de)]⟩],⟨.pure (.again (cY lr [cX 0] it acc D)),[],[pI it (S+200) ((i:Int)+1),pL S xs e,c5 b w D true (if vv then dk else tk) (.str wo tw),dn,pD 5 es de,pL acc (av.push (.str y ty)) (bU av (.str y ty) ae)],n+200,tk+2⟩,[⟨bc "list_iterator.__next__" [.ref (it+200)],bW (it+200) (i:Int) (.str wo tw),[((it+200),ba (S+200) ((i:Nat):Int)),((S+200),ab xs e)]⟩,⟨bc "list.append" [.ref (acc+200),.str y ty],b5 (acc+200) (.str y ty),[((acc+200),ab av ae)]⟩]⟩
theorem AW:SK b w (vn b vv w it acc D S n tk i e dk tw ty ae de xs av es dv wo y):=by apply bq2 b vv;kernel_rfl
end
abbrev vp (b:Bool)(w:World)(it acc D n tk i S e:Nat)(xs:aN):SD:=⟨[1],[ac,.x (dr (it+200)) [0,0],ac,bi,.a,.a,bf],[],⟨aA (cY lr [cX 0] it acc D),[],[pI it (S+200) (i:Int),pL S xs e],n+200,tk⟩,
 [],⟨.pure (.done .next),[],[pL S xs e],n+202,tk⟩,[⟨bc "list_iterator.__next__" [.ref (it+200)],dr (it+200),[((it+200),ba (S+200) ((i:Nat):Int)),((S+200),ab xs e)]⟩]⟩
theorem AX (b:Bool)(w:World)(it acc D n tk i S e:Nat)(xs:aN):SK b w (vp b w it acc D n tk i S e xs):=by apply bq1 b;kernel_rfl
section
variable(b kk pm:Bool)(w:World)(X:Lv)(n tk:Nat)(fs os_ ts:aN)(fe oe te tp pr td:Nat)(d:Int)(L:Lx)(lin:Int)(tl:Nat)(tx:Str)(xf:Nat->Nat)(xd:Nat)(h1 h2:Str)(u1 u2:Nat)(l1 l2 l3:Int)(Y:Lv)(n2 tk2 dk ae:Nat)(dv:Value)(av:aN)(y1:Str)(g1:Nat->Nat)(e1:Nat)
abbrev oS:SC:=⟨[0,2,0,0,0],[az,az,jI,.h [2],ac,bi,ac,bf,bf,.i,bf,.a,b7,.a,.a],[aG y1 g1 e1],gC (oR b kk pm w X n tk fs os_ ts fe oe te tp pr td d L lin tl tx xf xd h1 h2 u1 u2 l1 l2 l3) (.ok .next) [cz b w (fB Y kk pm) 5,c5 b w (n+8) true dk dv,pL (n+7) av ae,pL Y.two ts te] (n2+200) tk2,
 [⟨bc "str.join" [.str (Rf "") (tk+5+xd+10),.ref (n+207)],aG y1 g1 e1,[((n+207),ab av ae)]⟩],ls lr [cX 0] n2 (n2+1) (n2+2),[cz b w {Y with kk:=kk,pm:=pm,first:=y1,tfi:=g1 tk2,q:=qU Y.q 26 (tk2+e1)} 6,pL Y.two ts te,pI n2 (Y.two+200) 0,pL (n2+1) #[] 0,(n2+2+200,cy [] 0)],n2+203,tk2+e1+2,[]⟩
def lz:Option bo:=dR b w (oS b kk pm w X n tk fs os_ ts fe oe te tp pr td d L lin tl tx xf xd h1 h2 u1 u2 l1 l2 l3 Y n2 tk2 dk ae dv av y1 g1 e1)
theorem AY:SQ (oS b kk pm w X n tk fs os_ ts fe oe te tp pr td d L lin tl tx xf xd h1 h2 u1 u2 l1 l2 l3 Y n2 tk2 dk ae dv av y1 g1 e1) (lz b kk pm w X n tk fs os_ ts fe oe te tp pr td d L lin tl tx xf xd h1 h2 u1 u2 l1 l2 l3 Y n2 tk2 dk ae dv av y1 g1 e1):=by apply bq3 b kk pm;kernel_rfl
theorem tK:aY (lz b kk pm w X n tk fs os_ ts fe oe te tp pr td d L lin tl tx xf xd h1 h2 u1 u2 l1 l2 l3 Y n2 tk2 dk ae dv av y1 g1 e1):=af (by apply bq3 b kk pm;kernel_rfl)
end
section
variable(b kk pm:Bool)(w:World)(X:Lv)(n tk:Nat)(fs os_ ts:aN)(fe oe te tp pr td:Nat)(d:Int)(L:Lx)(lin:Int)(tl:Nat)(tx:Str)(xf:Nat->Nat)(xd:Nat)(h1 h2:Str)(u1 u2:Nat)(l1 l2 l3:Int)(Y:Lv)(n2 tk2 dk ae:Nat)(dv:Value)(av:aN)(y1:Str)(g1:Nat->Nat)(e1:Nat)(Z:Lv)(n3 tk3 dj aj:Nat)(dw:Value)(aw:aN)(y2:Str)(g2:Nat->Nat)(e2:Nat)
abbrev j9:SC:=⟨[0],[az,az,jI,.h [2],ac,bi,ac,ac,.o,.b,ac,.b],[aG y2 g2 e2,aB false],gC (lz b kk pm w X n tk fs os_ ts fe oe te tp pr td d L lin tl tx xf xd h1 h2 u1 u2 l1 l2 l3 Y n2 tk2 dk ae dv av y1 g1 e1) (.ok .next) [cz b w (fB Z kk pm) 6,c5 b w (n2+2) true dj dw,pL (n2+1) aw aj] (n3+200) tk3,
 [⟨bc "str.join" [.str (Rf "") (tk2+e1+1),.ref (n2+201)],aG y2 g2 e2,[((n2+201),ab aw aj)]⟩,⟨bc "str.__eq__" [(.str Z.first Z.33),.str y2 ((g2 (tk3)))],aB false,[]⟩],(jr Z.first Z.tfi),[cz b w {Z with kk:=kk,pm:=pm,second:=y2,tsc:=g2 (tk3+0),q:=qU Z.q 27 (tk3+e2)} 7],n3+200,tk3+e2+1,[]⟩
def lG:Option bo:=dR b w (j9 b kk pm w X n tk fs os_ ts fe oe te tp pr td d L lin tl tx xf xd h1 h2 u1 u2 l1 l2 l3 Y n2 tk2 dk ae dv av y1 g1 e1 Z n3 tk3 dj aj dw aw y2 g2 e2)
theorem AZ:SQ (j9 b kk pm w X n tk fs os_ ts fe oe te tp pr td d L lin tl tx xf xd h1 h2 u1 u2 l1 l2 l3 Y n2 tk2 dk ae dv av y1 g1 e1 Z n3 tk3 dj aj dw aw y2 g2 e2) (lG b kk pm w X n tk fs os_ ts fe oe te tp pr td d L lin tl tx xf xd h1 h2 u1 u2 l1 l2 l3 Y n2 tk2 dk ae dv av y1 g1 e1 Z n3 tk3 dj aj dw aw y2 g2 e2):=by apply bq3 b kk pm;kernel_rfl
theorem tM:aY (lG b kk pm w X n tk fs os_ ts fe oe te tp pr td d L lin tl tx xf xd h1 h2 u1 u2 l1 l2 l3 Y n2 tk2 dk ae dv av y1 g1 e1 Z n3 tk3 dj aj dw aw y2 g2 e2):=af (by apply bq3 b kk pm;kernel_rfl)
end
section
variable(b kk pm:Bool)(w:World)(X:Lv)(n tk:Nat)(fs os_ ts:aN)(fe oe te tp pr td:Nat)(d:Int)(L:Lx)(lin:Int)(tl:Nat)(tx:Str)(xf:Nat->Nat)(xd:Nat)(h1 h2:Str)(u1 u2:Nat)(l1 l2 l3:Int)(Y:Lv)(n2 tk2 dk ae:Nat)(dv:Value)(av:aN)(y1:Str)(g1:Nat->Nat)(e1:Nat)(Z:Lv)(n3 tk3 dj aj:Nat)(dw:Value)(aw:aN)(y2:Str)(g2:Nat->Nat)(e2:Nat)(U:Lv)(n4 tk4 u4:Nat)(y4:Str)
abbrev oT:SC:=⟨[0],[ac,.o,.b,ac,.b],[aB false],gC (lG b kk pm w X n tk fs os_ ts fe oe te tp pr td d L lin tl tx xf xd h1 h2 u1 u2 l1 l2 l3 Y n2 tk2 dk ae dv av y1 g1 e1 Z n3 tk3 dj aj dw aw y2 g2 e2) (.ok (.ret (.str y4 u4))) [cz b w (fB U kk pm) 7] (n4+200) tk4,
 [⟨bc "str.__ne__" [.str y4 u4,.str U.text U.32],aB false,[]⟩],jr U.second U.tsc,[cz b w (fB U kk pm) 7],n4+200,tk4,[]⟩
def lH:Option bo:=dR b w (oT b kk pm w X n tk fs os_ ts fe oe te tp pr td d L lin tl tx xf xd h1 h2 u1 u2 l1 l2 l3 Y n2 tk2 dk ae dv av y1 g1 e1 Z n3 tk3 dj aj dw aw y2 g2 e2 U n4 tk4 u4 y4)
theorem A0:SQ (oT b kk pm w X n tk fs os_ ts fe oe te tp pr td d L lin tl tx xf xd h1 h2 u1 u2 l1 l2 l3 Y n2 tk2 dk ae dv av y1 g1 e1 Z n3 tk3 dj aj dw aw y2 g2 e2 U n4 tk4 u4 y4) (lH b kk pm w X n tk fs os_ ts fe oe te tp pr td d L lin tl tx xf xd h1 h2 u1 u2 l1 l2 l3 Y n2 tk2 dk ae dv av y1 g1 e1 Z n3 tk3 dj aj dw aw y2 g2 e2 U n4 tk4 u4 y4):=by apply bq3 b kk pm;kernel_rfl
theorem tN:aY (lH b kk pm w X n tk fs os_ ts fe oe te tp pr td d L lin tl tx xf xd h1 h2 u1 u2 l1 l2 l3 Y n2 tk2 dk ae dv av y1 g1 e1 Z n3 tk3 dj aj dw aw y2 g2 e2 U n4 tk4 u4 y4):=af (by apply bq3 b kk pm;kernel_rfl)
end
section
variable(b kk pm:Bool)(w:World)(X:Lv)(n tk:Nat)(fs os_ ts:aN)(fe oe te tp pr td:Nat)(d:Int)(L:Lx)(lin:Int)(tl:Nat)(tx:Str)(xf:Nat->Nat)(xd:Nat)(h1 h2:Str)(u1 u2:Nat)(l1 l2 l3:Int)(Y:Lv)(n2 tk2 dk ae:Nat)(dv:Value)(av:aN)(y1:Str)(g1:Nat->Nat)(e1:Nat)(Z:Lv)(n3 tk3 dj aj:Nat)(dw:Value)(aw:aN)(y2:Str)(g2:Nat->Nat)(e2:Nat)(U:Lv)(n4 tk4 u4:Nat)(y4:Str)(n5 tk5 u5:Nat)(y5:Str)
abbrev vq:SD:=⟨[0],[ac,.o],[aB false],gC (lH b kk pm w X n tk fs os_ ts fe oe te tp pr td d L lin tl tx xf xd h1 h2 u1 u2 l1 l2 l3 Y n2 tk2 dk ae dv av y1 g1 e1 Z n3 tk3 dj aj dw aw y2 g2 e2 U n4 tk4 u4 y4) (.ok (.ret (.str y5 u5))) [cz b w (fB U kk pm) 7] (n5+200) tk5,
 [⟨bc "str.__ne__" [.str y5 u5,.str U.text U.32],aB false,[]⟩],⟨.pure (.done .next),[],[cz b w (fB U kk pm) 7],n5+200,tk5⟩,[]⟩
theorem A1:SK b w (vq b kk pm w X n tk fs os_ ts fe oe te tp pr td d L lin tl tx xf xd h1 h2 u1 u2 l1 l2 l3 Y n2 tk2 dk ae dv av y1 g1 e1 Z n3 tk3 dj aj dw aw y2 g2 e2 U n4 tk4 u4 y4 n5 tk5 u5 y5):=by apply bq3 b kk pm;kernel_rfl
end
section
variable(b kk pm:Bool)(w:World)(X:Lv)(n tk:Nat)(c:Int)(fs:aN)(fe:Nat)
abbrev E5:SD:=⟨[0,0],[.b,.b,ac,.o,.o,ac,.b,.b,ac,.o,az,az,az,.h [1]],[aL c,aB true,aL c,aV (.bool true)],⟨a0 (fh 25) aE,[],[cz b w (fB X kk pm) 7,pL X.few fs fe],n+200,tk⟩,
 [⟨bc "len" [.str X.text X.32],aL c,[]⟩,⟨bc "int.__le__" [.int c (tk+1),.int ((6:Nat):Int) (tk+2)],aB true,[]⟩,⟨bc "len" [.str X.text X.32],aL c,[]⟩,⟨bc "list.__getitem__" [.ref (X.20+200),.int c (tk+4)],aV (.bool true),[((X.20+200),ab fs fe)]⟩],⟨.pure (.done .next),[],[cz b w (fB X kk pm) 7,pL X.few fs fe],n+200,tk+5⟩,[]⟩
theorem A2:SK b w (E5 b kk pm w X n tk c fs fe):=by apply bq3 b kk pm;kernel_rfl
end
section
variable(b kk pm:Bool)(w:World)(X:Lv)(n tk:Nat)(c:Int)
abbrev E6:SD:=⟨[0],[.b,.b,ac,.o,.o],[aL c,aB false],⟨a0 (fh 25) aE,[],[cz b w (fB X kk pm) 7],n+200,tk⟩,
 [⟨bc "len" [.str X.text X.32],aL c,[]⟩,⟨bc "int.__le__" [.int c (tk+1),.int ((6:Nat):Int) (tk+2)],aB false,[]⟩],⟨.pure (.done .next),[],[cz b w (fB X kk pm) 7],n+200,tk+3⟩,[]⟩
theorem A3:SK b w (E6 b kk pm w X n tk c):=by apply bq3 b kk pm;kernel_rfl
end
section
variable(b kk pm:Bool)(w:World)(X:Lv)(n tk:Nat)
abbrev E7:SD:=⟨[0],[ac,.o,ac,ac,.o],[aB true,aB true],⟨a0 (fh 26) aE,[],[cz b w (fB X kk pm) 7],n+200,tk⟩,
 [⟨bc "int.__le__" [.int X.dots X.29,.int ((4:Nat):Int) tk],aB true,[]⟩,⟨bc "int.__eq__" [.int X.least X.31,.int X.dots X.29],aB true,[]⟩],⟨.pure (.done (.ret (.bool true))),[],[cz b w (fB X kk pm) 7],n+200,tk+1⟩,[]⟩
theorem A4:SK b w (E7 b kk pm w X n tk):=by apply bq3 b kk pm;kernel_rfl
abbrev E8:SD:=⟨[0],[ac,.o,ac,ac,.o],[aB false,aB true],⟨a0 (fh 26) aE,[],[cz b w (fB X kk pm) 7],n+200,tk⟩,
 [⟨bc "int.__le__" [.int X.dots X.29,.int ((4:Nat):Int) tk],aB false,[]⟩,⟨bc "int.__ge__" [.int X.least X.31,.int X.dots X.29],aB true,[]⟩],⟨.pure (.done (.ret (.bool true))),[],[cz b w (fB X kk pm) 7],n+200,tk+1⟩,[]⟩
theorem A5:SK b w (E8 b kk pm w X n tk):=by apply bq3 b kk pm;kernel_rfl
end
end Mine

namespace Mine
open PySem PySem.Builtin PySem.Builtin.Str
def Kw (i:Int):Option Value:=((jh 351 646 j2).find? λe=>Value.isInt i e.key).map (·.val)
theorem A6 (i:Int):JO i=Kw i:=by
 unfold JO findBy Ch Kw
 rw[List.find?_toArray]
def A7 (c y:Nat):Bool:=!F9 (c:Int)&&((Kw (c:Int)).isNone&&(placed ⟨#[c]⟩ (λi _=>Unicode.lowerAt #[c] i)==#[y]))
def A8 (c:Nat)(y:List Nat):Bool:=!F9 (c:Int)&&(match Kw (c:Int)with|some (.str s _)=>s.cps.toList==y|_=>false)
theorem vr:([(102,102),(105,105),(46,46),(70,102),(73,105)]:List (Nat×Nat)).all (λc=>A7 c.1 c.2)=true:=by kernel_rfl
theorem E9:([(64259,[102,102,105]),(64256,[102,102]),(64257,[102,105]),(119813,[102]),(8464,[105])]:List (Nat×List Nat)).all (λp=>A8 p.1 p.2)=true:=by kernel_rfl
theorem Gv:([173,8203,8288,65024,8204]:List Nat).all (λc=>F9 (c:Int))=true:=by kernel_rfl
theorem gj {c y:Nat}(h:A7 c y=true):jN c [y]:=by
 unfold A7 at h
 rw[Pd,Pd]at h
 obtain⟨h1,h2,h3⟩:=h
 exact .low (by simpa using h1) (by rw[A6];simpa using h2) (eq_of_beq h3) (by simp)
theorem gk {c:Nat}{y:List Nat}(h:A8 c y=true)(hy:y≠[]):jN c y:=by
 unfold A8 at h
 rw[Pd]at h
 obtain⟨h1,h2⟩:=h
 cases e:Kw (c:Int)with
 | none=>rw[e]at h2;exact nomatch h2
 | some v =>
  rw[e]at h2
  cases v with
  | str s t =>
   have h3:s.cps.toList=y:=eq_of_beq h2
   exact .exc t (by simpa using h1) (by rw[A6,e,<-h3]) hy
  | _=>exact nomatch h2
theorem gM {c:Nat}{y r ys:List Nat}(hc:0<c)(h:jN c y)(hr:dI r ys):dI (c::r) (y++ys):=by
 have oo:∃k,c=k+1:=⟨c-1,by lia⟩
 obtain⟨c,rfl⟩:=oo
 exact .cons h hr
theorem qO {a y:List Nat}(h:dI a y){c z:List Nat}(h2:dI c z):dI (a++c) (y++z):=by
 induction h with
 | nil=>exact h2
 | cons h1 _ ih=>rw[Oi,NP];exact .cons h1 ih
noncomputable abbrev cl:List Nat:=[64259,64256,64257,70,73,119813,8464,102,105,173,8203,8288,65024]
theorem A9:∀c∈cl,0<c/\c≠10/\c≠13/\c≠92/\c≠46/\c∉iC.cps.toList:=by decide
theorem Fa:∀g∈f9,∃c,g.2=[c]/\c∈cl/\c∉([173,8203,8288,65024]:List Nat)/\jN c g.1:=by
 have e:=λp hp=>Pe.mp E9 p hp
 have l:=λp hp=>Pe.mp vr p hp
 intro g hg
 simp only[f9,N0,OX,or_false]at hg
 rcases hg with rfl|rfl|rfl|rfl|rfl|rfl|rfl|rfl|rfl
 ·exact⟨_,rfl,by decide,by decide,gk (e (64259,[102,102,105]) (by decide)) (by decide)⟩
 ·exact⟨_,rfl,by decide,by decide,gk (e (64256,[102,102]) (by decide)) (by decide)⟩
 ·exact⟨_,rfl,by decide,by decide,gk (e (64257,[102,105]) (by decide)) (by decide)⟩
 ·exact⟨_,rfl,by decide,by decide,gj (l (70,102) (by decide))⟩
 ·exact⟨_,rfl,by decide,by decide,gj (l (73,105) (by decide))⟩
 ·exact⟨_,rfl,by decide,by decide,gk (e (119813,[102]) (by decide)) (by decide)⟩
 ·exact⟨_,rfl,by decide,by decide,gk (e (8464,[105]) (by decide)) (by decide)⟩
 ·exact⟨_,rfl,by decide,by decide,gj (l (102,102) (by decide))⟩
 ·exact⟨_,rfl,by decide,by decide,gj (l (105,105) (by decide))⟩
theorem ka:∀{gs:List (List Nat×List Nat)},(∀g∈gs,g∈f9)->dI (gs.map (·.2)).flatten (gs.map (·.1)).flatten/\∀c∈(gs.map (·.2)).flatten,c∈cl/\c∉([173,8203,8288,65024]:List Nat)
 | [],_=>⟨.nil,λ_ h=>nomatch h⟩
 | g::r,h=>by
  obtain⟨c,e,h1,h2,h3⟩:=Fa g (h g (.head _))
  obtain⟨q1,q2⟩:=ka λx hx=>h x (.tail _ hx)
  simp only[Oa,Ox,e]
  refine⟨gM (A9 c h1).1 h3 q1,λx hx=>?_⟩
  rcases N0.mp hx with rfl|hx
  ·exact⟨h1,h2⟩
  ·exact q2 x hx
theorem dJ.prep {x y:List Nat}(h:dJ x y):dI y x:=by
 obtain⟨gs,sep,h1,rfl,h3,rfl⟩:=h
 have:=qO (ka h1).1 (gM (c:=sep) (by simp at h3;lia) (.no (Pe.mp Gv sep (by simp at h3 ⊢;lia))) .nil)
 simpa using this
theorem dJ.clean {x y:List Nat}(h:dJ x y):∀c∈y,c∈cl:=by
 obtain⟨gs,sep,h1,rfl,h3,rfl⟩:=h
 intro c hc
 rcases NK.mp hc with q|q
 ·exact((ka h1).2 c q).1
 ·rw[NN.mp q];exact(by decide:∀s∈[173,8203,8288,65024],s∈cl) sep h3
noncomputable def gT (r:Nat×List Nat)(en:List Nat):List Nat:=r.1::46::(r.2++en)
structure gl (x:List Nat)(r:Nat×List Nat):Prop where
 sg:r.1=92\/r.1=8204
 sp:dJ x r.2
 ln:r.2.length<=5
noncomputable def i8 (r:Nat×List Nat):List Nat:=if r.1=92 then 46::r.2 else 8204::46::r.2
theorem lI:∀{l rest:List Nat},(∀c∈l,c≠10/\c≠13)->df false (l++rest)=l++df false rest
 | [],_,_=>rfl
 | c::r,rest,h=>by
  have h1:=h c (.head _)
  rw[Oi,df,if_neg h1.1,if_neg h1.2,lI λx hx=>h x (.tail _ hx),Oi]
theorem lJ:∀{l rest:List Nat},(∀c∈l,c≠10)->b8 false (l++rest)=l++b8 false rest
 | [],_,_=>rfl
 | c::r,rest,h=>by
  have h1:(c==10)=false:=by simpa using h c (.head _)
  rw[Oi,b8,if_neg (by simp),h1,lJ λx hx=>h x (.tail _ hx),Oi]
theorem gl.cl {x:List Nat}{r:Nat×List Nat}(h:gl x r):(∀c∈r.1::46::r.2,c≠10/\c≠13)/\r.1≠46:=by
 have h1:=h.sg
 refine⟨λc hc=>?_,by lia⟩
 rcases N0.mp hc with rfl|hc
 ·lia
 ·rcases N0.mp hc with rfl|hc
  ·decide
  ·have:=A9 c (h.sp.clean c hc);exact⟨this.2.1,this.2.2.1⟩
inductive Rows:List (List Nat)->List (Nat×List Nat)->Prop
 | nil:Rows [] []
 | cons {x:List Nat} {r:Nat×List Nat} {ws:List (List Nat)} {rs:List (Nat×List Nat)}:gl x r->Rows ws rs->Rows (x::ws) (r::rs)
theorem Rows.snoc {x:List Nat}{r:Nat×List Nat}{ws:List (List Nat)}{rs:List (Nat×List Nat)}(h:Rows ws rs)(h1:gl x r):Rows (ws++[x]) (rs++[r]):=by
 induction h with
 | nil=>exact .cons h1 .nil
 | cons a _ ih=>exact .cons a ih
theorem tP {ws:List (List Nat)}{rs:List (Nat×List Nat)}(H:Rows ws rs):b8 true (dm (rs.flatMap (gT · [10])))=rs.flatMap (gT · [13,10]):=by
 induction H with
 | nil=>rfl
 | @cons _ r _ rs h t ih =>
  obtain⟨h1,h2⟩:=h.cl
  rw[O0,O0,<-ih]
  have e1:gT r [10]=(r.1::46::r.2)++[10]:=rfl
  have e2:gT r [13,10]=(r.1::46::r.2)++[13,10]:=rfl
  rw[e1,e2,dm,NP,lI h1]
  show b8 true ((r.1::46::r.2)++(13::10::df false _))=_
  rw[Oi,b8,if_neg (by simp[h2]),show(r.1==10)=false by simpa using (h1 r.1 (.head _)).1,lJ (l:=46::r.2) λc hc=>(h1 c (.tail _ hc)).1]
  have e3:∀Z,b8 false (13::10::Z)=13::10::b8 true Z:=λZ=>by simp[b8]
  rw[e3]
  simp
theorem jF:∀{l acc rest:List Nat},(∀c∈l,0<c/\c≠92/\c∉iC.cps.toList)->uj acc (l++13::rest) (acc++l) rest 0
 | [],acc,rest,_=>by
  rw[Oc]
  exact uj.white (c:=12) (by decide)
 | c::r,acc,rest,h=>by
  obtain⟨h1,h2,h3⟩:=h c (.head _)
  have oo:∃k,c=k+1:=⟨c-1,by lia⟩
  obtain⟨c,rfl⟩:=oo
  have:=jF (acc:=acc++[c+1]) (rest:=rest) λx hx=>h x (.tail _ hx)
  rw[NP]at this
  exact .plain h3 h2 this
theorem gl.word {x:List Nat}{r:Nat×List Nat}(h:gl x r)(rest:List Nat):W0 (gT r [13,10]++rest) (i8 r) (10::rest) 0:=by
 have hy:∀c∈r.2,0<c/\c≠92/\c∉iC.cps.toList:=λc hc=>by
  have:=A9 c (h.sp.clean c hc)
  exact⟨this.1,this.2.2.2.1,this.2.2.2.2.2⟩
 have e:gT r [13,10]++rest=r.1::46::(r.2++13::10::rest):=by simp[gT]
 rw[e,i8]
 rcases h.sg with q|q
 ·rw[q,if_pos rfl]
  exact .esc (d:=45) (by decide) (jF hy)
 ·rw[q,if_neg (by decide)]
  refine .plain (c:=8203) (by decide) (by decide) (by decide) ?_
  exact jF (l:=46::r.2) (acc:=[8204]) λc hc=>by
   rcases N0.mp hc with rfl|hc
   ·decide
   ·exact hy c hc
theorem gl.told {x:List Nat}{r:Nat×List Nat}(h:gl x r):dI (i8 r) (46::x):=by
 have h1:dI (46::r.2) (46::x):=gM (by decide) (gj (Pe.mp vr (46,46) (by decide))) h.sp.prep
 rw[i8]
 split
 ·exact h1
 ·exact gM (y:=[]) (by decide) (.no (Pe.mp Gv 8204 (by decide))) h1
end Mine

namespace Mine
open PySem PyProof.Rows
theorem xe {vs:List Value}{ns:List Int}(hI:IntsAre vs ns){i:Nat}(hi:i<vs.length):∃x t,vs.toArray[i]?=some (.int x t):=by
 obtain⟨n,t,e,_⟩:=IntsAre.at hI i vs[i] (NZ hi)
 exact⟨n,t,by rw[PE,NZ hi,e]⟩
theorem Ba (ps:List (Nat×Nat))(i a t:Nat):(aO ps).setIfInBounds i (.int (a:Int) t)=aO (ps.set i (a,t)):=by simp[aO]
section
variable{b:Bool}{w:World}{B:Bx (KL (PB b w))}{A:Around}{s:Shared}
abbrev mV (P:Params)(X:Lv)(l:List (Nat×Nat))(e:Nat)(vs:aN):aK:=[(190,LV P X 0),(194,ab (aO l) e),(189,ab vs 0)]
theorem vw {lv:Nat}(hA:ad lv A){vs:List Value}{ns:List Int}(hI:IntsAre vs ns){R:Result->aP}{Rm:aK}:∀(left i:Nat) (X:Lv) (tk e:Nat) (l:List (Nat×Nat)) (s:Shared),l.length=3->i+left<=vs.length->i+left<=1000 ->
  aa B.f s ((mV (PB b w) X l e vs.toArray++[(201,bL (i:Int) (left:Int) 1)])++Rm) 202 tk ->
  (∀(s':Shared) (X':Lv) (tk' e':Nat) (l':List (Nat×Nat)),l'.length=3->aa B.f s' (mV (PB b w) X' l' e' vs.toArray++Rm) 204 tk'->bZ s s'->R (.ok .next) s') ->
  codeAny (Mo PW (WB b w)) A (ip 201) R s:=by
 intro left
 induction left with
 | zero =>
  intro i X tk e l s h4 _ _ I h
  refine dz ?_
  have J:aa B.f s ([(201,bL (i:Int) (0:Int) 1)]++(mV (PB b w) X l e vs.toArray++Rm)) 202 tk:=I.bra [3]
  refine rF hA (Aj b w tk (i:Int) 0) nP (fc ⟨dB (by lia),bu⟩) J λs1 I1 k1=>?_
  dsimp only[ve]at I1
  exact ap (h s1 X tk e l h4 I1 k1)
 | succ left ih =>
  intro i X tk e l s h4 hi hb I h
  obtain⟨x,tx,hx⟩:=xe hI (i:=i) (by lia)
  have hr:i%3<l.length:=by rw[h4];exact Qj _ (by decide)
  with_reducible refine gx (l:=l) (i:=i%3) hr λp hp=>?_
  refine aF bI ?_
  have hx0:0<=x%1000000:=Int.emod_nonneg _ (by decide)
  have hy:x%1000000=(((x%1000000).toNat:Nat):Int):=(Int.toNat_of_nonneg hx0).symm
  refine rF hA (Ai b X.kk w X tk e vs.toArray (aO l) (i:Int) ((left+1:Nat):Int) (i%3) (p.1:Int) x (((x%1000000).toNat:Nat):Int) ((p.1+(x%1000000).toNat:Nat):Int) p.2 tx) ?_ ?_ I λs1 I1 k1=>?_
  all_goals try dsimp only[vd]at I1
  ·exact fc ⟨cc (by decide) rfl,fc ⟨aq (j8 hp) (by lia),fc ⟨aq hx (by lia),fc ⟨cc (by decide) hy,fc ⟨cb (by lia),bu⟩⟩⟩⟩⟩
  ·exact fc ⟨dd (by lia),fc ⟨qi (by rw[eV];exact hr) (by lia),bu⟩⟩
  ·rw[He,Ba,show(i:Int)+1=((i+1:Nat):Int) by lia,show(((left+1:Nat):Int)-1)=(left:Int) by lia]at I1
   exact λ_ _ _=>⟨by rfl,ih (i+1) {X with kk:=true,q:=qU X.q 2 (if X.kk then X.q 2 else tk+1),kt:=tk,kv:=(i:Int)} (tk+9) e (l.set (i%3) (p.1+(x%1000000).toNat,tk+8)) s1 (by rw[List.length_set];exact h4) (by lia) (by lia) I1 λs' X2 tk2 e2 l2 h42 I2 k2=>h s' X2 tk2 e2 l2 h42 I2 (k1.trans k2)⟩
theorem Bb {lv:Nat}(hA:ad lv A)(hlv:lv<=9){vs:List Value}{ns:List Int}(hI:IntsAre vs ns)(h63:vs.length<=63){tk k0:Nat}{Rm:aK}
  (I:aa B.f s ([(190,bO [eT (PB b w) "script" k0 (.ref 189)] 1),(189,ab vs.toArray 0),(191,aM)]++Rm) 194 tk)
  {Q:Fin->aP} {E:Value->aP}
  (h:∀(s':Shared) (X:Lv) (l:List (Nat×Nat)) (e tk':Nat),l.length=3->X.wd=4->X.sheet.cps.toList=[]->aa B.f s' ([bE b w X 2,dn,pL 4 #[] 0,pD 5 #[] 0,(194,ab (aO l) e),(189,ab vs.toArray 0)]++Rm) (6+200) tk'->bZ s s'->Q (.done .next) s') :
  an PW (WB b w) A Q E [] (cm (pf [0,1,2,3,4]) aE) s:=by
 have hlen:vs.toArray.size=vs.length:=by simp
 have J0:aa B.f s ([(190,bO [eT (PB b w) "script" k0 (.ref 189)] 1),(189,ab vs.toArray 0)]++((191,aM)::Rm)) 194 tk:=I
 with_reducible refine nm ({LU with q:=λj=>if j=0 then k0 else tk+3}:Lv) λX hX=>?_
 have cont:∀(s4:Shared) (X:Lv) (tk4 e:Nat) (l:List (Nat×Nat)),aa B.f s4 (mV (PB b w) X l e vs.toArray++((191,aM)::Rm)) 204 tk4->aa B.f s4 ([bE b w (fK X X.kk) 0,(191,aM)]++([(194,ab (aO l) e),(189,ab vs.toArray 0)]++Rm)) 204 tk4:=
  λs4 X tk4 e l I4=>(show aa B.f s4 ([bE b w X 0,(194,ab (aO l) e),(189,ab vs.toArray 0),(191,aM)]++Rm) 204 tk4 from I4).ord 4 [0,3,1,2]
 by_cases hc:vs.length<=12
 ·refine fz hA (Ag b w k0 vs.toArray tk (vs.length:Int)) rfl ?_ nP J0 λs3 I3 k3=>?_
  all_goals try dsimp only[ow]at I3
  ·exact fc ⟨by rw[<-hlen];exact cB (by rw[hlen];lia),fc ⟨cH (decide_eq_false (by lia)),fc ⟨eW (by lia),bu⟩⟩⟩
  rw[<-hX]at I3
  have J3:aa B.f s3 ((mV (PB b w) X [(320,tk),(18,tk+1),(197,tk+2)] 0 vs.toArray++[(201,bL ((0:Nat):Int) ((vs.length:Nat):Int) 1)])++((191,aM)::Rm)) 202 (tk+9):=I3.bra [0,2,1,3]
  refine vw (hA.uq (s0 ..)) hI _ 0 X _ 0 _ s3 rfl (by lia) (by lia) J3 ?_
  intro s4 X' tk4 e' l' h7' I4 k4
  refine rF hA (wP b X'.kk w X' k0 vs.toArray tk (vs.length:Int) tk4) nP nP (cont s4 X' tk4 e' l' I4) λs5 I5 k5=>ap ?_
  with_reducible refine nm ({X' with kk:=X'.kk,wd:=4,q:=qU (qU X'.q 3 tk4) 4 (tk4+2),tsh:=tk4+1,sheet:=⟨#[]⟩}:Lv) λX5 hX5=>?_
  exact h s5 X5 l' e' _ h7' (by rw[hX5]) (by rw[hX5]) (by rw[hX5];exact I5) (((k3.trans k4).trans k5))
 ·refine fz hA (Ah b w k0 vs.toArray tk (vs.length:Int)) rfl ?_ nP J0 λs3 I3 k3=>?_
  all_goals try dsimp only[oz]at I3
  ·exact fc ⟨by rw[<-hlen];exact cB (by rw[hlen];lia),fc ⟨cH (decide_eq_true (by lia)),bu⟩⟩
  rw[<-hX]at I3
  have J3:aa B.f s3 ((mV (PB b w) X [(320,tk),(18,tk+1),(197,tk+2)] 0 vs.toArray++[(201,bL ((0:Nat):Int) ((12:Nat):Int) 1)])++((191,aM)::Rm)) 202 (tk+9):=I3.bra [0,2,1,3]
  refine vw (hA.uq (tf ..)) hI _ 0 X _ 0 _ s3 rfl (by lia) (by lia) J3 ?_
  intro s4 X' tk4 e' l' h7' I4 k4
  refine rF hA (wQ b X'.kk w X' k0 vs.toArray tk (vs.length:Int) tk4) nP nP (cont s4 X' tk4 e' l' I4) λs5 I5 k5=>ap ?_
  with_reducible refine nm ({X' with kk:=X'.kk,wd:=4,q:=qU (qU X'.q 3 tk4) 4 (tk4+2),tsh:=tk4+1,sheet:=⟨#[]⟩}:Lv) λX5 hX5=>?_
  exact h s5 X5 l' e' _ h7' (by rw[hX5]) (by rw[hX5]) (by rw[hX5];exact I5) (((k3.trans k4).trans k5))
end
theorem oU:sY=jY sY:=by kernel_rfl
def L1 (p:Tx):Prop:=p.1.cps.toList=[102]\/p.1.cps.toList=[105]
theorem vx:∀{av:List Tx},(∀p∈av,L1 p)->(aZ av).length=av.length/\∀c∈aZ av,c=102\/c=105
 | [],_=>⟨rfl,λ_ h=>nomatch h⟩
 | p::r,h=>by
  obtain⟨h1,h2⟩:=vx λx hx=>h x (.tail _ hx)
  have e:aZ (p::r)=p.1.cps.toList++aZ r:=by simp[aZ]
  rw[e]
  rcases h p (.head _)with q|q<;>rw[q]
  ·exact⟨by simp[h1],λc hc=>by rcases N0.mp hc with q|q;exact .inl q;exact h2 c q⟩
  ·exact⟨by simp[h1],λc hc=>by rcases N0.mp hc with q|q;exact .inr q;exact h2 c q⟩
section
variable{b:Bool}{w:World}{B:Bx (KL (PB b w))}{A:Around}{s:Shared}{R:aK}
theorem Kx {lv:Nat}(hA:ad lv A){it acc D tv N:Nat}(v:Nat)(hN:N<=4){Q:Result->aP} :
  ∀(left i:Nat) (vv:Bool) (n tk ae dk:Nat) (dv:Value) (av:List Tx) (s:Shared),i+left=N->vv=decide (0<i)->av.length=i->(∀p∈av,L1 p) ->
  aa B.f s ([pR it (i:Int) (left:Int) 1,(D+200,jd (PB b w) vv "k" dk dv),(192,l7 (v:Int) tv),pL acc (tL av) ae]++R) (n+200) tk ->
  (∀(s':Shared) (n' tk' ae' dk':Nat) (dv':Value) (av':List Tx),av'.length=N->(∀p∈av',L1 p)->aa B.f s' ([(D+200,jd (PB b w) (decide (0<N)) "k" dk' dv'),(192,l7 (v:Int) tv),pL acc (tL av') ae']++R) (n'+200) tk'->bZ s s'->Q (.ok .next) s') ->
  codeAny (Mo PW (WB b w)) A (cY sY [cX 2] it acc D) Q s:=by
 intro left
 induction left with
 | zero =>
  intro i vv n tk ae dk dv av s hi hvv hl hf I h
  refine aF (a8 oU) ?_
  have e:i=N:=by lia
  subst hvv
  subst e
  refine rF hA (Aq b w it acc D n tk (i:Int) 0) nP (fc ⟨dB (by lia),bu⟩) (R:=[(D+200,jd (PB b w) (decide (0<i)) "k" dk dv),(192,l7 (v:Int) tv),pL acc (tL av) ae]++R) I λs1 I1 k1=>?_
  dsimp only[vf]at I1
  exact λ_ _ _=>h s1 (n+2) _ ae dk dv av hl hf I1 k1
 | succ left ih =>
  intro i vv n tk ae dk dv av s hi hvv hl hf I h
  obtain⟨g,hg,hg2⟩:∃g,(Rf "fi").cps[v / 4 / 2^i%2]?=some g/\(g=102\/g=105):=by
   have:v / 4 / 2^i%2=0\/v / 4 / 2^i%2=1:=by lia
   rcases this with q|q<;>rw[q]
   ·exact⟨102,by decide,.inl rfl⟩
   ·exact⟨105,by decide,.inr rfl⟩
  have h2:(2:Int)^i=((2^i:Nat):Int):=by push_cast;rfl
  have h3:2^i<=16:=NU (Pm (by decide) (show i<=4 by lia)) (by decide)
  have h4:0<2^i:=Nat.pow_pos (by decide)
  refine aF (a8 oU) ?_
  refine rF hA (El b vv w it acc D n tk ae dk tv g (tL av) dv (v:Int) (i:Int) ((left+1:Nat):Int) ((v / 4:Nat):Int) (2^i) ((v / 4 / 2^i:Nat):Int) ((v / 4 / 2^i%2:Nat):Int))
   (fc ⟨cu (by decide) (by decide) (by rfl),fc ⟨kz (by lia),fc ⟨cu (by rw[h2];lia) (by rw[h2];lia) (by rw[h2];rfl),fc ⟨cc (by decide) (by rfl),fc ⟨f7 hg (by lia),bu⟩⟩⟩⟩⟩)
   (fc ⟨dd (by lia),fc ⟨aD (by rw[aJ];lia),bu⟩⟩) I λs1 I1 k1=>?_
  dsimp only[Ap]at I1
  rw[cU,show(i:Int)+1=((i+1:Nat):Int) by lia,show(((left+1:Nat):Int)-1)=(left:Int) by lia]at I1
  refine λ_ _ _=>⟨by rfl,ih (i+1) true n _ _ _ _ _ s1 (by lia) (by simp) (by simp[hl]) (λp hp=>?_) I1 λs' n' tk' ae' dk' dv' av' q0 q1 q2 q3=>h s' n' tk' ae' dk' dv' av' q0 q1 q2 (k1.trans q3)⟩
  rcases NK.mp hp with q|q
  ·exact hf p q
  ·rw[NN.mp q]
   rcases hg2 with rfl|rfl
   ·exact .inl rfl
   ·exact .inr rfl
structure qP (ws:List Tx)(sh:Str)(Dc:Dk):Prop where
 wd:∀p∈ws,qy p.1.cps.toList
 sh:∃rs,Rows (ws.map (·.1.cps.toList)) rs/\sh.cps.toList=rs.flatMap (gT · [10])
 di:∀k v,bM Dc k=some v->∃(y:List Nat) (t:Nat),v=.str ⟨y.toArray⟩ t/\dJ k.cps.toList y/\y.length<=5
 al:∀p∈ws,(bM Dc p.1).isSome=true
 dl:Dc.length<=ws.length
theorem lK (l:Dk)(k:Str)(t:Nat)(v:Value)(x:Str)(h:bM l k=none):bM (l++[(k,t,v)]) x=if x=k then some v else bM l x:=by
 unfold bM at h ⊢
 simp only[Pf]at h
 rw[List.find?_append]
 by_cases e:x=k
 ·subst e;rw[h,if_pos rfl];simp
 ·rw[if_neg e]
  have:¬k=x:=λq=>e q.symm
  cases q:l.find? λy=>decide (y.1=x)with
  | some y=>simp
  | none=>simp[this]
theorem qP.more {ws:List Tx}{sh:Str}{Dc:Dk}(ok:qP ws sh Dc){wo:Str}{t:Nat}(hw:qy wo.cps.toList){r:Nat×List Nat}(hr:gl wo.cps.toList r){sh':Str}(hs:sh'.cps.toList=sh.cps.toList++gT r [10]){Dc':Dk}
  (h1:∀k v,bM Dc' k=some v->bM Dc k=some v\/k=wo/\∃u,v=.str ⟨r.2.toArray⟩ u) (h2:∀k,(bM Dc k).isSome=true->(bM Dc' k).isSome=true) (h3:(bM Dc' wo).isSome=true) (h4:Dc'.length<=Dc.length+1):qP (ws++[(wo,t)]) sh' Dc':=by
 obtain⟨rs,e1,e2⟩:=ok.sh
 refine⟨λp hp=>?_,⟨rs++[r],?_,?_⟩,λk v hv=>?_,λp hp=>?_,?_⟩
 ·rcases NK.mp hp with q|q
  ·exact ok.wd p q
  ·rw[NN.mp q];exact hw
 ·rw[NO];exact e1.snoc hr
 ·rw[hs,e2,Pc];simp
 ·rcases h1 k v hv with q|⟨rfl,u,rfl⟩
  ·exact ok.di k v q
  ·exact⟨r.2,u,rfl,hr.sp,hr.ln⟩
 ·rcases NK.mp hp with q|q
  ·exact h2 _ (ok.al p q)
  ·rw[NN.mp q];exact h3
 ·rw[NR,OJ];have:=ok.dl;lia
theorem fj (x:Str):⟨x.cps.toList.toArray⟩=x:=by cases x;simp
theorem i9 {ws:List (List Nat)}{rs:List (Nat×List Nat)}(H:Rows ws rs)(en:List Nat):(rs.flatMap (gT · en)).length<=ws.length*(7+en.length):=by
 induction H with
 | nil=>exact OI _
 | cons h t this =>
  have h5:=h.ln
  rw[O0,NR,NV,QM]
  have e2:∀r:Nat×List Nat,(gT r en).length=r.2.length+en.length+2:=λr=>by simp[gT]
  rw[e2];lia
theorem Fb (sh gs yy:Str)(h1:sh.length<=100)(h2:gs.length<=1)(h3:yy.length<=5)(T ty ts:Nat){G:Prop}
  (k:∀(z1 z2 z3 z4:Str) (f1 f2 f3 f4:Nat->Nat) (d1 d2 d3 d4:Nat),z4=sh++(((gs++Rf ".")++yy)++Rf "\n") ->
   ak PW (WB b w) (KL (PB b w)) 9000 ⟨bc "str.__add__" [.str gs (T+5),.str (Rf ".") (T+6)],aG z1 f1 d1,[]⟩ ->
   ak PW (WB b w) (KL (PB b w)) 9000 ⟨bc "str.__add__" [.str z1 (f1 (T+7)),.str yy ty],aG z2 f2 d2,[]⟩ ->
   ak PW (WB b w) (KL (PB b w)) 9000 ⟨bc "str.__add__" [.str z2 (f2 (T+7+d1)),.str (Rf "\n") (T+7+d1+d2)],aG z3 f3 d3,[]⟩ ->
   ak PW (WB b w) (KL (PB b w)) 9000 ⟨bc "str.__add__" [.str sh ts,.str z3 (f3 (T+7+d1+d2+1))],aG z4 f4 d4,[]⟩->G):G:=by
 have l5:2000<=sizeLine:=by decide +kernel
 have pa:∀(x y:Str),x.length+y.length<=200->∀t u:Nat,∃(z:Str) (f:Nat->Nat) (d:Nat),z=x++y/\ak PW (WB b w) (KL (PB b w)) 9000 ⟨bc "str.__add__" [.str x t,.str y u],aG z f d,[]⟩:=λx y hl t u=>⟨_,_,_,rfl,dq rfl (by rw[ck];lia)⟩
 have l1:(Rf ".").length=1:=by decide
 have l2:(Rf "\n").length=1:=by decide
 obtain⟨z1,f1,d1,e1,p1⟩:=pa gs (Rf ".") (by rw[l1];lia) (T+5) (T+6)
 have q1:z1.length<=2:=by rw[e1,ck,l1];lia
 obtain⟨z2,f2,d2,e2,p2⟩:=pa z1 yy (by lia) (f1 (T+7)) ty
 have q2:z2.length<=7:=by rw[e2,ck];lia
 obtain⟨z3,f3,d3,e3,p3⟩:=pa z2 (Rf "\n") (by rw[l2];lia) (f2 (T+7+d1)) (T+7+d1+d2)
 obtain⟨z4,f4,d4,e4,p4⟩:=pa sh z3 (by rw[e3,ck,l2];lia) ts (f3 (T+7+d1+d2+1))
 exact k z1 z2 z3 z4 f1 f2 f3 f4 d1 d2 d3 d4 (by rw[e4,e3,e2,e1]) p1 p2 p3 p4
theorem Bc {lv:Nat}(hA:ad lv A)(hlv:lv<=9){n tk we de tv v:Nat}{vv:Bool}{X:Lv}{ws:List Tx}{Dc:Dk}(ok:qP ws X.sheet Dc)(h3:ws.length<=3)
  (I:aa B.f s ([bE b w X (if vv then 5 else 2),(192,l7 (v:Int) tv),pL X.wd (tL ws) we,dn,pD 5 (a7 (PB b w) Dc) de]++R) (n+200) tk)
  {Q:Fin->aP} {E:Value->aP}
  (h:∀(s':Shared) (X':Lv) (ws':List Tx) (Dc':Dk) (n' tk' we' de':Nat),ws'.length=ws.length+1->X'.wd=X.wd->X'.kk=X.kk->qP ws' X'.sheet Dc'->aa B.f s' ([bE b w X' 5,(192,l7 (v:Int) tv),pL X'.wd (tL ws') we',dn,pD 5 (a7 (PB b w) Dc') de']++R) (n'+200) tk'->bZ s s'->Q (.done .next) s') :
  an PW (WB b w) A Q E [] (cm sX.2 aE) s:=by
 have l5:2000<=sizeLine:=by decide +kernel
 have J0:aa B.f s ([bE b w X (if vv then 5 else 2),(192,l7 (v:Int) tv)]++([pL X.wd (tL ws) we,dn,pD 5 (a7 (PB b w) Dc) de]++R)) (n+200) tk:=I
 refine fz hA (Ek b X.kk vv w X n tk (v:Int) tv ((v%4:Nat):Int) ((1+v%4:Nat):Int)) rfl (fc ⟨cc (by decide) (by rfl),fc ⟨cb (by lia),fc ⟨eW (by lia),bu⟩⟩⟩) nP J0 λs1 I1 k1=>?_
 have J1:aa B.f s1 ([pR (n+1) ((0:Nat):Int) ((1+v%4:Nat):Int) 1,(n+3+200,jd (PB b w) false "k" 0 .none),(192,l7 (v:Int) tv),pL (n+2) (tL []) 0]++([bE b w X (if vv then 5 else 2),pL X.wd (tL ws) we,dn,pD 5 (a7 (PB b w) Dc) de]++R)) (n+4+200) (tk+7):=I1.ord 8 [2,4,1,3,0,5,6,7]
 refine iO oU (J1.has (pR (n+1) ((0:Nat):Int) ((1+v%4:Nat):Int) 1) (.head _)) ?_
 refine Kx (hA.uq (wS ..)) (N:=1+v%4) v (by lia) (1+v%4) 0 false (n+4) _ 0 0 .none [] s1 (by lia) rfl rfl nM J1 ?_
 intro s2 n2 tk2 ae2 dk2 dv2 av hav hf I2 k2
 obtain⟨f1,f2⟩:=vx hf
 with_reducible refine nm (⟨(aZ av).toArray⟩:Str) λwo hwo=>?_
 have hwl:wo.cps.toList=aZ av:=by rw[hwo]
 have hw:qy wo.cps.toList:=by rw[hwl];exact⟨by lia,by lia,f2⟩
 have e1:decide (0<1+v%4)=true:=decide_eq_true (by lia)
 rw[e1]at I2
 have J2:aa B.f s2 ([bE b w X (if vv then 5 else 2),(192,l7 (v:Int) tv),pL X.wd (tL ws) we,pL (n+2) (tL av) ae2,(n+3+200,jd (PB b w) true "k" dk2 dv2)]++([dn,pD 5 (a7 (PB b w) Dc) de]++R)) (n2+200) tk2:=I2.ord 7 [3,1,4,2,0,5,6]
 have pj:∀t:Nat,ak PW (WB b w) (KL (PB b w)) 9000 ⟨bc "str.join" [.str (Rf "") t,.ref (n+2+200)],aG wo (d8 av) (ev av),[pL (n+2) (tL av) ae2]⟩:=λt=>by
  rw[hwo];exact dW (ps:=av) (by lia)
 refine fz hA (Em b X.kk vv w X n tk (v:Int) tv ((v%4:Nat):Int) ((1+v%4:Nat):Int) n2 tk2 we ae2 dk2 (tL ws) (tL av) dv2 wo (d8 av) (ev av) ((v / 64:Nat):Int)) rfl
  (fc ⟨pj _,fc ⟨cu (by decide) (by decide) (by rfl),bu⟩⟩) (fc ⟨aD (by rw[aJ];lia),bu⟩) J2 λs3 I3 k3=>?_
 dsimp only[th]at I3
 have lg3:=wT b X.kk vv w X n tk (v:Int) tv ((v%4:Nat):Int) ((1+v%4:Nat):Int) n2 tk2 we ae2 dk2 (tL ws) (tL av) dv2 wo (d8 av) (ev av) ((v / 64:Nat):Int)
 with_reducible refine nm ({X with kk:=X.kk,word:=wo,tw:=d8 av tk2,style:=((v / 64:Nat):Int),tst:=tk2+ev av+2,q:=qU (qU X.q 5 (if vv then X.q 5 else tk2+ev av)) 6 (if vv then X.q 6 else tk2+ev av+3)}:Lv) λX3 hX3=>?_
 have ewd:X3.wd=X.wd:=by rw[hX3]
 have esh:X3.sheet=X.sheet:=by rw[hX3]
 have ewo:X3.word=wo:=by rw[hX3]
 have est:X3.style=((v / 64:Nat):Int):=by rw[hX3]
 rw[cU]at I3
 have J3:aa B.f s3 ([bE b w X3 (if vv then 5 else 4),(192,l7 (v:Int) tv),pL X.wd (tL (ws++[(wo,d8 av tk2)])) (bU (tL ws) (.str wo (d8 av tk2)) we),dn,pD 5 (a7 (PB b w) Dc) de]++R) (n2+200) (tk2+ev av+4):=by rw[hX3];exact I3
 have hsp:=CT (b:=b) (w:=w) (B:=B) (s:=s3) (hA.up (by lia) lg3.1 lg3.2) (by lia) (word:=wo.cps.toList) hw (tw:=d8 av tk2) (st:=v / 64) (ts:=tk2+ev av+2) J3
 rw[fj]at hsp
 refine codeAny_mono hsp ?_
 rintro r4 s4 ⟨y,ty,n4,tk4,rfl,sp,h5,I4,k4⟩
 have J4:aa B.f s4 ([bE b w X3 (if vv then 5 else 4),dn,pD 5 (a7 (PB b w) Dc) de]++([(192,l7 (v:Int) tv),pL X.wd (tL (ws++[(wo,d8 av tk2)])) (bU (tL ws) (.str wo (d8 av tk2)) we)]++R)) (n4+200) tk4:=I4.ord 5 [0,3,4,1,2]
 obtain⟨rs,_,hrs⟩:=ok.sh
 have hsl:X3.sheet.length<=100:=by
  rw[esh]
  obtain⟨rs,r1,r2⟩:=ok.sh
  have:=i9 r1 [10]
  rw[<-r2,NM]at this
  have e:X.sheet.cps.toList.length=X.sheet.length:=by simp[Str.length]
  have:ws.length*(7+[10].length)<=3*8:=P3 h3 (by decide)
  lia
 have yl:(⟨y.toArray⟩:Str).length<=5:=by simpa[Str.length]using h5
 have fin:∀(sg:Nat) (gs:Str),gs=⟨#[sg]⟩->(sg=92\/sg=8204)->∀(z4:Str),z4=X3.sheet++(((gs++Rf ".")++⟨y.toArray⟩)++Rf "\n")->∀(s5:Shared) (Dc':Dk) (n5 tk5 de5 tsh:Nat) (q:Nat->Nat),
   (∀k v,bM Dc' k=some v->bM Dc k=some v\/k=wo/\∃u,v=.str ⟨y.toArray⟩ u)->(∀k,(bM Dc k).isSome=true->(bM Dc' k).isSome=true)->(bM Dc' wo).isSome=true->Dc'.length<=Dc.length+1 ->
   aa B.f s5 ([bE b w {X3 with kk:=X3.kk,typed:=⟨y.toArray⟩,tty:=ty,sheet:=z4,tsh:=tsh,q:=q} 5,dn,pD 5 (a7 (PB b w) Dc') de5]++([(192,l7 (v:Int) tv),pL X.wd (tL (ws++[(wo,d8 av tk2)])) (bU (tL ws) (.str wo (d8 av tk2)) we)]++R)) (n5+200) tk5->bZ s4 s5->Q (.done .next) s5:=by
  intro sg gs Ll hsg z4 hz4 s5 Dc' n5 tk5 de5 tsh q c1 c2 c3 c4 I5 k5
  with_reducible refine nm ({X3 with kk:=X3.kk,typed:=⟨y.toArray⟩,tty:=ty,sheet:=z4,tsh:=tsh,q:=q}:Lv) λX5 hX5=>?_
  have ew5:X5.wd=X.wd:=by rw[hX5];exact ewd
  rw[<-hX5]at I5
  refine h s5 X5 (ws++[(wo,d8 av tk2)]) Dc' n5 tk5 (bU (tL ws) (.str wo (d8 av tk2)) we) de5 (by simp) ew5 (by rw[hX5];show X3.kk=_;rw[hX3]) ?_ ?_ (((((k1.trans k2).trans k3).trans k4).trans k5))
  ·refine ok.more hw (r:=(sg,y)) ⟨hsg,sp,h5⟩ ?_ c1 c2 c3 c4
   rw[hX5]
   show z4.cps.toList=_
   rw[hz4,esh,Ll]
   simp only[Str.cps_append,Oq]
   have e1:(Rf ".").cps.toList=[46]:=by decide
   have e2:(Rf "\n").cps.toList=[10]:=by decide
   rw[e1,e2]
   simp[gT]
  ·rw[ew5]
   exact I5.ord 5 [0,3,4,1,2]
 have hm:((v / 64:Nat):Int)%2=((v / 64%2:Nat):Int):=by rfl
 have es3:X3.style%2=((v / 64%2:Nat):Int):=by rw[est];exact hm
 have pst:ak PW (WB b w) (KL (PB b w)) 9000 ⟨bc "int.__mod__" [.int X3.style X3.tst,.int ((2:Nat):Int) (tk4+2)],aI ((v / 64%2:Nat):Int),[]⟩:=cc (by decide) es3
 have hdc:Dc.length<=1000:=by have:=ok.dl;lia
 have hnew:∀(h:bM Dc wo=none) (t:Nat),(∀k v,bM (Dc++[(wo,t,Value.str ⟨y.toArray⟩ ty)]) k=some v->bM Dc k=some v\/k=wo/\∃u,v=.str ⟨y.toArray⟩ u)/\(∀k,(bM Dc k).isSome=true->(bM (Dc++[(wo,t,Value.str ⟨y.toArray⟩ ty)]) k).isSome=true)/\(bM (Dc++[(wo,t,Value.str ⟨y.toArray⟩ ty)]) wo).isSome=true/\(Dc++[(wo,t,Value.str ⟨y.toArray⟩ ty)]).length<=Dc.length+1:=λh t=>by
  refine⟨λk v hv=>?_,λk hk=>?_,?_,by simp⟩
  ·rw[lK _ _ _ _ _ h]at hv
   split at hv
   ·rename_i e;cases hv;exact .inr ⟨e,_,rfl⟩
   ·exact .inl hv
  ·rw[lK _ _ _ _ _ h];split
   ·rfl
   ·exact hk
  ·rw[lK _ _ _ _ _ h,if_pos rfl];rfl
 have e0:X3=(fK X3 X.kk):=by rw[hX3]
 have J5:aa B.f s4 ([bE b w (fK X3 X.kk) (if vv then 5 else 4),dn,pD 5 (a7 (PB b w) Dc) de]++([(192,l7 (v:Int) tv),pL X.wd (tL (ws++[(wo,d8 av tk2)])) (bU (tL ws) (.str wo (d8 av tk2)) we)]++R)) (n4+200) tk4:=by
  rw[e0]at J4;exact J4
 have ekk:X3.kk=X.kk:=by rw[hX3]
 have dpush:∀t:Nat,(a7 (PB b w) Dc).push ⟨PyData.keyHash (PB b w) wo,.str wo t,.str ⟨y.toArray⟩ ty⟩=a7 (PB b w) (Dc++[(wo,t,.str ⟨y.toArray⟩ ty)]):=λt=>iP _ _ _ _ _
 cases hg:bM Dc wo with
 | none =>
  by_cases hm1:v / 64%2=1
  ·with_reducible refine Fb (b:=b) (w:=w) X3.sheet (Rf "\\") ⟨y.toArray⟩ hsl (by decide) yl tk4 ty X3.tsh λz1 z2 z3 z4 f1 f2 f3 f4 d1 d2 d3 d4 e4 p1 p2 p3 p4=>?_
   refine rF hA (wW b X.kk vv w X n tk X3 (v:Int) tv ((v%4:Nat):Int) ((1+v%4:Nat):Int) n2 tk2 we ae2 dk2 (tL ws) (tL av) dv2 wo (d8 av) (ev av) ((v / 64:Nat):Int) n4 tk4 ty de (a7 (PB b w) Dc) ⟨y.toArray⟩ ((v / 64%2:Nat):Int) z1 z2 z3 z4 f1 f2 f3 f4 d1 d2 d3 d4 (PyData.keyHash (PB b w) X3.word) ⟨#[]⟩ 0) (fc ⟨pst,fc ⟨bJ (decide_eq_true (by lia)),fc ⟨p1,fc ⟨p2,fc ⟨p3,fc ⟨p4,bu⟩⟩⟩⟩⟩⟩) (fc ⟨eK (by decide) hdc (by rw[ewo];exact hg),bu⟩) J5 λs5 I5 k5=>ap ?_
   dsimp only[qN]at I5
   rw[ewo,dpush]at I5
   obtain⟨c1,c2,c3,c4⟩:=hnew hg X3.tw
   exact fin 92 (Rf "\\") (by decide) (by decide) z4 e4 s5 _ n4 _ _ _ _ c1 c2 c3 c4 (by rw[ekk,ewo];exact I5) k5
  ·with_reducible refine Fb (b:=b) (w:=w) X3.sheet (Rf "‌") ⟨y.toArray⟩ hsl (by decide) yl tk4 ty X3.tsh λz1 z2 z3 z4 f1 f2 f3 f4 d1 d2 d3 d4 e4 p1 p2 p3 p4=>?_
   refine rF hA (wU b X.kk vv w X n tk X3 (v:Int) tv ((v%4:Nat):Int) ((1+v%4:Nat):Int) n2 tk2 we ae2 dk2 (tL ws) (tL av) dv2 wo (d8 av) (ev av) ((v / 64:Nat):Int) n4 tk4 ty de (a7 (PB b w) Dc) ⟨y.toArray⟩ ((v / 64%2:Nat):Int) z1 z2 z3 z4 f1 f2 f3 f4 d1 d2 d3 d4 (PyData.keyHash (PB b w) X3.word) ⟨#[]⟩ 0) (fc ⟨pst,fc ⟨bJ (decide_eq_false (by lia)),fc ⟨p1,fc ⟨p2,fc ⟨p3,fc ⟨p4,bu⟩⟩⟩⟩⟩⟩) (fc ⟨eK (by decide) hdc (by rw[ewo];exact hg),bu⟩) J5 λs5 I5 k5=>ap ?_
   dsimp only[qL]at I5
   rw[ewo,dpush]at I5
   obtain⟨c1,c2,c3,c4⟩:=hnew hg X3.tw
   exact fin 8204 (Rf "‌") (by decide) (by decide) z4 e4 s5 _ n4 _ _ _ _ c1 c2 c3 c4 (by rw[ekk,ewo];exact I5) k5
 | some vo =>
  obtain⟨oy,ot,rfl,_⟩:=ok.di _ _ hg
  by_cases hm1:v / 64%2=1
  ·with_reducible refine Fb (b:=b) (w:=w) X3.sheet (Rf "\\") ⟨y.toArray⟩ hsl (by decide) yl tk4 ty X3.tsh λz1 z2 z3 z4 f1 f2 f3 f4 d1 d2 d3 d4 e4 p1 p2 p3 p4=>?_
   refine rF hA (wX b X.kk vv w X n tk X3 (v:Int) tv ((v%4:Nat):Int) ((1+v%4:Nat):Int) n2 tk2 we ae2 dk2 (tL ws) (tL av) dv2 wo (d8 av) (ev av) ((v / 64:Nat):Int) n4 tk4 ty de (a7 (PB b w) Dc) ⟨y.toArray⟩ ((v / 64%2:Nat):Int) z1 z2 z3 z4 f1 f2 f3 f4 d1 d2 d3 d4 0 ⟨oy.toArray⟩ ot) (fc ⟨fD (by decide) hdc (by rw[ewo];exact hg),fc ⟨pst,fc ⟨bJ (decide_eq_true (by lia)),fc ⟨p1,fc ⟨p2,fc ⟨p3,fc ⟨p4,bu⟩⟩⟩⟩⟩⟩⟩) nP J5 λs5 I5 k5=>ap ?_
   exact fin 92 (Rf "\\") (by decide) (by decide) z4 e4 s5 Dc n4 _ de _ _ (λk v h=>.inl h) (λk h=>h) (by rw[hg];rfl) (Pj _) (by rw[ekk];exact I5) k5
  ·with_reducible refine Fb (b:=b) (w:=w) X3.sheet (Rf "‌") ⟨y.toArray⟩ hsl (by decide) yl tk4 ty X3.tsh λz1 z2 z3 z4 f1 f2 f3 f4 d1 d2 d3 d4 e4 p1 p2 p3 p4=>?_
   refine rF hA (wV b X.kk vv w X n tk X3 (v:Int) tv ((v%4:Nat):Int) ((1+v%4:Nat):Int) n2 tk2 we ae2 dk2 (tL ws) (tL av) dv2 wo (d8 av) (ev av) ((v / 64:Nat):Int) n4 tk4 ty de (a7 (PB b w) Dc) ⟨y.toArray⟩ ((v / 64%2:Nat):Int) z1 z2 z3 z4 f1 f2 f3 f4 d1 d2 d3 d4 0 ⟨oy.toArray⟩ ot) (fc ⟨fD (by decide) hdc (by rw[ewo];exact hg),fc ⟨pst,fc ⟨bJ (decide_eq_false (by lia)),fc ⟨p1,fc ⟨p2,fc ⟨p3,fc ⟨p4,bu⟩⟩⟩⟩⟩⟩⟩) nP J5 λs5 I5 k5=>ap ?_
   exact fin 8204 (Rf "‌") (by decide) (by decide) z4 e4 s5 Dc n4 _ de _ _ (λk v h=>.inl h) (λk h=>h) (by rw[hg];rfl) (Pj _) (by rw[ekk];exact I5) k5
inductive W5 (b:Bool)(w:World)(B:Bx (KL (PB b w)))(s:Shared)(R:aK)(it:Nat)(e:Nat)(X:Lv)(l:List (Nat×Nat))(left:Nat)(s':Shared):Prop
 | mk (i n' tk' we' de':Nat) (X':Lv) (co:Option Value) (ws':List Tx) (Dc':Dk) (h1:i+left=3) (h2:ws'.length=i) (h3:(0<i->∃c,co=some c)) (h4:X'.wd=X.wd) (h5:X'.kk=X.kk) (h6:qP ws' X'.sheet Dc') (h7:aa B.f s' ([pI it 194 (i:Int),(194,ab (aO l) e),bE b w X' (if decide (0<i)=true then 5 else 2),(192,d0 co),pL X'.wd (tL ws') we',dn,pD 5 (a7 (PB b w) Dc') de']++R) (n'+200) tk') (h8:bZ s s'):W5 b w B s R it e X l left s'
theorem Fc {lv:Nat}(hA:ad lv A)(hlv:lv<=9){it n tk e:Nat}{X:Lv}{l:List (Nat×Nat)}(hl:l.length=3)(hsh:X.sheet.cps.toList=[]){Q:Result->aP}
  (I:aa B.f s ([pI it 194 ((0:Nat):Int),(194,ab (aO l) e),bE b w X 2,(192,aM),pL X.wd (tL []) 0,dn,pD 5 (a7 (PB b w) []) 0]++R) (n+200) tk)
  (h:∀(s':Shared) (X':Lv) (ws':List Tx) (Dc':Dk) (n' tk' we' de':Nat) (c':Value),ws'.length=3->X'.wd=X.wd->X'.kk=X.kk->qP ws' X'.sheet Dc'->aa B.f s' ([bE b w X' 5,(192,bQ c'),pL X'.wd (tL ws') we',dn,pD 5 (a7 (PB b w) Dc') de']++R) (n'+200) tk'->bZ s s'->Q (.ok .next) s') :
  codeAny (Mo PW (WB b w)) A (mU sX it) Q s:=by
 refine codeAny_forLoop (W5 b w B s R it e X l) ?_ 3
  ⟨0,n,tk,0,0,X,none,[],[],rfl,rfl,λq=>absurd q (by decide),rfl,rfl,⟨λ_ q=>(nomatch q),⟨[],.nil,hsh⟩,λk v q=>(nomatch q),λ_ q=>(nomatch q),NT _⟩,I,.rfl'⟩ (λ_=>by rfl)
 rintro left s1 ⟨i,n1,tk1,we1,de1,X1,co1,ws1,Dc1,hi,hw1,hco,ew1,ek1,ok1,I1,k1⟩
 cases left with
 | zero =>
  refine bN ?_
  have e:i=3:=by lia
  subst e
  refine rF hA (Ei b w it n1 tk1 3 e (aO l)) nP (fc ⟨aU (by rw[N8,eV];lia),bu⟩) (R:=[bE b w X1 5,(192,d0 co1),pL X1.wd (tL ws1) we1,dn,pD 5 (a7 (PB b w) Dc1) de1]++R) I1 λs2 I2 k2=>ap ?_
  obtain⟨c,rfl⟩:=hco (by decide)
  refine wpAny_execs_nil ?_
  exact h s2 X1 ws1 Dc1 (n1+2) tk1 we1 de1 c hw1 ew1 ek1 ok1 (I2.sub (OE _ _)) (k1.trans k2)
 | succ left =>
  with_reducible refine gx (l:=l) (i:=i) (by lia) λp hp=>?_
  refine bN ?_
  refine rF hA (Eh b w it n1 tk1 i e (aO l) (.int (p.1:Int) p.2)) nP (fc ⟨aH (j8 hp),bu⟩) (R:=[bE b w X1 (if decide (0<i)=true then 5 else 2),(192,d0 co1),pL X1.wd (tL ws1) we1,dn,pD 5 (a7 (PB b w) Dc1) de1]++R) I1 λs2 I2 k2=>ap ?_
  refine fy ?_
  have J2:aa B.f s2 ([(192,d0 co1)]++([pI it 194 ((i:Int)+1),(194,ab (aO l) e),bE b w X1 (if decide (0<i)=true then 5 else 2),pL X1.wd (tL ws1) we1,dn,pD 5 (a7 (PB b w) Dc1) de1]++R)) (n1+200) tk1:=I2.ord 7 [3,0,1,2,4,5,6]
  refine rF hA (Ej b w n1 tk1 co1 (p.1:Int) p.2) nP nP J2 λs3 I3 k3=>ap ?_
  have J3:aa B.f s3 ([bE b w X1 (if decide (0<i)=true then 5 else 2),(192,l7 (p.1:Int) p.2),pL X1.wd (tL ws1) we1,dn,pD 5 (a7 (PB b w) Dc1) de1]++([pI it 194 ((i:Int)+1),(194,ab (aO l) e)]++R)) (n1+200) tk1:=I3.ord 7 [3,0,4,5,6,1,2]
  refine cR (l1:=sX.2) (l2:=[]) (Oc _).symm ?_
  refine Bc hA hlv ok1 (by lia) J3 ?_
  intro s4 X4 ws4 Dc4 n4 tk4 we4 de4 hw4 ew4 ek4 ok4 I4 k4
  refine wpAny_execs_nil ?_
  have J4:aa B.f s4 ([pI it 194 ((i:Int)+1),(194,ab (aO l) e),bE b w X4 5,(192,l7 (p.1:Int) p.2),pL X4.wd (tL ws4) we4,dn,pD 5 (a7 (PB b w) Dc4) de4]++R) (n4+200) tk4:=I4.ord 7 [5,6,0,1,2,3,4]
  refine⟨left,Og _,i+1,n4,tk4,we4,de4,X4,some (.int (p.1:Int) p.2),ws4,Dc4,by lia,by lia,λ_=>⟨_,rfl⟩,ew4.trans ew1,ek4.trans ek1,ok4,?_,((k1.trans k2).trans k3).trans k4⟩
  rw[show decide (0<i+1)=true by simp,show(((i+1:Nat):Int))=(i:Int)+1 by lia]
  exact J4
end
theorem oV:sZ=jY sZ:=by kernel_rfl
theorem oW:ov=jY ov:=by kernel_rfl
def dp (rs:List (Nat×List Nat)):List Nat:=rs.flatMap (gT · [13,10])
section
variable{b:Bool}{w:World}{B:Bx (KL (PB b w))}{A:Around}{s:Shared}{R:aK}
noncomputable abbrev jS (P:Params)(L:Lx)(i:Nat)(ti:Nat)(lin:Int)(tl:Nat):aK:=bg P L (i:Int) ti lin tl
theorem Ky {lv:Nat}(hA:ad lv A)(hlv:lv<=8){n tk e:Nat}{X:Lv}{l:List (Nat×Nat)}(hl:l.length=3)(hwd:X.wd=4)(hsh:X.sheet.cps.toList=[])
  (I:aa B.f s ([bE b w X 2,dn,pL 4 #[] 0,pD 5 #[] 0,(194,ab (aO l) e),(192,aM),(193,aM),(156,jX [])]++R) (n+200) tk)
  {Q:Fin->aP} {E:Value->aP}
  (h:∀(s':Shared) (X':Lv) (ws:List Tx) (Dc:Dk) (n' tk' we de ti tl:Nat) (c:Value) (T:Tb) (L:Lx) (rs:List (Nat×List Nat)),ws.length=3->qP ws X'.sheet Dc->Rows (ws.map (·.1.cps.toList)) rs->L.text=⟨(dp rs).toArray⟩ ->
   aa B.f s' ([bE b w X' 5,dn,(192,bQ c),bD L,pL X'.wd (tL ws) we,pD 5 (a7 (PB b w) Dc) de]++(jS (PB b w) L 0 ti 1 tl++([(156,eu T)]++R))) (n'+200) tk'->bZ s s'->Q (.done .next) s') :
  an PW (WB b w) A Q E [] (cm (pf [5,6]) aE) s:=by
 have J0:aa B.f s ([bE b w X 2,(194,ab (aO l) e)]++([dn,pL 4 #[] 0,pD 5 #[] 0,(192,aM),(193,aM),(156,jX [])]++R)) (n+200) tk:=I.ord 8 [0,4,1,2,3,5,6,7]
 refine fz hA (Eg b X.kk w X n tk (aO l) e) rfl nP nP J0 λs1 I1 k1=>?_
 have J1:aa B.f s1 ([pI n 194 ((0:Nat):Int),(194,ab (aO l) e),bE b w X 2,(192,aM),pL X.wd (tL []) 0,dn,pD 5 (a7 (PB b w) []) 0]++([(193,aM),(156,jX [])]++R)) (n+1+200) tk:=by
  rw[hwd];exact I1.ord 9 [2,1,0,6,4,3,5,7,8]
 refine Fc (hA.uq (wR ..)) (by lia) hl hsh J1 ?_
 intro s2 X2 ws Dc n2 tk2 we de c hws ew2 ek2 ok2 I2 k2
 have e2:X2=(fK X2 X.kk):=by rw[<-ek2]
 have J2:aa B.f s2 ([bE b w (fK X2 X.kk) 5]++([(192,bQ c),pL X2.wd (tL ws) we,dn,pD 5 (a7 (PB b w) Dc) de,(193,aM),(156,jX [])]++R)) (n2+200) tk2:=by rw[<-e2];exact I2
 refine fz hA (En b X.kk w X n tk (aO l) e n2 tk2 X2) rfl nP nP J2 λs3 I3 k3=>?_
 dsimp only[tn]at I3
 obtain⟨rs,hrs,hsr⟩:=ok2.sh
 have hrl:=i9 hrs [10]
 rw[<-hsr,NM,hws]at hrl
 rw[<-e2]at I3
 have J3:aa B.f s3 ([]++([bE b w X2 5,(192,bQ c),pL X2.wd (tL ws) we,dn,pD 5 (a7 (PB b w) Dc) de,(193,aM),(156,jX [])]++R)) (n2+200) tk2:=I3
 refine codeAny_mono (qg (B:=B.more _) (hA.uq (wY ..)) (by lia) (NU hrl (by decide)) J3.fr) ?_
 rintro r4 s4 ⟨n4,tk4,ty,rfl,I4,k4⟩
 have J4:=J3.un I4
 have hsent:b8 true (dm X2.sheet.cps.toList)=dp rs:=by rw[hsr];exact tP hrs
 rw[hsent]
 refine fz hA (Eo b X.kk w X n tk (aO l) e n2 tk2 X2 n4 tk4 ⟨(dp rs).toArray⟩ ty) rfl nP nP J4 λs5 I5 k5=>?_
 have J5:aa B.f s5 (ya none++([bE b w X2 5,(192,bQ c),pL X2.wd (tL ws) we,dn,pD 5 (a7 (PB b w) Dc) de,(193,aM)]++R)) (n4+200) tk4:=I5.ord 7 [6,0,1,2,3,4,5]
 refine codeAny_mono (yc (B:=B.more _) (hA.uq (wZ ..)) J5.fr) ?_
 rintro r6 s6 ⟨T,L,n6,tk6,ti,tl,rfl,hLt,_,_,_,_,I6,k6,_⟩
 have J6:aa B.f s6 ([(193,aM)]++([bE b w X2 5,(192,bQ c),pL X2.wd (tL ws) we,dn,pD 5 (a7 (PB b w) Dc) de]++(((156,eu T)::jS (PB b w) L 0 ti 1 tl)++R))) (n6+200) tk6:=by
  have h1:aa B.f s6 (((156,eu T)::jS (PB b w) L 0 ti 1 tl)++([bE b w X2 5,(192,bQ c),pL X2.wd (tL ws) we,dn,pD 5 (a7 (PB b w) Dc) de,(193,aM)]++R)) (n6+200) tk6:=J5.un I6
  exact(h1.sw).ord 6 [5,0,1,2,3,4]
 refine rF hA (Ep b X.kk w X n tk (aO l) e n2 tk2 X2 n4 tk4 ⟨(dp rs).toArray⟩ ty n6 tk6 L.x) nP nP J6 λs7 I7 k7=>ap ?_
 refine h s7 X2 ws Dc n6 tk6 we de ti tl c T L rs hws ok2 hrs hLt ?_ ((((((k1.trans k2).trans k3).trans k4.sm).trans k5).trans k6.sm).trans k7)
 have h2:aa B.f s7 ([bE b w X2 5,dn,(192,bQ c),bD L,pL X2.wd (tL ws) we,pD 5 (a7 (PB b w) Dc) de]++(([(156,eu T)]++jS (PB b w) L 0 ti 1 tl)++R)) (n6+200) tk6:=I7.ord 6 [1,4,2,0,3,5]
 refine h2.perm (NQ _ ?_)
 rw[NP]
 exact NX _ _ _
noncomputable abbrev Lu (P:Params)(L:Lx)(lin:Int)(tl:Nat):aK:=[jc P L lin tl,jb L]
noncomputable abbrev vy (P:Params)(L:Lx)(i:Nat)(ti:Nat)(pbs:List Value)(e:Nat):aK:=
 [pC L.c1 (.str L.text L.tx),pC L.c2 (.ref (L.at_+200)),(L.at_+200,dA [.int (i:Int) ti]),(L.cd+200,jJ L.nn L.tt),(L.rd+200,mz (L.c1+200) (L.c2+200) (L.cd+200) L.ct),
  (L.st+200,gy (L.dst+200) L.cd2),(L.dst+200,cy [eT P "read" L.kr1 (.ref (L.rd+200))] 1),(L.pb+200,dA pbs e)]
theorem Bd (P:Params)(L:Lx)(i ti:Nat)(lin:Int)(tl:Nat)(pbs:List Value)(e:Nat):(ai P L (i:Int) ti lin tl pbs e).Perm (Lu P L lin tl++vy P L i ti pbs e):=by
 have h:=(OW (l₁:=[pC L.c1 (.str L.text L.tx),pC L.c2 (.ref (L.at_+200)),(L.at_+200,dA [.int (i:Int) ti]),(L.cd+200,jJ L.nn L.tt),(L.rd+200,mz (L.c1+200) (L.c2+200) (L.cd+200) L.ct),(L.st+200,gy (L.dst+200) L.cd2),(L.dst+200,cy [eT P "read" L.kr1 (.ref (L.rd+200))] 1)]) (l₂:=Lu P L lin tl))
 exact(h.append_right [(L.pb+200,dA pbs e)])
theorem jT {P:Params}{L:Lx}{i ti:Nat}{lin:Int}{tl:Nat}{pbs:List Value}{e nx tok:Nat}{M:aK}(I:aa B.f s (M++(ai P L (i:Int) ti lin tl pbs e++R)) nx tok):aa B.f s (M++(Lu P L lin tl++(vy P L i ti pbs e++R))) nx tok:=
 I.perm (NQ _ (((Bd P L i ti lin tl pbs e).append_right R).trans (OG (NP _ _ _))))
theorem xg {P:Params}{L:Lx}{i ti:Nat}{lin:Int}{tl:Nat}{pbs:List Value}{e nx tok:Nat}{M:aK}(I:aa B.f s (M++(Lu P L lin tl++(vy P L i ti pbs e++R))) nx tok):aa B.f s (M++(ai P L (i:Int) ti lin tl pbs e++R)) nx tok:=
 I.perm (NQ _ (((Bd P L i ti lin tl pbs e).append_right R).trans (OG (NP _ _ _))).symm)
def lL (rs:List (Nat×List Nat))(i:Nat):List Nat:=if i=0 then dp rs else 10::dp (rs.drop i)
theorem Rows.at {ws:List (List Nat)}{rs:List (Nat×List Nat)}(H:Rows ws rs):∀{i:Nat} {x:List Nat},ws[i]?=some x->∃r,rs[i]?=some r/\gl x r:=by
 induction H with
 | nil=>exact λh=>absurd h (Option.some_ne_none _).symm
 | cons h t ih =>
  intro i x hx
  cases i with
  | zero=>exact⟨_,rfl,Oj.inj hx▸h⟩
  | succ i=>exact ih hx
theorem xh {ws:List (List Nat)}{rs:List (Nat×List Nat)}(h:Rows ws rs){i:Nat}{x:List Nat}(hx:ws[i]?=some x):∃r,rs[i]?=some r/\gl x r/\W1 (lL rs i) (i8 r) (lL rs (i+1)) (if i=0 then 0 else 1):=by
 obtain⟨r,h1,h2⟩:=h.at hx
 refine⟨r,h1,h2,?_⟩
 have e:dp (rs.drop i)=gT r [13,10]++dp (rs.drop (i+1)):=by
  obtain⟨hi,e⟩:=NW.mp h1
  rw[OD hi,e]
  simp[dp]
 have hw:=h2.word (dp (rs.drop (i+1)))
 rw[<-e]at hw
 unfold lL
 rw[if_neg (O6 i)]
 by_cases h0:i=0
 ·subst h0
  rw[if_pos rfl,if_pos rfl]
  exact .now hw
 ·rw[if_neg h0,if_neg h0]
  exact .feed hw
noncomputable def dE (i:Nat):Int:=if i=0 then 1 else(i:Int)
theorem Kz {lv:Nat}(hA:ad lv A)(hlv:lv<=10){it acc D S e:Nat}{ws:List Tx}{rs:List (Nat×List Nat)}(h3:ws.length<=3)(hw:∀p∈ws,qy p.1.cps.toList)(hr:Rows (ws.map (·.1.cps.toList)) rs){L:Lx}(hL:L.text=⟨(dp rs).toArray⟩)(hl2:2<=L.text.length){Q:Result->aP} :
  ∀(left i:Nat) (vv:Bool) (n tk ae dk p ti tl:Nat) (dv:Value) (av:List Tx) (s:Shared),i+left=ws.length->vv=decide (0<i)->av.map (·.1.cps.toList)=(ws.take i).map (λx=>46::x.1.cps.toList)->L.text.cps.toList.drop p=lL rs i->p<=L.text.length ->
  aa B.f s ([pI it (S+200) (i:Int),pL S (tL ws) e,c5 b w D vv dk dv,pL acc (tL av) ae,bD L]++(jS (PB b w) L p ti (dE i) tl++R)) (n+200) tk ->
  (∀(s':Shared) (n' tk' ae' dk' p' ti' tl':Nat) (dv':Value) (av':List Tx),av'.map (·.1.cps.toList)=ws.map (λx=>46::x.1.cps.toList)->L.text.cps.toList.drop p'=lL rs ws.length->p'<=L.text.length ->
   aa B.f s' ([pL S (tL ws) e,c5 b w D (decide (0<ws.length)) dk' dv',pL acc (tL av') ae',bD L]++(jS (PB b w) L p' ti' (dE ws.length) tl'++R)) (n'+200) tk'->bZ s s'->Q (.ok .next) s') ->
  codeAny (Mo PW (WB b w)) A (cY sZ [cX 1] it acc D) Q s:=by
 intro left
 induction left with
 | zero =>
  intro i vv n tk ae dk p ti tl dv av s hi hvv hav hp hpl I h
  refine aF (a8 oV) ?_
  have e':i=ws.length:=by lia
  subst hvv
  subst e'
  refine rF hA (Ew b w it acc D n tk ws.length S e (tL ws)) nP (fc ⟨aU (by rw[N8,aJ];lia),bu⟩) (R:=[c5 b w D (decide (0<ws.length)) dk dv,pL acc (tL av) ae,bD L]++(jS (PB b w) L p ti (dE ws.length) tl++R)) I λs1 I1 k1=>?_
  rw[Om]at hav
  exact λ_ _ _=>h s1 (n+2) _ ae dk p ti tl dv av hav hp hpl I1 k1
 | succ left ih =>
  intro i vv n tk ae dk p ti tl dv av s hi hvv hav hp hpl I h
  with_reducible refine gx (l:=ws) (i:=i) (by lia) λg hg=>?_
  have hgm:=NS hg
  have hgw:=hw g hgm
  obtain⟨r,hr1,hr2,hr3⟩:=xh hr (i:=i) (x:=g.1.cps.toList) (by rw[N7,hg];rfl)
  have hal:av.length<=3:=by have:=congrArg N9 hav;simp at this;lia
  have hlen:L.text.length<=100000:=by
   have:=i9 hr [13,10]
   rw[NM]at this
   have e:L.text.length=(dp rs).length:=by rw[hL];simp[Str.length]
   rw[e];unfold dp
   have:ws.length*(7+[13,10].length)<=3*9:=P3 h3 (by decide)
   lia
  refine aF (a8 oV) ?_
  have J0:aa B.f s ([pI it (S+200) (i:Int),pL S (tL ws) e,c5 b w D vv dk dv,bD L,jc (PB b w) L (dE i) tl,jb L]++([pL acc (tL av) ae]++(vy (PB b w) L p ti [] L.pe++R))) (n+200) tk:=
   (jT (M:=[pI it (S+200) (i:Int),pL S (tL ws) e,c5 b w D vv dk dv,pL acc (tL av) ae,bD L]) I).ord 7 [0,1,2,4,5,6,3]
  refine fz hA (Et b vv w L it acc D S n tk i e dk tl g.2 (tL ws) dv (dE i) g.1) rfl nP (fc ⟨aH (cj hg),bu⟩) J0 λs1 I1 k1=>?_
  have J1:aa B.f s1 (bg (PB b w) L (p:Int) ti (dE i) tl++([pI it (S+200) ((i:Int)+1),pL S (tL ws) e,c5 b w D true (if vv then dk else tk) (.str g.1 g.2),pL acc (tL av) ae,bD L]++R)) (n+200) (tk+1):=
   (xg (M:=[pI it (S+200) ((i:Int)+1),pL S (tL ws) e,c5 b w D true (if vv then dk else tk) (.str g.1 g.2),pL acc (tL av) ae,bD L]) (pbs:=[]) (e:=L.pe) (I1.ord 7 [0,1,2,6,3,4,5])).sw
  refine codeAny_mono (pQ (B:=B.more _) hl2 hlen (hA.uq (w2 ..)) (by lia) hr3 hp hpl J1.fr) ?_
  rintro r2 s2 ⟨p2,ti2,tl2,n2,tk2,ty,rfl,I2,hp2,hpl2,k2⟩
  have J2:=J1.un I2
  refine fz hA (Eu b vv w L it acc D S n tk i e dk tl g.2 (tL ws) dv (dE i) g.1 n2 tk2 ty ⟨(i8 r).toArray⟩) rfl nP nP J2 λs3 I3 k3=>?_
  have l5:2000<=sizeLine:=by decide +kernel
  refine codeAny_mono (jt (B:=B.more _) (hA.uq (w3 ..)) (by lia) (text:=⟨(i8 r).toArray⟩) hr2.told (by unfold i8;split<;>simp) (by have:=hgw.l4;rw[NV];lia) (aa.fr (M:=[]) I3)) ?_
  rintro r4 s4 ⟨n4,tk4,tz,rfl,I4,k4⟩
  have J4:=aa.un (M:=[]) I3 I4
  have J5:aa B.f s4 ([pL acc (tL av) ae]++([pI it (S+200) ((i:Int)+1),pL S (tL ws) e,c5 b w D true (if vv then dk else tk) (.str g.1 g.2),bD L]++(bg (PB b w) L (p2:Int) ti2 (dE i+((if i=0 then 0 else 1:Nat):Int)) tl2++R))) (n4+200) tk4:=
   ((show aa B.f s4 (bg (PB b w) L (p2:Int) ti2 (dE i+((if i=0 then 0 else 1:Nat):Int)) tl2++([pI it (S+200) ((i:Int)+1),pL S (tL ws) e,c5 b w D true (if vv then dk else tk) (.str g.1 g.2),pL acc (tL av) ae,bD L]++R)) (n4+200) tk4 from J4).sw).ord 5 [3,0,1,2,4]
  refine rF hA (Ev b vv w L it acc D S n tk i e dk tl g.2 (tL ws) dv (dE i) g.1 n2 tk2 ty ⟨(i8 r).toArray⟩ n4 tk4 tz ae ⟨(46::g.1.cps.toList).toArray⟩ (tL av)) nP (fc ⟨aD (by rw[aJ];lia),bu⟩) J5 λs5 I5 k5=>?_
  dsimp only[Ay]at I5
  rw[cU]at I5
  have el:dE i+((if i=0 then 0 else 1:Nat):Int)=dE (i+1):=by
   unfold dE
   by_cases h0:i=0
   ·subst h0;rfl
   ·rw[if_neg h0,if_neg h0,if_neg (O6 i)];push_cast;rfl
  rw[el]at I5
  refine λ_ _ _=>⟨by rfl,ih (i+1) true n4 _ _ _ p2 ti2 tl2 _ _ s5 (by lia) (by simp) ?_ hp2 hpl2 (I5.ord 5 [1,2,3,0,4]) λs' n' tk' ae' dk' p' ti' tl' dv' av' q0 q1 q2 q3 q4=>h s' n' tk' ae' dk' p' ti' tl' dv' av' q0 q1 q2 q3 ((((((k1.trans k2.sm).trans k3).trans k4.sm).trans k5)).trans q4)⟩
  rw[bt hg,NO,NO,hav]
  rfl
end
noncomputable def Lw (e:Rg):Pos:=(L0 e).2.2
noncomputable def Nf (e:Rg):Pos:=(Nc e).2
noncomputable def L3 (s:Stmt):List Stmt×Pos:=(LZ s).2.2
theorem Fe:fh 8=.If (.BoolOp .Or [.Compare (Gr (wO (qK (fh 8)) 0)) [.NotEq] [ov] (Lw (wO (qK (fh 8)) 0)),wO (qK (fh 8)) 1] (Nf (qK (fh 8)))) (EE (fh 8)) [] (L3 (fh 8)).2:=by kernel_rfl
section
variable{b:Bool}{w:World}{B:Bx (KL (PB b w))}{A:Around}{s:Shared}{R:aK}
theorem lM {op:CmpOp}{id:String}{lv:Nat}(hA:ad lv A){a c n m nx tok:Nat}{xs ys:aN}{r:Bool}{M:aK}(hs:Slot "list" (cmpInfo op).2.1 id)(p:ak PW (WB b w) (KL (PB b w)) 9000 ⟨bc id [.ref a,.ref c],aB r,[(a,ab xs n),(c,ab ys m)]⟩)
  (I:aa B.f s M nx tok) (h1:(a,ab xs n)∈M) (h2:(c,ab ys m)∈M) {Q:Bool->aP} {E:Value->aP} (h:Q r s):wpAny (Mo PW (WB b w)) A (richCompare op (.ref a) (.ref c)) (λv s'=>wpAny (Mo PW (WB b w)) A (truthy v) Q E s') E s:=by
 have o1:=I.has _ h1
 have o2:=I.has _ h2
 refine wpAny_richCompare_same_room (T:="list") ⟨_,o1,rfl⟩ ⟨_,o2,rfl⟩ hs (wpAny_call ?_) (by have:=hA.units;show _<9900;lia)
 refine yt (K:=KL (PB b w)) p (by have:=hA.units;lia) (fc ⟨o1,fc ⟨o2,bu⟩⟩) (λa o h=>I.base a o (B.ext a o h)) ?_
 exact⟨nofun,wpAny_truthy_bool h⟩
theorem L4 {lv:Nat}(hA:ad lv A)(hlv:lv<=8){n tk we ti tl:Nat}{X:Lv}{ws:List Tx}{rs:List (Nat×List Nat)}(h3:ws.length=3)(hw:∀p∈ws,qy p.1.cps.toList)(hr:Rows (ws.map (·.1.cps.toList)) rs){L:Lx}(hL:L.text=⟨(dp rs).toArray⟩)
  (I:aa B.f s ([bE b w X 5,bD L,pL X.wd (tL ws) we]++(jS (PB b w) L 0 ti 1 tl++R)) (n+200) tk)
  {Q:Fin->aP} {E:Value->aP}
  (h:∀(s':Shared) (X':Lv) (av:List Tx) (n' tk' ae p' ti' tl':Nat),X'.wd=X.wd->av.map (·.1.cps.toList)=ws.map (λx=>46::x.1.cps.toList)->L.text.cps.toList.drop p'=[10]->p'<=L.text.length->2<=L.text.length->L.text.length<=100000 ->
   aa B.f s' ([bE b w X' 6,bD L,pL X'.wd (tL ws) we,pL X'.told (tL av) ae]++(jS (PB b w) L p' ti' 3 tl'++R)) (n'+200) tk'->bZ s s'->Q (.done .next) s') :
  an PW (WB b w) A Q E [] (cm (pf [7]) aE) s:=by
 have J0:aa B.f s ([bE b w X 5,pL X.wd (tL ws) we]++([bD L]++(jS (PB b w) L 0 ti 1 tl++R))) (n+200) tk:=I.ord 3 [0,2,1]
 refine fz hA (Es b X.kk w X n tk (tL ws) we) rfl nP nP J0 λs1 I1 k1=>?_
 have J1:aa B.f s1 ([pI n (X.wd+200) ((0:Nat):Int),pL X.wd (tL ws) we,c5 b w (n+2) false 0 .none,pL (n+1) (tL []) 0,bD L]++(jS (PB b w) L 0 ti (dE 0) tl++([bE b w X 5]++R))) (n+3+200) tk:=by
  have h1:aa B.f s1 ([pI n (X.wd+200) ((0:Nat):Int),pL X.wd (tL ws) we,(n+2+200,cy [] 0),pL (n+1) #[] 0,bD L]++([bE b w X 5]++(jS (PB b w) L 0 ti 1 tl++R))) (n+3+200) tk:=I1.ord 6 [2,1,4,3,5,0]
  exact h1.perm (NQ _ (NX _ _ _))
 refine cx oV (J1.has (pI n (X.wd+200) ((0:Nat):Int)) (.head _)) ?_
 have hl0:L.text.cps.toList=dp rs:=by rw[hL]
 have hlen:L.text.length=(dp rs).length:=by rw[hL];simp[Str.length]
 have hl2:2<=L.text.length:=by
  with_reducible refine gx (l:=ws) (i:=0) (by lia) λg hg=>?_
  obtain⟨r,h1,_⟩:=hr.at (i:=0) (x:=g.1.cps.toList) (by rw[N7,hg];rfl)
  rw[hlen]
  obtain⟨hi,e⟩:=NW.mp h1
  cases rs with
  | nil=>exact absurd hi (by decide)
  | cons y t=>rw[dp,O0,NR,gT,NV,NV];lia
 have hl5:L.text.length<=100000:=by
  have:=i9 hr [13,10]
  rw[NM]at this
  rw[hlen];unfold dp
  have:ws.length*(7+[13,10].length)<=3*9:=P3 (by lia) (by decide)
  lia
 refine Kz (hA.uq (w0 ..)) (by lia) (by lia) hw hr hL hl2 ws.length 0 false (n+3) _ 0 0 0 ti tl .none [] s1 (by lia) rfl rfl (by rw[hl0];rfl) (OI _) J1 ?_
 intro s2 n2 tk2 ae2 dk2 p2 ti2 tl2 dv2 av hav hp2 hpl2 I2 k2
 rw[show decide (0<ws.length)=true by rw[h3];rfl]at I2
 have J2:aa B.f s2 ([bE b w X 5,c5 b w (n+2) true dk2 dv2]++([pL X.wd (tL ws) we,pL (n+1) (tL av) ae2,bD L]++(jS (PB b w) L p2 ti2 (dE ws.length) tl2++R))) (n2+200) tk2:=by
  have h1:=aa.mid (M:=[pL X.wd (tL ws) we,c5 b w (n+2) true dk2 dv2,pL (n+1) (tL av) ae2,bD L]) (N:=jS (PB b w) L p2 ti2 (dE ws.length) tl2) (L:=[bE b w X 5]) I2
  exact h1.ord 5 [4,1,0,2,3]
 refine rF hA (Ex b X.kk w X n tk (tL ws) we n2 tk2 dk2 dv2) nP nP J2 λs3 I3 k3=>ap ?_
 dsimp only[Az]at I3
 with_reducible refine nm ({X with kk:=X.kk,told:=n+1,q:=qU X.q 8 tk2}:Lv) λX3 hX3=>?_
 have e1:X3.wd=X.wd:=by rw[hX3]
 have e2:X3.told=n+1:=by rw[hX3]
 have elin:dE ws.length=3:=by rw[h3];rfl
 have er:lL rs ws.length=[10]:=by
  have hrl:∀{a:List (List Nat)} {c:List (Nat×List Nat)},Rows a c->c.length=a.length:=λh=>by
   induction h with
   | nil=>rfl
   | cons _ _ ih=>rw[NV,NV,ih]
  have:=hrl hr
  rw[NM]at this
  unfold lL
  rw[if_neg (by lia),QX (by lia)];rfl
 rw[er]at hp2
 rw[elin]at I3
 refine h s3 X3 av n2 (tk2+1) ae2 p2 ti2 tl2 e1 hav hp2 hpl2 hl2 hl5 ?_ ((k1.trans k2).trans k3)
 rw[e1,e2,hX3]
 exact I3.ord 4 [0,3,1,2]
theorem KA {lv:Nat}(hA:ad lv A){it acc D S e:Nat}{ws:List Tx}(h3:ws.length<=3)(hw:∀p∈ws,qy p.1.cps.toList){Q:Result->aP} :
  ∀(left i:Nat) (vv:Bool) (n tk ae dk:Nat) (dv:Value) (av:List Tx) (s:Shared),i+left=ws.length->vv=decide (0<i)->av.map (·.1.cps.toList)=(ws.take i).map (λx=>46::x.1.cps.toList) ->
  aa B.f s ([pI it (S+200) (i:Int),pL S (tL ws) e,c5 b w D vv dk dv,pL acc (tL av) ae]++R) (n+200) tk ->
  (∀(s':Shared) (n' tk' ae' dk':Nat) (dv':Value) (av':List Tx),av'.map (·.1.cps.toList)=ws.map (λx=>46::x.1.cps.toList) ->
   aa B.f s' ([pL S (tL ws) e,c5 b w D (decide (0<ws.length)) dk' dv',pL acc (tL av') ae']++R) (n'+200) tk'->bZ s s'->Q (.ok .next) s') ->
  codeAny (Mo PW (WB b w)) A (cY ov [] it acc D) Q s:=by
 intro left
 induction left with
 | zero =>
  intro i vv n tk ae dk dv av s hi hvv hav I h
  refine aF (a8 oW) ?_
  have e':i=ws.length:=by lia
  subst hvv
  subst e'
  refine rF hA (EB b w it acc D n tk ws.length S e (tL ws)) nP (fc ⟨aU (by rw[N8,aJ];lia),bu⟩) (R:=[c5 b w D (decide (0<ws.length)) dk dv,pL acc (tL av) ae]++R) I λs1 I1 k1=>?_
  all_goals try dsimp only[AC]at I1
  rw[Om]at hav
  exact λ_ _ _=>h s1 (n+2) _ ae dk dv av hav I1 k1
 | succ left ih =>
  intro i vv n tk ae dk dv av s hi hvv hav I h
  with_reducible refine gx (l:=ws) (i:=i) (by lia) λg hg=>?_
  have hgw:=hw g (NS hg)
  have hal:av.length<=3:=by have:=congrArg N9 hav;simp at this;lia
  have l5:2000<=sizeLine:=by decide +kernel
  have l1:(Rf ".").length=1:=by decide
  have hgl:g.1.length<=4:=by have:=hgw.l4;simpa[Str.length]using this
  have hz:(Rf "." ++ g.1).cps.toList=46::g.1.cps.toList:=by
   rw[Str.cps_append,Oq,show(Rf ".").cps.toList=[46] by decide];rfl
  refine aF (a8 oW) ?_
  refine rF hA (EA b vv w it acc D S n tk i e dk g.2 ae (tL ws) (tL av) dv g.1 (Rf "." ++ g.1) (xD (Rf ".") g.1 (tk+1) g.2) (BL (Rf ".") g.1)) (fc ⟨dq rfl (by rw[ck,l1];lia),bu⟩) (fc ⟨aH (cj hg),fc ⟨aD (by rw[aJ];lia),bu⟩⟩) I λs1 I1 k1=>?_
  dsimp only[AB]at I1
  rw[cU]at I1
  refine λ_ _ _=>⟨by rfl,ih (i+1) true n _ _ _ _ _ s1 (by lia) (by simp) ?_ I1 λs' n' tk' ae' dk' dv' av' q0 q1 q2=>h s' n' tk' ae' dk' dv' av' q0 q1 (k1.trans q2)⟩
  rw[bt hg,NO,NO,hav]
  exact congrArg (λz=>_++[z]) hz
theorem L5 {lv:Nat}(hA:ad lv A)(hlv:lv<=8){st:Stmt}(hst:st=fh 8){n tk we ti tl p ae:Nat}{X:Lv}{ws av:List Tx}(h3:ws.length=3)(hw:∀p∈ws,qy p.1.cps.toList)(hav:av.map (·.1.cps.toList)=ws.map (λx=>46::x.1.cps.toList)){L:Lx}
  (I:aa B.f s ([bE b w X 6,bD L,pL X.wd (tL ws) we,pL X.told (tL av) ae]++(jS (PB b w) L p ti 3 tl++R)) (n+200) tk)
  {Q:Flow->aP} {E:Value->aP}
  (h:∀(s':Shared) (n' tk':Nat),aa B.f s' ([bE b w X 6,bD L,pL X.wd (tL ws) we,pL X.told (tL av) ae]++(jS (PB b w) L p ti 3 tl++R)) (n'+200) tk'->bZ s s'->Q .next s') :
  wpAny (Mo PW (WB b w)) A (exec st aE) Q E s:=by
 rw[hst,Fe]
 refine wpAny_If (PyProof.Rows.isTrue_or (wpAny_isTrue_Compare1 (eA ?_)))
 refine rF hA (Ey b X.kk w X n tk) nP nP (R:=[bD L,pL X.wd (tL ws) we,pL X.told (tL av) ae]++(jS (PB b w) L p ti 3 tl++R)) I λs1 I1 k1=>?_
 refine ap (eA ?_)
 have J1:aa B.f s1 ([bE b w X 6,pL X.wd (tL ws) we]++([bD L,pL X.told (tL av) ae]++(jS (PB b w) L p ti 3 tl++R))) (n+200) tk:=I1.ord 4 [0,2,1,3]
 refine fz hA (Ez b X.kk w X n tk (tL ws) we) rfl nP nP J1 λs2 I2 k2=>?_
 have J2:aa B.f s2 ([pI n (X.wd+200) ((0:Nat):Int),pL X.wd (tL ws) we,c5 b w (n+2) false 0 .none,pL (n+1) (tL []) 0]++([bE b w X 6,bD L,pL X.told (tL av) ae]++(jS (PB b w) L p ti 3 tl++R))) (n+3+200) tk:=I2.ord 7 [2,1,4,3,0,5,6]
 refine cx oW (J2.has (pI n (X.wd+200) ((0:Nat):Int)) (.head _)) ?_
 refine KA (hA.uq (w4 ..)) (by lia) hw ws.length 0 false (n+3) _ 0 0 .none [] s2 (by lia) rfl rfl J2 ?_
 intro s3 n3 tk3 ae3 dk3 dv3 av3 hav3 I3 k3
 rw[show decide (0<ws.length)=true by rw[h3];rfl]at I3
 have J3:aa B.f s3 ([c5 b w (n+2) true dk3 dv3]++([pL X.wd (tL ws) we,pL (n+1) (tL av3) ae3,bE b w X 6,bD L,pL X.told (tL av) ae]++(jS (PB b w) L p ti 3 tl++R))) (n3+200) tk3:=I3.ord 6 [1,0,2,3,4,5]
 refine rF hA (EC b X.kk w X n tk (tL ws) we n3 tk3 dk3 dv3) nP nP J3 λs4 I4 k4=>ap ?_
 have hs:(tL av).size=(tL av3).size:=by
  have h1:=congrArg N9 hav
  have h2:=congrArg N9 hav3
  simp only[NM]at h1 h2
  rw[aJ,aJ];lia
 show wpAny _ _ (richCompare .NotEq (.ref (X.told+200)) (.ref (n+1+200))) _ _ s4
 refine lM hA F.slot_list_ne (mh (xs:=tL av) (n:=ae) (ys:=tL av3) (m:=ae3) (r:=false) hs (λ_=>true) (λj h1 h2=>?_) (by simp)) I4 (by exact .tail _ (.tail _ (.tail _ (.tail _ (.head _))))) (by exact .tail _ (.head _)) ?_
 ·rw[aJ]at h1 h2
  have e1:=cj (NZ h1)
  have e2:=cj (NZ h2)
  have f1:(tL av)[j]=.str av[j].1 av[j].2:=by
   have:=O5 (xs:=tL av) (i:=j) (by rw[aJ];exact h1)
   rw[this]at e1;exact Oj.inj e1
  have f2:(tL av3)[j]=.str av3[j].1 av3[j].2:=by
   have:=O5 (xs:=tL av3) (i:=j) (by rw[aJ];exact h2)
   rw[this]at e2;exact Oj.inj e2
  have h5:(av.map (·.1.cps.toList))[j]?=(av3.map (·.1.cps.toList))[j]?:=by rw[hav,hav3]
  rw[N7,N7,NZ h1,NZ h2]at h5
  have h6:av[j].1.cps.toList=av3[j].1.cps.toList:=Oj.inj h5
  have h7:av[j].1=av3[j].1:=by rw[<-fj av[j].1,h6,fj]
  rw[f1,f2]
  have:=EqGives.str av[j].1 av3[j].1 av[j].2 av3[j].2
  rw[show(av[j].1==av3[j].1)=true by rw[h7];simp]at this
  exact this
 refine PyProof.Rows.isTrue_or (iN ?_)
 have J4:aa B.f s4 ([bD L,jc (PB b w) L 3 tl,jb L]++([pL X.wd (tL ws) we,pL (n+1) (tL av3) ae3,bE b w X 6,pL X.told (tL av) ae]++(vy (PB b w) L p ti [] L.pe++R))) (n3+200) tk3:=
  (jT (M:=[pL X.wd (tL ws) we,pL (n+1) (tL av3) ae3,bE b w X 6,bD L,pL X.told (tL av) ae]) I4).ord 7 [3,5,6,0,1,2,4]
 refine rF hA (ED b w n3 tk3 tl L 3) (fc ⟨fq (by decide),bu⟩) nP J4 λs5 I5 k5=>ap ?_
 refine PyProof.Rows.isTrue_or_nil ?_
 show wpAny _ _ (execs [] aE) _ _ s5
 refine wpAny_pure (h s5 n3 (tk3+2) ?_ (((((k1.trans k2).trans k3).trans k4).trans k5)))
 have J5:aa B.f s5 ([pL X.wd (tL ws) we,bE b w X 6,bD L,pL X.told (tL av) ae,pL (n+1) (tL av3) ae3]++(bg (PB b w) L (p:Int) ti 3 tl++R)) (n3+200) (tk3+2):=
  xg (M:=[pL X.wd (tL ws) we,bE b w X 6,bD L,pL X.told (tL av) ae,pL (n+1) (tL av3) ae3]) (pbs:=[]) (e:=L.pe) (I5.ord 7 [3,5,0,6,4,1,2])
 have J6:aa B.f s5 ([pL (n+1) (tL av3) ae3,bE b w X 6,bD L,pL X.wd (tL ws) we,pL X.told (tL av) ae]++(bg (PB b w) L (p:Int) ti 3 tl++R)) (n3+200) (tk3+2):=J5.ord 5 [4,1,2,0,3]
 exact J6.sub (OE _ _)
end
end Mine

namespace Mine
open PySem
theorem L6 {p:Nat->Prop}{m:Nat}(h:m<=16)(h0:p 0)(h1:p 1)(h2:p 2)(h3:p 3)(h4:p 4)(h5:p 5)(h6:p 6)(h7:p 7)(h8:p 8)(h9:p 9)(h10:p 10)(h11:p 11)(h12:p 12)(h13:p 13)(h14:p 14)(h15:p 15)(h16:p 16):p m:=by
 have:∀x∈[0,1,2,3,4,5,6,7,8,9,10,11,12,13,14,15,16],p x:=by
  repeat' refine fc ⟨by assumption,?_⟩
  exact λ_ h=>nomatch h
 exact this m (Q4.mpr (Qy h))
abbrev Ff (b:Bool)(w:World)(L:Lx)(n tk:Nat)(lin:Int)(tl:Nat)(x:Str)(t:Nat)(r:List Value)(e m:Nat):SD:=⟨[0,0,0],[.b,.b,.a,bf,j0,.s,bf,az,.b,.b,.b,.i,az,.b,.b,.b,az,az,.b,ac,au,au,.i,au,.h [2],bf,az,.b,.b,.b,.i,az,.b,.b,.b,az,az,.b,ac,au,au,au,au,.x (G3 (L.pb+200) (.str x t)) [2],fV],[aI ((m+1:Nat):Int)],⟨aA (fp L.x),[(fp L.x,kr)],JL (PB b w) L lin tl (.str x t::r) e,n+200,tk⟩,
 [⟨bc "list.__len__" [.ref (L.10+200)],aI ((m+1:Nat):Int),[((L.10+200),ab (Value.str x t::r).toArray e)]⟩],⟨.pure (.done (.ret (.str x t))),[],[(L.dx+200,fW (PB b w) L.k1 L.k2 L.k3 L.k4 lin tl L.t3 (L.st+200) (L.pb+200)),(L.x+200,jK (L.dx+200)),(L.pb+200,ab ((.str x t::r).toArray.eraseIdxIfInBounds 0) (G4 (.str x t::r).toArray e))],n+201,tk+6⟩,[⟨bc "list.pop" [.ref (L.10+200),.int ((0:Nat):Int) (tk+5)],G3 (L.pb+200) (.str x t),[((L.10+200),ab (Value.str x t::r).toArray e)]⟩]⟩
theorem Be (b:Bool)(w:World)(L:Lx)(n tk:Nat)(lin:Int)(tl:Nat)(x:Str)(t:Nat)(r:List Value)(e m:Nat)(hm:m<=16):SK b w (Ff b w L n tk lin tl x t r e m):=by apply L6 hm<;>cases b<;>kernel_rfl
section
variable{b:Bool}{w:World}{B:Bx (KL (PB b w))}{A:Around}{L:Lx}
inductive Gw (b:Bool)(w:World)(B:Bx (KL (PB b w)))(L:Lx)(x:Str)(t:Nat)(e:Nat)(r:List Value)(i:Nat)(n:Nat)(ti:Nat)(lin:Int)(tl:Nat)(s:Shared)(res:Result)(s':Shared):Prop
 | mk (n' tk':Nat) (h1:res=.ok (.ret (.str x t))) (h2:aa B.f s' (ai (PB b w) L (i:Int) ti lin tl r (e+1)) (n'+200) tk') (h3:bj [L.dx+200,L.x+200,L.pb+200] s s') (h4:n<=n'):Gw b w B L x t e r i n ti lin tl s res s'
theorem lN {lv:Nat}(hA:ad lv A){x:Str}{t e:Nat}{r:List Value}(hr:r.length<=16){i n tk ti:Nat}{lin:Int}{tl:Nat}{s:Shared}(I:aa B.f s (ai (PB b w) L (i:Int) ti lin tl (.str x t::r) e) (n+200) tk) :
  codeAny (Mo PW (WB b w)) A (fp L.x) (Gw b w B L x t e r i n ti lin tl s) s:=by
 refine dz ?_
 have J:=I.sel [7,8,9] (by decide)
 refine iA (hB:=B.ext) (ax _) hA.depth hA.units hA.handled (Be b w L n tk lin tl x t r e r.length (by lia)) (fc ⟨rW (vs:=.str x t::r) rfl,N3 _⟩) (fc ⟨pU (by lia),N3 _⟩) J λs1 I1 k1=>?_
 rw[G5]at I1
 have M:=aa.step [0,1,2,3,4,5,6] [7,8,9] (by decide) I I1 k1 (λx hx=>.inl hx)
 exact λ_ _ _=>⟨n+1,tk+6,rfl,M,k1,Pj n⟩
end
end Mine

namespace Mine
abbrev Wd:=List Nat
structure Nd where
 d:Nat
 r:Wd
 A:List Wd
 B:List Wd
noncomputable def Nd.key (N:Nd):List Nat:=Oe N.d 46++N.r
structure Fd where
 A:List Wd
 B:List Wd
 d:Nat
noncomputable def bl (W:List Wd):List Nd:=W.map λc=>⟨1,c,[c],[]⟩
noncomputable def cC (N:Nd)(c:Wd):Option (Wd×List Wd×List Wd):=
 if N.d=1/\c=N.r then none
 else if N.r <+: c then some (c.drop N.r.length,N.B++[c],N.A)
 else if c <+: N.r then some (N.r.drop c.length,N.A,N.B++[c])
 else none
abbrev Sf:=List Nd×List Fd
def bG (m:Nat)(N:Nd)(S:Sf)(c:Wd):Sf:=
 match cC N c with
 | none=>S
 | some (more,a,b)=>if more=[]then(S.1,S.2++[⟨a,b,N.d+1⟩])else if more∈(S.1.drop m).map (·.r)then S else(S.1++[⟨N.d+1,more,a,b⟩],S.2)
def lO (W:List Wd)(i:Nat)(S:Sf):Sf:=match S.1[i]? with|none=>S|some N=>W.foldl (bG W.length N) S
def am (W:List Wd):Nat->Sf
 | 0=>(bl W,[])
 | k+1=>lO W k (am W k)
def rg (W:List Wd)(k:Nat):Prop:=∀j,j<k->(am W j).2=[]/\j<(am W j).1.length
end Mine

namespace Mine
open PySem PyProof.Rows
structure bm where
 N:Nd
 (kt tp a b ea eb:Nat)
 (La Lb:List Tx)
abbrev bm.own (o:bm):aK:=[cM o.tp o.a o.b,pL o.a (tL o.La) o.ea,pL o.b (tL o.Lb) o.eb]
structure bm.Ok (R:aK)(o:bm):Prop where
 own:∀p∈o.own,p∈R
 ea:o.La.map (·.1.cps.toList)=o.N.A
 eb:o.Lb.map (·.1.cps.toList)=o.N.B
noncomputable def cg (ns:List bm):Dk:=ns.map λo=>(⟨o.N.key.toArray⟩,o.kt,.ref (o.tp+200))
theorem qQ (ns:List bm)(o:bm):cg (ns++[o])=cg ns++[(⟨o.N.key.toArray⟩,o.kt,.ref (o.tp+200))]:=by simp[cg]
theorem qR {ns:List bm}{k:Str}(h:∀o∈ns,o.N.key≠k.cps.toList):bM (cg ns) k=none:=by
 unfold bM cg
 rw[Pf,Ps]
 intro x hx
 obtain⟨o,ho,rfl⟩:=NL.mp hx
 simp only[decide_eq_true_eq]
 intro e
 exact h o ho (by rw[<-e])
theorem Fg {ns:List bm}{o:bm}(ho:o∈ns)(hu:∀o'∈ns,o'.N.key=o.N.key->o'=o):bM (cg ns) ⟨o.N.key.toArray⟩=some (.ref (o.tp+200)):=by
 unfold bM cg
 cases h:(ns.map λo=>((⟨o.N.key.toArray⟩,o.kt,.ref (o.tp+200)):Str×Nat×Value)).find? λx=>decide (x.1=⟨o.N.key.toArray⟩)with
 | none =>
  rw[Ps]at h
  have:=h _ (NL.mpr ⟨o,ho,rfl⟩)
  simp at this
 | some x =>
  have h1:=QS h
  obtain⟨o',ho',rfl⟩:=NL.mp (Qx h)
  have h2:(⟨o'.N.key.toArray⟩:Str)=⟨o.N.key.toArray⟩:=by simpa using h1
  have h3:o'.N.key=o.N.key:=by
   have:=congrArg (λz:Str=>z.cps.toList) h2
   simpa using this
  rw[hu o' ho' h3];rfl
structure xi (ws C:List Tx)(ns:List bm)(qs:List Tx)(R:aK):Prop where
 nd:(C.map (·.1.cps.toList)).Nodup
 ln:C.length<=ws.length
 wd:∀p∈C,qy p.1.cps.toList/\∃q∈ws,q.1=p.1
 hns:ns.map (·.N)=bl (C.map (·.1.cps.toList))
 ok:∀o∈ns,o.Ok R
 hqs:qs.map (·.1.cps.toList)=ns.map (·.N.key)
theorem mW (W:List Wd):(bl W).map Nd.key=W.map (46::·):=by
 unfold bl;rw[OL];rfl
theorem xi.more {ws C:List Tx}{ns:List bm}{qs:List Tx}{R1:aK}(ok1:xi ws C ns qs R1){x:Tx}(hxw:qy x.1.cps.toList)(hx:x∈ws)(hm:x.1.cps.toList∉C.map (·.1.cps.toList))(hl:C.length+1<=ws.length){o:bm}{t0 tp a c v u kt:Nat}(ho:o=⟨⟨1,x.1.cps.toList,[x.1.cps.toList],[]⟩,t0,tp,a,c,0,0,[(x.1,u)],[]⟩){k:Str}(ekey:(⟨o.N.key.toArray⟩:Str)=k) :
  xi ws (C++[(x.1,v)]) (ns++[o]) (qs++[(k,kt)]) (o.own++R1):=by
 refine⟨?_,by rw[NR,OJ];exact hl,λp hp=>?_,?_,λo' ho'=>?_,?_⟩
 ·rw[NO,Oh]
  refine⟨ok1.nd,by simp,λa ha c hc e=>?_⟩
  have hc':c=x.1.cps.toList:=by simpa using hc
  exact hm (by rw[<-hc',<-e];exact ha)
 ·rcases NK.mp hp with q|q
  ·exact ok1.wd p q
  ·rw[NN.mp q];exact⟨hxw,x,hx,rfl⟩
 ·rw[NO,ok1.hns,NO,bl,bl,NO,ho];rfl
 ·rcases NK.mp ho' with q|q
  ·have:=ok1.ok o' q
   exact⟨λp hp=>NK.mpr (.inr (this.own p hp)),this.ea,this.eb⟩
  ·rw[NN.mp q]
   exact⟨λp hp=>NK.mpr (.inl hp),by rw[ho];rfl,by rw[ho];rfl⟩
 ·rw[NO,NO,ok1.hqs]
  refine congrArg (λz=>_++[z]) ?_
  show k.cps.toList=o.N.key
  rw[<-ekey]
section
variable{b:Bool}{w:World}{B:Bx (KL (PB b w))}{A:Around}{s:Shared}{R:aK}
theorem Bf:qI.2=[Af 0]:=by kernel_rfl
inductive L7 (b:Bool)(w:World)(B:Bx (KL (PB b w)))(s:Shared)(R:aK)(it:Nat)(ae:Nat)(p:Nat)(ti:Nat)(tl:Nat)(X:Lv)(ws:List Tx)(av:List Tx)(L:Lx)(left:Nat)(s':Shared):Prop
 | mk (i n' tk' ce' de' qe':Nat) (X':Lv) (C:List Tx) (ns:List bm) (qs:List Tx) (R':aK) (h1:i+left=3) (h2:X'.kk=X.kk) (h3:X'.told=X.told) (h4:xi ws C ns qs R') (h5:(0<i->1<=C.length)) (h6:C.length<=i) (h7:R.Sublist R') (h8:aa B.f s' ([pI it (X'.told+200) (i:Int),pL X'.told (tL av) ae,bE b w X' (if decide (0<i)=true then 9 else 8),pL X'.cd (tL C) ce',pD X'.rd (a7 (PB b w) (cg ns)) de',bD L]++(ai (PB b w) L (p:Int) ti 3 tl (bK qs) qe'++R')) (n'+200) tk') (h9:bZ s s'):L7 b w B s R it ae p ti tl X ws av L left s'
theorem Bg {lv:Nat}(hA:ad lv A)(hlv:lv<=8){it n tk ae p ti tl:Nat}{X:Lv}{ws av:List Tx}(h3:ws.length=3)(hw:∀p∈ws,qy p.1.cps.toList)(hav:av.map (·.1.cps.toList)=ws.map (λx=>46::x.1.cps.toList)){L:Lx}{Q:Result->aP}
  (I:aa B.f s ([pI it (X.told+200) ((0:Nat):Int),pL X.told (tL av) ae,bE b w X 8,pL X.cd (tL []) 0,pD X.rd (a7 (PB b w) []) 0,bD L]++(ai (PB b w) L (p:Int) ti 3 tl [] L.pe++R)) (n+200) tk)
  (h:∀(s':Shared) (X':Lv) (C:List Tx) (ns:List bm) (qs:List Tx) (n' tk' ce' de' qe':Nat) (R':aK),X'.kk=X.kk->xi ws C ns qs R'->1<=C.length->R.Sublist R' ->
   aa B.f s' ([pL X'.told (tL av) ae,bE b w X' 9,pL X'.cd (tL C) ce',pD X'.rd (a7 (PB b w) (cg ns)) de',bD L]++(ai (PB b w) L (p:Int) ti 3 tl (bK qs) qe'++R')) (n'+200) tk'->bZ s s'->Q (.ok .next) s') :
  codeAny (Mo PW (WB b w)) A (mU qI it) Q s:=by
 have hal:av.length=3:=by have:=congrArg N9 hav;simp at this;lia
 refine codeAny_forLoop (L7 b w B s R it ae p ti tl X ws av L) ?_ 3
  ⟨0,n,tk,0,0,L.pe,X,[],[],[],R,rfl,rfl,rfl,⟨by simp,OI _,λ_ q=>(nomatch q),rfl,λ_ q=>(nomatch q),rfl⟩,λq=>absurd q (by decide),NT _,PF _,I,.rfl'⟩ (λ_=>by rfl)
 rintro left s1 ⟨i,n1,tk1,ce1,de1,qe1,X1,C,ns,qs,R1,hi,ek1,et1,ok1,hC1,hCi,hR1,I1,k1⟩
 cases left with
 | zero =>
  refine bN ?_
  have e:i=3:=by lia
  subst e
  refine rF hA (i5 b w it n1 tk1 3 X1.told ae (tL av)) nP (fc ⟨aU (by rw[N8,aJ];lia),bu⟩) (R:=[bE b w X1 9,pL X1.cd (tL C) ce1,pD X1.rd (a7 (PB b w) (cg ns)) de1,bD L]++(ai (PB b w) L (p:Int) ti 3 tl (bK qs) qe1++R1)) I1 λs2 I2 k2=>ap ?_
  refine wpAny_execs_nil ?_
  exact h s2 X1 C ns qs (n1+2) tk1 ce1 de1 qe1 R1 ek1 ok1 (hC1 (by decide)) hR1 I2 (k1.trans k2)
 | succ left =>
  with_reducible refine gx (l:=av) (i:=i) (by lia) λg hg=>?_
  with_reducible refine gx (l:=ws) (i:=i) (by lia) λx hx=>?_
  have hgx:g.1.cps.toList=46::x.1.cps.toList:=by
   have h1:(av.map (·.1.cps.toList))[i]?=(ws.map (λx=>46::x.1.cps.toList))[i]?:=by rw[hav]
   rw[N7,N7,hg,hx]at h1
   exact Oj.inj h1
  have hxw:=hw x (NS hx)
  refine bN ?_
  refine rF hA (i4 b w it n1 tk1 i X1.told ae (tL av) (.str g.1 g.2)) nP (fc ⟨aH (cj hg),bu⟩) (R:=[bE b w X1 (if decide (0<i)=true then 9 else 8),pL X1.cd (tL C) ce1,pD X1.rd (a7 (PB b w) (cg ns)) de1,bD L]++(ai (PB b w) L (p:Int) ti 3 tl (bK qs) qe1++R1)) I1 λs2 I2 k2=>ap ?_
  refine fy ?_
  have J2:aa B.f s2 ([bE b w X1 (if decide (0<i)=true then 9 else 8)]++([pI it (X1.told+200) ((i:Int)+1),pL X1.told (tL av) ae,pL X1.cd (tL C) ce1,pD X1.rd (a7 (PB b w) (cg ns)) de1,bD L]++(ai (PB b w) L (p:Int) ti 3 tl (bK qs) qe1++R1))) (n1+200) tk1:=I2.ord 6 [2,0,1,3,4,5]
  refine rF hA (AE b X1.kk (decide (0<i)) w X1 n1 tk1 g.1 g.2) nP nP J2 λs3 I3 k3=>ap ?_
  let X3:Lv:={X1 with kk:=X1.kk,tok:=g.1,ttk:=g.2,q:=qU X1.q 11 (if decide (0<i)=true then X1.q 11 else tk1)}
  have ek3:X3.kk=X1.kk:=rfl
  have et3:X3.told=X1.told:=rfl
  have ec3:X3.cd=X1.cd:=rfl
  have er3:X3.rd=X1.rd:=rfl
  have etk:X3.tok=g.1:=rfl
  rw[Bf]
  refine wpAny_execs_cons (aX ?_)
  have fin:∀(s5:Shared) (n5 tk5 ce5 de5 qe5:Nat) (C5:List Tx) (ns5:List bm) (qs5:List Tx) (R5:aK),xi ws C5 ns5 qs5 R5->1<=C5.length->C5.length<=i+1->R.Sublist R5->bZ s s5 ->
    aa B.f s5 ([bE b w X3 9,pD X3.rd (a7 (PB b w) (cg ns5)) de5,pL X3.cd (tL C5) ce5,bD L,pI it (X3.told+200) ((i:Int)+1),pL X3.told (tL av) ae]++(ai (PB b w) L (p:Int) ti 3 tl (bK qs5) qe5++R5)) (n5+200) tk5 ->
    ∃m,m<left+1/\L7 b w B s R it ae p ti tl X ws av L m s5:=by
   intro s5 n5 tk5 ce5 de5 qe5 C5 ns5 qs5 R5 ok5 h1 h2 h4 k5 I5
   refine⟨left,Og _,i+1,n5,tk5,ce5,de5,qe5,X3,C5,ns5,qs5,R5,by lia,ek3.trans ek1,et3.trans et1,ok5,λ_=>h1,h2,h4,?_,k5⟩
   rw[show decide (0<i+1)=true by simp,show(((i+1:Nat):Int))=(i:Int)+1 by lia]
   exact I5.ord 6 [4,5,0,2,1,3]
  have hkeys:∀o∈ns,∃c,o.N.key=46::c/\c∈C.map (·.1.cps.toList):=λo ho=>by
   have h1:o.N.key∈(ns.map (·.N)).map Nd.key:=NL.mpr ⟨o.N,NL.mpr ⟨o,ho,rfl⟩,rfl⟩
   rw[ok1.hns,mW]at h1
   obtain⟨c,hc,e⟩:=NL.mp h1
   exact⟨c,e.symm,hc⟩
  have hnl:ns.length=C.length:=by have:=congrArg N9 ok1.hns;simpa[bl]using this
  have hql:qs.length=C.length:=by have:=congrArg N9 ok1.hqs;simp at this;lia
  have hdl:(cg ns).length<=1000:=by unfold cg;rw[NM];lia
  by_cases hm:x.1.cps.toList∈C.map (·.1.cps.toList)
  ·-- it is there
   have hp:(bM (cg ns) X3.tok).isSome=true:=by
    have h1:46::x.1.cps.toList∈(ns.map (·.N)).map Nd.key:=by rw[ok1.hns,mW];exact NL.mpr ⟨_,hm,rfl⟩
    obtain⟨N,hN,e⟩:=NL.mp h1
    obtain⟨o,ho,rfl⟩:=NL.mp hN
    cases q:bM (cg ns) X3.tok with
    | some v=>rfl
    | none =>
     exfalso
     unfold bM cg at q
     rw[Pf,Ps]at q
     have:=q _ (NL.mpr ⟨o,ho,rfl⟩)
     simp only[decide_eq_true_eq]at this
     apply this
     rw[etk,e,<-hgx,fj]
   have J3:aa B.f s3 ([bE b w X3 9,pD X3.rd (a7 (PB b w) (cg ns)) de1]++([pL X3.cd (tL C) ce1,bD L,pI it (X3.told+200) ((i:Int)+1),pL X3.told (tL av) ae]++(ai (PB b w) L (p:Int) ti 3 tl (bK qs) qe1++R1))) (n1+200) (tk1+1):=I3.ord 6 [0,4,3,5,1,2]
   refine rF hA (AF b X3.kk w X3 n1 (tk1+1) (a7 (PB b w) (cg ns)) de1) (fc ⟨fZ (by lia) hp,bu⟩) nP J3 λs4 I4 k4=>ap ?_
   dsimp only[vg]at I4
   refine wpAny_execs_nil ?_
   exact fin s4 n1 _ ce1 de1 qe1 C ns qs R1 ok1 (by cases hC:C with|nil=>rw[hC]at hm;exact nomatch hm|cons=>simp) (by lia) hR1 (((k1.trans k2).trans k3).trans k4) I4
  ·-- a new one
   have hnone:bM (cg ns) X3.tok=none:=qR λo ho e=>by
    obtain⟨c,e1,e2⟩:=hkeys o ho
    rw[etk,hgx,e1]at e
    rw[List.cons.injEq]at e
    exact hm (e.2▸e2)
   have hdrop:(46::x.1.cps.toList).drop 1=x.1.cps.toList:=rfl
   have l4:=hxw.l4
   have hcut:∀(a t ti':Nat),ak PW (WB b w) (KL (PB b w)) 9000 ⟨bc "str.__getitem__" [.str X3.tok t,.ref a],aG x.1 (uI (46::x.1.cps.toList).length x.1.cps.toList.length t) (rc (46::x.1.cps.toList).length x.1.cps.toList.length),[(a,bq (.int ((1:Nat):Int) ti') .none .none)]⟩:=λa t ti'=>by
    have:=ii (prog:=PW) (w:=WB b w) (K:=KL (PB b w)) (U:=9000) (x:=46::x.1.cps.toList) (y:=x.1.cps.toList) (t:=t) (a:=a) (i:=1) (iz:=((1:Nat):Int)) (ti:=ti') rfl (by simp) hdrop (by lia)
    rw[fj]at this
    rw[etk,<-fj g.1,hgx]
    exact this
   with_reducible refine nm (uI (46::x.1.cps.toList).length x.1.cps.toList.length X3.ttk) λcf hcf=>?_
   with_reducible refine nm (rc (46::x.1.cps.toList).length x.1.cps.toList.length) λcd hcd=>?_
   rw[<-hcd]at hcut
   have J3:aa B.f s3 ([bE b w X3 9,pD X3.rd (a7 (PB b w) (cg ns)) de1,pL X3.cd (tL C) ce1,bD L,jc (PB b w) L 3 tl,jb L]++([pI it (X3.told+200) ((i:Int)+1),pL X3.told (tL av) ae]++(vy (PB b w) L p ti (bK qs) qe1++R1))) (n1+200) (tk1+1):=
    (jT (M:=[bE b w X3 9,pI it (X3.told+200) ((i:Int)+1),pL X3.told (tL av) ae,pL X3.cd (tL C) ce1,pD X3.rd (a7 (PB b w) (cg ns)) de1,bD L]) I3).ord 8 [0,4,3,5,6,7,1,2]
   refine fz hA (AG b X3.kk w X3 n1 (tk1+1) (a7 (PB b w) (cg ns)) de1 (tL C) ce1 L 3 tl x.1 cf cf cd cd (PyData.keyHash (PB b w) X3.tok)) rfl
    (fc ⟨fZ (by lia) (by rw[hnone];rfl),fc ⟨by rw[hcf];exact hcut _ _ _,fc ⟨by rw[hcf];exact hcut _ _ _,bu⟩⟩⟩) (fc ⟨aD (by rw[aJ];lia),fc ⟨gY hdl hnone,bu⟩⟩) J3 λs4 I4 k4=>?_
   dsimp only[oK]at I4
   with_reducible refine nm (⟨⟨1,x.1.cps.toList,[x.1.cps.toList],[]⟩,X3.ttk,n1+4,n1+2,n1+3,0,0,[(x.1,cf (tk1+1+2+cd+1))],[]⟩:bm) λo ho=>?_
   have ekey:(⟨o.N.key.toArray⟩:Str)=X3.tok:=by
    rw[ho,etk,<-fj g.1,hgx];rfl
   have edk:(a7 (PB b w) (cg ns)).push ⟨PyData.keyHash (PB b w) X3.tok,.str X3.tok X3.ttk,.ref (n1+4+200)⟩=a7 (PB b w) (cg (ns++[o])):=by
    rw[iP,qQ,ekey,ho]
   rw[cU,edk]at I4
   have J4:aa B.f s4 (ai (PB b w) L (p:Int) ti 3 tl (bK qs) qe1++([bE b w X3 9,pD X3.rd (a7 (PB b w) (cg (ns++[o]))) (de1+1),pL X3.cd (tL (C++[(x.1,cf (tk1+1+2))])) (bU (tL C) (.str x.1 (cf (tk1+1+2))) ce1),bD L,pI it (X3.told+200) ((i:Int)+1),pL X3.told (tL av) ae]++(o.own++R1))) (n1+5+200) (tk1+1+2+cd+1+cd+1):=by
    have h1:aa B.f s4 ([bE b w X3 9,pD X3.rd (a7 (PB b w) (cg (ns++[o]))) (de1+1),pL X3.cd (tL (C++[(x.1,cf (tk1+1+2))])) (bU (tL C) (.str x.1 (cf (tk1+1+2))) ce1),bD L,pI it (X3.told+200) ((i:Int)+1),pL X3.told (tL av) ae,cM (n1+4) (n1+2) (n1+3),pL (n1+2) (tL [(x.1,cf (tk1+1+2+cd+1))]) 0,pL (n1+3) (tL []) 0]++(ai (PB b w) L (p:Int) ti 3 tl (bK qs) qe1++R1)) (n1+5+200) (tk1+1+2+cd+1+cd+1):=
     xg (M:=[bE b w X3 9,pD X3.rd (a7 (PB b w) (cg (ns++[o]))) (de1+1),pL X3.cd (tL (C++[(x.1,cf (tk1+1+2))])) (bU (tL C) (.str x.1 (cf (tk1+1+2))) ce1),bD L,pI it (X3.told+200) ((i:Int)+1),pL X3.told (tL av) ae,cM (n1+4) (n1+2) (n1+3),pL (n1+2) (tL [(x.1,cf (tk1+1+2+cd+1))]) 0,pL (n1+3) (tL []) 0]) (I4.ord 11 [0,1,2,3,9,10,8,6,7,4,5])
    have eo:o.own=[cM (n1+4) (n1+2) (n1+3),pL (n1+2) (tL [(x.1,cf (tk1+1+2+cd+1))]) 0,pL (n1+3) (tL []) 0]:=by rw[ho]
    rw[eo]
    exact h1.sw
   refine codeAny_mono (mL (B:=B.more _) (hA.uq (tr ..)) (r:=bK qs) (by rw[NM];lia) J4.fr) ?_
   rintro r5 s5 ⟨n5,tk5,rfl,I5,k5,_⟩
   have J5:=J4.un I5
   refine rF hA (AH b X3.kk w X3 n1 (tk1+1) (a7 (PB b w) (cg ns)) de1 (tL C) ce1 L 3 tl x.1 cf cf cd cd (PyData.keyHash (PB b w) X3.tok) n5 tk5) nP nP J5 λs6 I6 k6=>ap ?_
   dsimp only[vh]at I6
   refine wpAny_execs_nil ?_
   have eq:bK qs++[.str X3.tok X3.ttk]=bK (qs++[(X3.tok,X3.ttk)]):=by simp
   rw[eq]at I6
   have ok6:=ok1.more (v:=cf (tk1+1+2)) (kt:=X3.ttk) hxw (NS hx) hm (by lia) ho ekey
   exact fin s6 n5 tk5 _ _ _ _ _ _ _ ok6 (by simp) (by rw[NR,OJ];lia) (hR1.trans (Ou _ _)) ((((((k1.trans k2).trans k3).trans k4).trans k5.sm)).trans k6) (I6.sw)
end
theorem xG {X:Lv}(h:X.go=true):(fA X X.kk true X.pm)=X:=by rw[<-h]
theorem Ju {X:Lv}(h:X.go=true)(h2:X.pm=true):(fA X X.kk true true)=X:=by cases X;cases h;cases h2;rfl
structure gm (X X':Lv):Prop where
 kk:X'.kk=X.kk
 go:X'.go=X.go
 cd:X'.cd=X.cd
 met:X'.met=X.met
 fd:X'.fd=X.fd
 rd:X'.rd=X.rd
 ah:X'.ah=X.ah
 bk:X'.bk=X.bk
 rest:X'.rest=X.rest
 dots:X'.dots=X.dots
 tok:X'.tok=X.tok
theorem gm.trans {X Y Z:Lv}(a:gm X Y)(c:gm Y Z):gm X Z:=⟨c.kk.trans a.kk,c.go.trans a.go,c.cd.trans a.cd,c.met.trans a.met,c.fd.trans a.fd,c.rd.trans a.rd,c.ah.trans a.ah,c.bk.trans a.bk,c.rest.trans a.rest,c.dots.trans a.dots,c.tok.trans a.tok⟩
theorem gm.rfl' {X:Lv}:gm X X:=⟨rfl,rfl,rfl,rfl,rfl,rfl,rfl,rfl,rfl,rfl,rfl⟩
structure Fo where
 o:bm
 (a td:Nat)
noncomputable def Fo.fd (f:Fo):Fd:=⟨f.o.N.A,f.o.N.B,f.o.N.d⟩
structure Fo.Ok (R:aK)(f:Fo):Prop where
 own:(Jt f.a f.o.tp ((f.o.N.d:Nat):Int) f.td)∈R
 o:f.o.Ok R
noncomputable def cE (fs:List Fo):aN:=(fs.map λf=>Value.ref (f.a+200)).toArray
theorem Bh (fs:List Fo)(f:Fo):(cE fs).push (.ref (f.a+200))=cE (fs++[f]):=by simp[cE]
theorem Bi (fs:List Fo):(cE fs).size=fs.length:=by simp[cE]
structure oX (S:Sf):Prop where
 nl:S.1.length<=17
 fl:S.2.length<=3
 nd:(S.1.map Nd.key).Nodup
 ok:∀M∈S.1,M.r≠[]/\(∀c∈M.r,c=102\/c=105)/\M.r.length<=4/\1<=M.d/\M.d<=40/\M.A.length<=40/\M.B.length<=40
structure fk (W:List Wd)(S:Sf)(ns:List bm)(ms:List Tx)(fs:List Fo)(qs:List Tx)(k:Nat)(R:aK):Prop where
 hns:ns.map (·.N)=S.1
 ok:∀o∈ns,o.Ok R
 hms:ms.map (·.1.cps.toList)=(S.1.drop W.length).map (·.r)
 hfs:fs.map Fo.fd=S.2
 fok:∀f∈fs,f.Ok R
 hqs:qs.map (·.1.cps.toList)=(S.1.drop k).map Nd.key
 wl:W.length<=S.1.length
 kl:k<=S.1.length
theorem bm.Ok.mono {R R':aK}{o:bm}(h:o.Ok R)(hs:∀p∈R,p∈R'):o.Ok R':=⟨λp hp=>hs p (h.own p hp),h.ea,h.eb⟩
theorem Fo.Ok.mono {R R':aK}{f:Fo}(h:f.Ok R)(hs:∀p∈R,p∈R'):f.Ok R':=⟨hs _ h.own,h.o.mono hs⟩
theorem fk.mono {W:List Wd}{S:Sf}{ns:List bm}{ms:List Tx}{fs:List Fo}{qs:List Tx}{k:Nat}{R R':aK}(h:fk W S ns ms fs qs k R)(hs:∀p∈R,p∈R'):fk W S ns ms fs qs k R':=
 ⟨h.hns,λo ho=>(h.ok o ho).mono hs,h.hms,h.hfs,λf hf=>(h.fok f hf).mono hs,h.hqs,h.wl,h.kl⟩
section
variable{b:Bool}{w:World}{B:Bx (KL (PB b w))}{A:Around}{s:Shared}{R:aK}
theorem KC {lv:Nat}(hA:ad lv A){st:Stmt}(hst:st=d6 0){X:Lv}(hgo:X.go=true){N:Nd}{c:Wd}(hw:X.word=⟨c.toArray⟩)(hr:X.rest=⟨N.r.toArray⟩)(hd:X.dots=((N.d+1:Nat):Int)){n tk:Nat}
  (I:aa B.f s ([cn b w X 11]++R) (n+200) tk) {Q:Flow->aP} {E:Value->aP}
  (h:∀(s':Shared) (n' tk':Nat),aa B.f s' ([cn b w X 11]++R) (n'+200) tk'->bZ s s'->Q (if N.d=1/\c=N.r then .cont else .next) s') :
  wpAny (Mo PW (WB b w)) A (exec st aE) Q E s:=by
 have J:aa B.f s ([cn b w (fA X X.kk true X.pm) 11]++R) (n+200) tk:=by rw[xG hgo];exact I
 by_cases h1:N.d=1
 ·by_cases h2:c=N.r
  ·rw[if_pos ⟨h1,h2⟩]at h
   refine rS hA hst (EO b X.kk X.pm w X n tk) (fc ⟨bJ (decide_eq_true (by rw[hd];lia)),fc ⟨bA (by rw[hw,hr,h2];simp),bu⟩⟩) nP J λs1 I1 k1=>?_
   rw[xG hgo]at I1
   exact h s1 n _ I1 k1
  ·rw[if_neg λq=>h2 q.2]at h
   refine rS hA hst (EN b X.kk X.pm w X n tk) (fc ⟨bJ (decide_eq_true (by rw[hd];lia)),fc ⟨bA (by rw[hw,hr];simpa using h2),bu⟩⟩) nP J λs1 I1 k1=>?_
   rw[xG hgo]at I1
   exact h s1 n _ I1 k1
 ·rw[if_neg λq=>h1 q.1]at h
  refine rS hA hst (EM b X.kk X.pm w X n tk) (fc ⟨bJ (decide_eq_false (by rw[hd];lia)),bu⟩) nP J λs1 I1 k1=>?_
  rw[xG hgo]at I1
  exact h s1 n _ I1 k1
theorem KD {lv:Nat}(hA:ad lv A){st:Stmt}(hst:st=d6 1){X:Lv}(hgo:X.go=true){o:bm}(ho:o.Ok R){c:Wd}(hw:X.word=⟨c.toArray⟩)(hr:X.rest=⟨o.N.r.toArray⟩)(hah:X.ah=o.a)(hbk:X.bk=o.b)(hcl:c.length<=4)(hrl:o.N.r.length<=4)(hbl:o.N.B.length<=40)(h0:¬(o.N.d=1/\c=o.N.r)){n tk:Nat}{M:aK}
  (I:aa B.f s ([cn b w X 11]++(M++R)) (n+200) tk) {Q:Flow->aP} {E:Value->aP}
  (hc:cC o.N c=none->∀(s':Shared) (n' tk':Nat),aa B.f s' ([cn b w X 11]++(M++R)) (n'+200) tk'->bZ s s'->Q .cont s')
  (h:∀(more:Wd) (a' b':List Wd),cC o.N c=some (more,a',b')->∀(s':Shared) (X':Lv) (o':bm) (n' tk':Nat) (N':aK),gm X X'->X'.pm=true->X'.more=⟨more.toArray⟩->X'.pair=o'.tp->o'.N=⟨o.N.d+1,more,a',b'⟩->o'.Ok (N'++R) ->
   aa B.f s' ([cn b w X' 11]++(M++(N'++R))) (n'+200) tk'->bZ s s'->Q .next s') :
  wpAny (Mo PW (WB b w)) A (exec st aE) Q E s:=by
 have hbR:(pL X.bk (tL o.Lb) o.eb)∈R:=by rw[hbk];exact ho.own _ (.tail _ (.tail _ (.head _)))
 have haR:(pL X.ah (tL o.La) o.ea)∈R:=by rw[hah];exact ho.own _ (.tail _ (.head _))
 have hLb:o.Lb.length<=40:=by have:=congrArg N9 ho.eb;rw[NM]at this;lia
 have ez:tL o.Lb++#[.str X.word X.tw]=tL (o.Lb++[(X.word,X.tw)]):=by rw[<-cU];simp
 have mapz:(o.Lb++[(X.word,X.tw)]).map (·.1.cps.toList)=o.N.B++[c]:=by
  rw[NO,ho.eb]
  refine congrArg (λz=>_++[z]) ?_
  show X.word.cps.toList=c
  rw[hw]
 obtain⟨R1,hp,I1⟩:=(show aa B.f s (([cn b w (fA X X.kk true X.pm) 11]++M)++R) (n+200) tk by rw[xG hgo];exact I.asc).tk hbR
 have J:aa B.f s ([cn b w (fA X X.kk true X.pm) 11,pL X.bk (tL o.Lb) o.eb]++(M++R1)) (n+200) tk:=by
  refine I1.perm ?_
  rw[NP]
  exact NQ _ (NX M [pL X.bk (tL o.Lb) o.eb] R1)
 have back:∀{s':Shared} {X':Lv} {tu:Addr×Obj} {n' tk':Nat},aa B.f s' ([cn b w X' 11,pL X.bk (tL o.Lb) o.eb,pL (n+1) (tL (o.Lb++[(X.word,X.tw)])) 0,tu]++(M++R1)) (n'+200) tk' ->
   aa B.f s' ([cn b w X' 11]++(M++([tu,pL (n+1) (tL (o.Lb++[(X.word,X.tw)])) 0]++R))) (n'+200) tk':=by
  intro s' X' tu n' tk' I'
  refine I'.perm (Q5 _ ?_)
  refine Qh ?_ (NQ M (NQ _ hp.symm))
  show((pL X.bk (tL o.Lb) o.eb)::(pL (n+1) (tL (o.Lb++[(X.word,X.tw)])) 0)::tu::(M++R1)).Perm (M++(tu::(pL (n+1) (tL (o.Lb++[(X.word,X.tw)])) 0)::(pL X.bk (tL o.Lb) o.eb)::R1))
  refine Qh ?_ (NX [tu,pL (n+1) (tL (o.Lb++[(X.word,X.tw)])) 0,pL X.bk (tL o.Lb) o.eb] M R1)
  exact(List.reverse_perm [tu,pL (n+1) (tL (o.Lb++[(X.word,X.tw)])) 0,pL X.bk (tL o.Lb) o.eb]).append_right _
 have padd:ak PW (WB b w) (KL (PB b w)) 9000 ⟨bc "list.__add__" [.ref (X.bk+200),.ref (n+200)],aR (ab (tL (o.Lb++[(X.word,X.tw)])) 0),[pL X.bk (tL o.Lb) o.eb,pL n #[.str X.word X.tw] 0]⟩:=by
  rw[<-ez];exact dY (by rw[aJ];simp;lia)
 by_cases h1:o.N.r <+: c
 ·have er:cC o.N c=some (c.drop o.N.r.length,o.N.B++[c],o.N.A):=by unfold cC;rw[if_neg h0,if_pos h1]
  have p1:∀t u:Nat,ak PW (WB b w) (KL (PB b w)) 9000 ⟨bc "str.startswith" [.str X.word t,.str X.rest u],aB true,[]⟩:=λt u=>by rw[hw,hr];exact dK (decide_eq_true h1)
  have p2:∀t:Nat,ak PW (WB b w) (KL (PB b w)) 9000 ⟨bc "len" [.str X.rest t],aL ((o.N.r.length:Nat):Int),[]⟩:=λt=>by rw[hr];exact bC (by simp[Str.length]) (by simp[Str.length];lia)
  have p3:∀t a u:Nat,ak PW (WB b w) (KL (PB b w)) 9000 ⟨bc "str.__getitem__" [.str X.word t,.ref a],aG ⟨(c.drop o.N.r.length).toArray⟩ (uI c.length (c.drop o.N.r.length).length t) (rc c.length (c.drop o.N.r.length).length),[(a,bq (.int ((o.N.r.length:Nat):Int) u) .none .none)]⟩:=λt a u=>by rw[hw];exact ii rfl h1.length_le rfl (by rw[Of];lia)
  refine rS hA hst (EP b X.kk X.pm w X n tk (tL o.Lb) (tL (o.Lb++[(X.word,X.tw)])) o.eb ((o.N.r.length:Nat):Int) ⟨(c.drop o.N.r.length).toArray⟩ (uI c.length (c.drop o.N.r.length).length X.tw) (rc c.length (c.drop o.N.r.length).length)) (fc ⟨p1 _ _,fc ⟨padd,fc ⟨p2 _,fc ⟨p3 _ _ _,bu⟩⟩⟩⟩) nP J λs2 I2 k2=>?_
  with_reducible refine nm ({X with kk:=X.kk,go:=true,pm:=true,pair:=n+2,more:=⟨(c.drop o.N.r.length).toArray⟩,tmo:=uI c.length (c.drop o.N.r.length).length X.tw (tk+3),q:=qU (qU X.q 19 (if X.pm then X.q 19 else tk)) 20 (if X.pm then X.q 20 else tk+3+rc c.length (c.drop o.N.r.length).length)}:Lv) λX2 hX2=>?_
  refine h _ _ _ er s2 X2 ⟨⟨o.N.d+1,c.drop o.N.r.length,o.N.B++[c],o.N.A⟩,0,n+2,n+1,X.ah,0,o.ea,o.Lb++[(X.word,X.tw)],o.La⟩ (n+4) (tk+3+rc c.length (c.drop o.N.r.length).length+1) [cM (n+2) (n+1) X.ah,pL (n+1) (tL (o.Lb++[(X.word,X.tw)])) 0] ?_ (by rw[hX2]) (by rw[hX2]) (by rw[hX2]) rfl ?_ ?_ k2
  ·rw[hX2];exact⟨rfl,hgo.symm,rfl,rfl,rfl,rfl,rfl,rfl,rfl,rfl,rfl⟩
  ·refine⟨λp hp'=>?_,mapz,ho.ea⟩
   simp only[N0,OX,or_false]at hp'
   rcases hp' with rfl|rfl|rfl
   ·exact .head _
   ·exact .tail _ (.head _)
   ·exact .tail _ (.tail _ haR)
  ·rw[hX2];exact back I2
 ·have p1:∀t u:Nat,ak PW (WB b w) (KL (PB b w)) 9000 ⟨bc "str.startswith" [.str X.word t,.str X.rest u],aB false,[]⟩:=λt u=>by rw[hw,hr];exact dK (decide_eq_false h1)
  by_cases h2:c <+: o.N.r
  ·have er:cC o.N c=some (o.N.r.drop c.length,o.N.A,o.N.B++[c]):=by unfold cC;rw[if_neg h0,if_neg h1,if_pos h2]
   have p4:∀t u:Nat,ak PW (WB b w) (KL (PB b w)) 9000 ⟨bc "str.startswith" [.str X.rest t,.str X.word u],aB true,[]⟩:=λt u=>by rw[hw,hr];exact dK (decide_eq_true h2)
   have p2:∀t:Nat,ak PW (WB b w) (KL (PB b w)) 9000 ⟨bc "len" [.str X.word t],aL ((c.length:Nat):Int),[]⟩:=λt=>by rw[hw];exact bC (by simp[Str.length]) (by simp[Str.length];lia)
   have p3:∀t a u:Nat,ak PW (WB b w) (KL (PB b w)) 9000 ⟨bc "str.__getitem__" [.str X.rest t,.ref a],aG ⟨(o.N.r.drop c.length).toArray⟩ (uI o.N.r.length (o.N.r.drop c.length).length t) (rc o.N.r.length (o.N.r.drop c.length).length),[(a,bq (.int ((c.length:Nat):Int) u) .none .none)]⟩:=λt a u=>by rw[hr];exact ii rfl h2.length_le rfl (by rw[Of];lia)
   refine rS hA hst (EQ b X.kk X.pm w X n tk (tL o.Lb) (tL (o.Lb++[(X.word,X.tw)])) o.eb ((c.length:Nat):Int) ⟨(o.N.r.drop c.length).toArray⟩ (uI o.N.r.length (o.N.r.drop c.length).length X.tre) (rc o.N.r.length (o.N.r.drop c.length).length)) (fc ⟨p1 _ _,fc ⟨p4 _ _,fc ⟨padd,fc ⟨p2 _,fc ⟨p3 _ _ _,bu⟩⟩⟩⟩⟩) nP J λs2 I2 k2=>?_
   with_reducible refine nm ({X with kk:=X.kk,go:=true,pm:=true,pair:=n+2,more:=⟨(o.N.r.drop c.length).toArray⟩,tmo:=uI o.N.r.length (o.N.r.drop c.length).length X.tre (tk+3),q:=qU (qU X.q 19 (if X.pm then X.q 19 else tk)) 20 (if X.pm then X.q 20 else tk+3+rc o.N.r.length (o.N.r.drop c.length).length)}:Lv) λX2 hX2=>?_
   refine h _ _ _ er s2 X2 ⟨⟨o.N.d+1,o.N.r.drop c.length,o.N.A,o.N.B++[c]⟩,0,n+2,X.ah,n+1,o.ea,0,o.La,o.Lb++[(X.word,X.tw)]⟩ (n+4) (tk+3+rc o.N.r.length (o.N.r.drop c.length).length+1) [cM (n+2) X.ah (n+1),pL (n+1) (tL (o.Lb++[(X.word,X.tw)])) 0] ?_ (by rw[hX2]) (by rw[hX2]) (by rw[hX2]) rfl ?_ ?_ k2
   ·rw[hX2];exact⟨rfl,hgo.symm,rfl,rfl,rfl,rfl,rfl,rfl,rfl,rfl,rfl⟩
   ·refine⟨λp hp'=>?_,ho.ea,mapz⟩
    simp only[N0,OX,or_false]at hp'
    rcases hp' with rfl|rfl|rfl
    ·exact .head _
    ·exact .tail _ (.tail _ haR)
    ·exact .tail _ (.head _)
   ·rw[hX2];exact back I2
  ·have er:cC o.N c=none:=by unfold cC;rw[if_neg h0,if_neg h1,if_neg h2]
   have p4:∀t u:Nat,ak PW (WB b w) (KL (PB b w)) 9000 ⟨bc "str.startswith" [.str X.rest t,.str X.word u],aB false,[]⟩:=λt u=>by rw[hw,hr];exact dK (decide_eq_false h2)
   have J':aa B.f s ([cn b w (fA X X.kk true X.pm) 11]++(M++R)) (n+200) tk:=by rw[xG hgo];exact I
   refine rS hA hst (ER b X.kk X.pm w X n tk) (fc ⟨p1 _ _,fc ⟨p4 _ _,bu⟩⟩) nP J' λs2 I2 k2=>?_
   rw[xG hgo]at I2
   exact hc er s2 n _ I2 k2
end
abbrev oY (f:Fo):Addr×Obj:=(f.a+200,Gt f.o.tp ((f.o.N.d:Nat):Int) f.td)
end Mine
namespace Mine
open PySem PyProof.Rows PySem.MeetsSeq
noncomputable def mu (m:Nat)(S:Sf)(N:Nd):Sf:=if N.r=[]then(S.1,S.2++[⟨N.A,N.B,N.d⟩])else if N.r∈(S.1.drop m).map (·.r)then S else(S.1++[N],S.2)
theorem tQ {m:Nat}{N:Nd}{S:Sf}{c more:Wd}{a' b':List Wd}(h:cC N c=some (more,a',b')):bG m N S c=mu m S ⟨N.d+1,more,a',b'⟩:=by unfold bG;rw[h];rfl
theorem lP {m:Nat}{N:Nd}{S:Sf}{c:Wd}(h:cC N c=none):bG m N S c=S:=by unfold bG;rw[h]
noncomputable def Fh (x:Str):Value->Bool|.str y _=>y==x|_=>false
theorem IG (ms:List Tx)(x:Str):(tL ms).any (Fh x)=decide (x.cps.toList∈ms.map (·.1.cps.toList)):=by
 have e:(tL ms).any (Fh x)=ms.any λp=>p.1==x:=by
  simp only[tL,bK,List.any_toArray,List.any_map];rfl
 rw[e,Bool.eq_iff_iff,List.any_eq_true,decide_eq_true_eq,NL]
 constructor
 ·rintro⟨p,hp,q⟩
  exact⟨p,hp,by rw[eq_of_beq q]⟩
 ·rintro⟨p,hp,q⟩
  refine⟨p,hp,?_⟩
  rw[<-fj p.1,q,fj];simp
theorem IH (ms:List Tx)(x:Str)(t:Nat):∀y,y∈tL ms->EqGives y (.str x t) (Fh x y):=by
 intro y hy
 simp only[tL,bK,QG,NL]at hy
 obtain⟨p,_,rfl⟩:=hy
 exact EqGives.str _ _ _ _
abbrev dP (P:Params)(X:Lv)(ns:List bm)(ms:List Tx)(fs:List Fo)(me fe de:Nat)(L:Lx):aK:=[(190,Kr P X 11),pL X.met (tL ms) me,pL X.fd (cE fs) fe,pD X.rd (a7 P (cg ns)) de,bD L]
section
variable{b:Bool}{w:World}{B:Bx (KL (PB b w))}{A:Around}{s:Shared}{R:aK}
theorem KE {lv:Nat}(hA:ad lv A)(hlv:lv<=8){st:Stmt}(hst:st=d6 2){X:Lv}(hgo:X.go=true)(hpm:X.pm=true){o:bm}(ho:o.Ok R){W:List Wd}{S:Sf}{k:Nat}(hmo:X.more=⟨o.N.r.toArray⟩)(hpa:X.pair=o.tp)(hd:X.dots=((o.N.d:Nat):Int))(hd40:o.N.d<=41)(hr4:o.N.r.length<=4)
  {ns:List bm} {ms:List Tx} {fs:List Fo} {qs:List Tx} (rep_:fk W S ns ms fs qs k R) (ok:oX S) (ok':oX (mu W.length S o.N)) {me fe de qe p ti tl n tk:Nat} {L:Lx} {M:aK}
  (I:aa B.f s (dP (PB b w) X ns ms fs me fe de L++(ai (PB b w) L (p:Int) ti 3 tl (bK qs) qe++(M++R))) (n+200) tk) {Q:Flow->aP} {E:Value->aP}
  (h:∀(s':Shared) (ns':List bm) (ms':List Tx) (fs':List Fo) (qs':List Tx) (me' fe' de' qe' n' tk':Nat) (N':aK),fk W (mu W.length S o.N) ns' ms' fs' qs' k (N'++R) ->
   aa B.f s' (dP (PB b w) X ns' ms' fs' me' fe' de' L++(ai (PB b w) L (p:Int) ti 3 tl (bK qs') qe'++(M++(N'++R)))) (n'+200) tk'->bZ s s'->Q .next s') :
  wpAny (Mo PW (WB b w)) A (exec st aE) Q E s:=by
 have hfl:fs.length<=3:=by have h1:=congrArg N9 rep_.hfs;have:=ok.fl;rw[NM]at h1;lia
 have hnl:ns.length<=17:=by have h1:=congrArg N9 rep_.hns;have:=ok.nl;rw[NM]at h1;lia
 have hml:ms.length<=17:=by have h1:=congrArg N9 rep_.hms;have:=ok.nl;rw[NM,NM,Of]at h1;lia
 have hql:qs.length<=17:=by have h1:=congrArg N9 rep_.hqs;have:=ok.nl;rw[NM,NM,Of]at h1;lia
 have hmore:X.more.cps.toList=o.N.r:=by rw[hmo]
 by_cases h0:o.N.r=[]
 ·-- nothing is ahead
  have ep:mu W.length S o.N=(S.1,S.2++[⟨o.N.A,o.N.B,o.N.d⟩]):=by unfold mu;rw[if_pos h0]
  rw[ep]at h
  have J:aa B.f s ([cn b w (fA X X.kk true true) 11,pL X.fd (cE fs) fe]++([pL X.met (tL ms) me,pD X.rd (a7 (PB b w) (cg ns)) de,bD L]++(ai (PB b w) L (p:Int) ti 3 tl (bK qs) qe++(M++R)))) (n+200) tk:=by
   rw[Ju hgo hpm];exact I.ord 5 [0,2,1,3,4]
  refine rS hA hst (ES b X.kk w X n tk (cE fs) fe) (fc ⟨bA (by rw[hmore,h0];decide),bu⟩) (fc ⟨aD (by rw[Bi];lia),bu⟩) J λs1 I1 k1=>?_
  rw[Ju hgo hpm]at I1
  with_reducible refine nm (⟨o,n,X.tdo⟩:Fo) λf hf=>?_
  have ef:(cE fs).push (.ref (n+200))=cE (fs++[f]):=by rw[<-Bh,hf]
  rw[ef]at I1
  have eo:(Jt n X.pair X.dots X.tdo)=(oY f):=by rw[hf,hpa,hd]
  have J1:aa B.f s1 (dP (PB b w) X ns ms (fs++[f]) me (bU (cE fs) (.ref (n+200)) fe) de L++(ai (PB b w) L (p:Int) ti 3 tl (bK qs) qe++(M++([oY f]++R)))) (n+1+200) (tk+1):=by
   rw[<-eo]
   have h1:aa B.f s1 ([Jt n X.pair X.dots X.tdo]++(dP (PB b w) X ns ms (fs++[f]) me (bU (cE fs) (.ref (n+200)) fe) de L++(ai (PB b w) L (p:Int) ti 3 tl (bK qs) qe++(M++R)))) (n+1+200) (tk+1):=I1.ord 6 [2,0,3,1,4,5]
   exact h1.sw.perm (NQ _ ((NX _ _ _).trans (NQ _ (NX _ _ _))))
  have rm:=rep_.mono (R':=[oY f]++R) λp hp=>.tail _ hp
  refine h s1 ns ms (fs++[f]) qs me (bU (cE fs) (.ref (n+200)) fe) de qe (n+1) (tk+1) [oY f] ⟨rm.hns,rm.ok,rm.hms,?_,λf' hf'=>?_,rm.hqs,rm.wl,rm.kl⟩ J1 k1
  ·rw[NO,rep_.hfs]
   refine congrArg (λz=>_++[z]) ?_
   rw[hf];rfl
  ·rcases NK.mp hf' with q|q
   ·exact rm.fok f' q
   ·rw[NN.mp q]
    exact⟨.head _,by rw[hf];exact ho.mono λp hp=>.tail _ hp⟩
 ·have pne:∀t u:Nat,ak PW (WB b w) (KL (PB b w)) 9000 ⟨bc "str.__eq__" [.str X.more t,.str (Rf "") u],aB false,[]⟩:=λt u=>bA (by
   rw[hmore]
   have:(Rf "").cps.toList=[]:=by decide
   rw[this]
   cases q:o.N.r with
   | nil=>exact absurd q h0
   | cons=>rfl)
  have pin:∀r,decide (o.N.r∈(S.1.drop W.length).map (·.r))=r->ak PW (WB b w) (KL (PB b w)) 9000 ⟨bc "list.__contains__" [.ref (X.met+200),.str X.more X.tmo],aB r,[pL X.met (tL ms) me]⟩:=λr hr =>
   gV (Fh X.more) (IH ms X.more X.tmo) (by rw[IG,rep_.hms,hmore];exact hr)
  by_cases hm:o.N.r∈(S.1.drop W.length).map (·.r)
  ·have ep:mu W.length S o.N=S:=by unfold mu;rw[if_neg h0,if_pos hm]
   rw[ep]at h
   have J:aa B.f s ([cn b w (fA X X.kk true true) 11,pL X.met (tL ms) me]++([pL X.fd (cE fs) fe,pD X.rd (a7 (PB b w) (cg ns)) de,bD L]++(ai (PB b w) L (p:Int) ti 3 tl (bK qs) qe++(M++R)))) (n+200) tk:=by
    rw[Ju hgo hpm];exact I
   refine rS hA hst (ET b X.kk w X n tk (tL ms) me) (fc ⟨pne _ _,fc ⟨pin true (decide_eq_true hm),bu⟩⟩) nP J λs1 I1 k1=>?_
   rw[Ju hgo hpm]at I1
   exact h s1 ns ms fs qs me fe de qe n (tk+1) [] rep_ I1 k1
  ·have ep:mu W.length S o.N=(S.1++[o.N],S.2):=by unfold mu;rw[if_neg h0,if_neg hm]
   rw[ep]at h ok'
   with_reducible refine nm (rR 46 o.N.d++X.more:Str) λz hz=>?_
   have hzl:z.cps.toList=o.N.key:=by
    rw[hz,Str.cps_append,Oq,hmore];unfold Nd.key;congr 1
   have hrl:(rR 46 o.N.d).length=o.N.d:=by simp[Str.length]
   have hml4:X.more.length=o.N.r.length:=by rw[hmo];simp[Str.length]
   have l5:2000<=sizeLine:=by decide +kernel
   have pml:∀t u:Nat,ak PW (WB b w) (KL (PB b w)) 9000 ⟨bc "str.__mul__" [.str (Rf ".") t,.int X.dots u],aG (rR 46 o.N.d) (JK o.N.d t) (Lk o.N.d),[]⟩:=λt u=>by rw[hd];exact mj (by decide) (by lia)
   have pad:∀t u:Nat,ak PW (WB b w) (KL (PB b w)) 9000 ⟨bc "str.__add__" [.str (rR 46 o.N.d) t,.str X.more u],aG z (xD (rR 46 o.N.d) X.more t u) (BL (rR 46 o.N.d) X.more),[]⟩:=λt u=>dq hz (by rw[hz,ck,hrl,hml4];lia)
   have oo:∃f,f=JK o.N.d (tk+1):=⟨_,rfl⟩
   obtain⟨f1,hf1⟩:=oo
   have oo:∃d,d=Lk o.N.d:=⟨_,rfl⟩
   obtain⟨d1,hd1⟩:=oo
   have oo:∃f,f=xD (rR 46 o.N.d) X.more (f1 (tk+2)) X.tmo:=⟨_,rfl⟩
   obtain⟨f2,hf2⟩:=oo
   have oo:∃d,d=BL (rR 46 o.N.d) X.more:=⟨_,rfl⟩
   obtain⟨d2,hd2⟩:=oo
   have oo:∃f,f=JK o.N.d (tk+2+d1+d2+1):=⟨_,rfl⟩
   obtain⟨f3,hf3⟩:=oo
   have oo:∃f,f=xD (rR 46 o.N.d) X.more (f3 (tk+2+d1+d2+2)) X.tmo:=⟨_,rfl⟩
   obtain⟨f4,hf4⟩:=oo
   rw[<-hd1]at pml
   rw[<-hd2]at pad
   have hnone:bM (cg ns) z=none:=qR λo' ho' e=>by
    have h2:=ok'.nd
    rw[NO,Oh]at h2
    have h3:o'.N∈S.1:=by rw[<-rep_.hns];exact NL.mpr ⟨o',ho',rfl⟩
    exact h2.2.2 o'.N.key (NL.mpr ⟨_,h3,rfl⟩) o.N.key (by simp) (by rw[e,hzl])
   have J:aa B.f s ([cn b w (fA X X.kk true true) 11,pL X.met (tL ms) me,pD X.rd (a7 (PB b w) (cg ns)) de,bD L,jc (PB b w) L 3 tl,jb L]++([pL X.fd (cE fs) fe]++(vy (PB b w) L p ti (bK qs) qe++(M++R)))) (n+200) tk:=by
    rw[Ju hgo hpm]
    exact(jT (M:=dP (PB b w) X ns ms fs me fe de L) I).ord 7 [0,1,3,4,5,6,2]
   subst hst
   refine aX ?_
   refine fz hA (EU b X.kk w X n tk (tL ms) me (a7 (PB b w) (cg ns)) de L 3 tl (rR 46 o.N.d) z (rR 46 o.N.d) z f1 f2 f3 f4 d1 d2 d1 d2 (PyData.keyHash (PB b w) z)) rfl
    (fc ⟨pne _ _,fc ⟨pin false (decide_eq_false hm),fc ⟨by rw[hf1];exact pml _ _,fc ⟨by rw[hf2];exact pad _ _,fc ⟨by rw[hf3];exact pml _ _,fc ⟨by rw[hf4];exact pad _ _,bu⟩⟩⟩⟩⟩⟩)
    (fc ⟨aD (by rw[aJ];lia),fc ⟨gY (by unfold cg;rw[NM];lia) hnone,bu⟩⟩) J λs1 I1 k1=>?_
   dsimp only[tH]at I1
   rw[Ju hgo hpm]at I1
   with_reducible refine nm ({o with kt:=f2 (tk+2+d1)}:bm) λo1 ho1=>?_
   have eN:o1.N=o.N:=by rw[ho1]
   have ekey:(⟨o1.N.key.toArray⟩:Str)=z:=by rw[eN,<-hzl,fj]
   have edk:(a7 (PB b w) (cg ns)).push ⟨PyData.keyHash (PB b w) z,.str z (f2 (tk+2+d1)),.ref (X.pair+200)⟩=a7 (PB b w) (cg (ns++[o1])):=by
    rw[iP,qQ,ekey,ho1,hpa]
   rw[cU,edk]at I1
   have J1:aa B.f s1 (ai (PB b w) L (p:Int) ti 3 tl (bK qs) qe++(dP (PB b w) X (ns++[o1]) (ms++[(X.more,X.tmo)]) fs (bU (tL ms) (.str X.more X.tmo) me) fe (de+1) L++(M++R))) (n+200) (tk+2+d1+d2+2+d1+d2):=
    (xg (M:=dP (PB b w) X (ns++[o1]) (ms++[(X.more,X.tmo)]) fs (bU (tL ms) (.str X.more X.tmo) me) fe (de+1) L) (I1.ord 7 [0,1,6,2,3,4,5])).sw
   refine codeAny_mono (mL (B:=B.more _) (hA.uq (w9 ..)) (r:=bK qs) (by rw[NM];lia) J1.fr) ?_
   rintro r2 s2 ⟨n2,tk2,rfl,I2,k2,_⟩
   have J2:=J1.un I2
   refine rF hA (EV b X.kk w X n tk (tL ms) me (a7 (PB b w) (cg ns)) de L 3 tl (rR 46 o.N.d) z (rR 46 o.N.d) z f1 f2 f3 f4 d1 d2 d1 d2 (PyData.keyHash (PB b w) z) n2 tk2) nP nP J2 λs3 I3 k3=>ap ?_
   dsimp only[AJ]at I3
   have eqq:bK qs++[.str z (f4 (tk+2+d1+d2+2+d1))]=bK (qs++[(z,f4 (tk+2+d1+d2+2+d1))]):=by simp
   rw[eqq]at I3
   refine h s3 (ns++[o1]) (ms++[(X.more,X.tmo)]) fs (qs++[(z,f4 (tk+2+d1+d2+2+d1))]) (bU (tL ms) (.str X.more X.tmo) me) fe (de+1) (qe+1) n2 tk2 [] ⟨?_,λo' ho'=>?_,?_,rep_.hfs,rep_.fok,?_,?_,?_⟩ I3.sw (((k1.trans k2.sm)).trans k3)
   ·rw[NO,rep_.hns]
    exact congrArg (λz=>_++[z]) eN
   ·rcases NK.mp ho' with q|q
    ·exact rep_.ok o' q
    ·rw[NN.mp q,ho1];exact⟨ho.own,ho.ea,ho.eb⟩
   ·rw[NO,rep_.hms,Pa rep_.wl,NO]
    exact congrArg (λz=>_++[z]) hmore
   ·rw[NO,rep_.hqs,Pa rep_.kl,NO]
    exact congrArg (λz=>_++[z]) hzl
   ·rw[NR];have:=rep_.wl;lia
   ·rw[NR];have:=rep_.kl;lia
end
end Mine

namespace Mine
open PySem PyProof.Rows PySem.Builtin PySem.Builtin.Str
theorem Bj:qJ.2=[d6 0,d6 1,d6 2]:=by kernel_rfl
theorem qS {r:List Nat}(h:∀c∈r,c=102\/c=105):∀c∈r,c≠46/\c≠10/\c≠13:=λc hc=>by have:=h c hc;lia
theorem Nd.key_sent {N:Nd}(h1:1<=N.d)(hr:∀c∈N.r,c=102\/c=105):b8 true (dm N.key)=Oe (N.d+1) 46++N.r:=by
 have h0:∀c∈N.key,c≠10/\c≠13:=λc hc=>by
  rcases NK.mp hc with q|q
  ·rw[(List.mem_replicate.mp q).2];decide
  ·exact(qS hr c q).2
 have e0:dm N.key=N.key:=by
  have:=lI (rest:=[]) h0
  rw[Oc]at this
  rw[dm,this,df,Oc]
 rw[e0]
 have oo:∃k,N.d=k+1:=⟨N.d-1,by lia⟩
 obtain⟨k,hk⟩:=oo
 have e:N.key=46::(Oe k 46++N.r):=by rw[Nd.key,hk,OK];rfl
 have e2:Oe (N.d+1) 46++N.r=46::N.key:=by rw[OK];rfl
 rw[e2,e,b8,if_pos ⟨rfl,rfl⟩]
 have:=lJ (l:=Oe k 46++N.r) (rest:=[]) λc hc=>(h0 c (by rw[e];exact .tail _ hc)).1
 rw[Oc]at this
 rw[this,b8,Oc]
theorem xj (d:Nat){b:List Nat}(h:∀c∈b,c≠46):(Oe d 46++b).takeWhile (#[46]:Array Nat).contains=Oe d 46:=by
 have c46:(#[46]:Array Nat).contains 46=true:=by simp
 induction d with
 | zero =>
  cases b with
  | nil=>rfl
  | cons c r =>
   have:(#[46]:Array Nat).contains c=false:=by
    have:=h c (.head _)
    simp[Array.contains];lia
   show(c::r).takeWhile (#[46]:Array Nat).contains=[]
   exact Qq (by rw[this];decide)
 | succ d ih=>rw[OK,Oi,List.takeWhile_cons_of_pos c46,ih]
theorem tS {d:Nat}{r:List Nat}(h1:1<=d)(hr:∀c∈r,c≠46):stripSame (Rf ".").cps.contains true false ⟨(Oe d 46++r).toArray⟩=false/\stripped (Rf ".").cps.contains true false ⟨(Oe d 46++r).toArray⟩=⟨r.toArray⟩:=by
 have e0:(Rf ".").cps=#[46]:=by decide
 have e1:stripLo (#[46]:Array Nat).contains true ⟨(Oe d 46++r).toArray⟩=d:=by
  unfold stripLo
  rw[if_pos rfl]
  show((Oe d 46++r).takeWhile _).length=_
  rw[xj _ hr,Q2]
 constructor
 ·unfold stripSame
  rw[e0,e1]
  have:(d==0)=false:=by simp;lia
  rw[this];rfl
 ·unfold stripped
  rw[e0,e1]
  apply Str.ext'
  unfold stripHi
  rw[if_neg (by simp)]
  show((Oe d 46++r).toArray).extract d (Oe d 46++r).toArray.size=r.toArray
  simp
section
variable{b:Bool}{w:World}{B:Bx (KL (PB b w))}{A:Around}{s:Shared}{R:aK}
inductive L8 (b:Bool)(w:World)(B:Bx (KL (PB b w)))(s:Shared)(R:aK)(it:Nat)(ce:Nat)(C:List Tx)(W:List Wd)(X:Lv)(o:bm)(S:Sf)(k:Nat)(p:Nat)(ti:Nat)(tl:Nat)(L:Lx)(left:Nat)(s':Shared):Prop
 | mk (i:Nat) (X':Lv) (ns':List bm) (ms':List Tx) (fs':List Fo) (qs':List Tx) (me' fe' de' qe' n' tk':Nat) (N':aK) (h1:i+left=C.length) (h2:gm X X') (h3:fk W ((W.take i).foldl (bG W.length o.N) S) ns' ms' fs' qs' k (N'++R)) (h4:aa B.f s' ([pI it (X'.cd+200) (i:Int),pL X'.cd (tL C) ce]++(dP (PB b w) X' ns' ms' fs' me' fe' de' L++(ai (PB b w) L (p:Int) ti 3 tl (bK qs') qe'++(N'++R)))) (n'+200) tk') (h5:bZ s s'):L8 b w B s R it ce C W X o S k p ti tl L left s'
theorem Bk {lv:Nat}(hA:ad lv A)(hlv:lv<=8){it ce:Nat}{C:List Tx}{W:List Wd}(hC:C.map (·.1.cps.toList)=W)(hW:∀c∈W,c.length<=4)(hW3:W.length<=3){X:Lv}(hgo:X.go=true){o:bm}(ho:o.Ok R){S:Sf}{k:Nat}(hr:X.rest=⟨o.N.r.toArray⟩)(hah:X.ah=o.a)(hbk:X.bk=o.b)(hd:X.dots=((o.N.d+1:Nat):Int))(hrl:o.N.r.length<=4)(hbl:o.N.B.length<=40)(hdl:o.N.d<=40)
  {ns:List bm} {ms:List Tx} {fs:List Fo} {qs:List Tx} (rep_:fk W S ns ms fs qs k R) (ok:∀i,oX ((W.take i).foldl (bG W.length o.N) S)) {me fe de qe p ti tl n tk:Nat} {L:Lx}
  (I:aa B.f s ([pI it (X.cd+200) ((0:Nat):Int),pL X.cd (tL C) ce]++(dP (PB b w) X ns ms fs me fe de L++(ai (PB b w) L (p:Int) ti 3 tl (bK qs) qe++R))) (n+200) tk) {Q:Result->aP}
  (h:∀(s':Shared) (X':Lv) (ns':List bm) (ms':List Tx) (fs':List Fo) (qs':List Tx) (me' fe' de' qe' n' tk':Nat) (N':aK),gm X X'->fk W (W.foldl (bG W.length o.N) S) ns' ms' fs' qs' k (N'++R) ->
   aa B.f s' ([pL X'.cd (tL C) ce]++(dP (PB b w) X' ns' ms' fs' me' fe' de' L++(ai (PB b w) L (p:Int) ti 3 tl (bK qs') qe'++(N'++R)))) (n'+200) tk'->bZ s s'->Q (.ok .next) s') :
  codeAny (Mo PW (WB b w)) A (mU qJ it) Q s:=by
 have hCl:C.length=W.length:=by rw[<-hC,NM]
 refine codeAny_forLoop (L8 b w B s R it ce C W X o S k p ti tl L) ?_ C.length
  ⟨0,X,ns,ms,fs,qs,me,fe,de,qe,n,tk,[],OF _,.rfl',rep_,I,.rfl'⟩ (λ_=>by rfl)
 rintro left s1 ⟨i,X1,ns1,ms1,fs1,qs1,me1,fe1,de1,qe1,n1,tk1,N1,hi,sx1,rep1,I1,k1⟩
 cases left with
 | zero =>
  refine bN ?_
  have e:i=C.length:=by lia
  subst e
  refine rF hA (i5 b w it n1 tk1 C.length X1.cd ce (tL C)) nP (fc ⟨aU (by rw[N8,aJ];lia),bu⟩) I1 λs2 I2 k2=>ap ?_
  refine wpAny_execs_nil ?_
  rw[Ol (by lia)]at rep1
  exact h s2 X1 ns1 ms1 fs1 qs1 me1 fe1 de1 qe1 (n1+2) tk1 N1 sx1 rep1 I2 (k1.trans k2)
 | succ left =>
  with_reducible refine gx (l:=C) (i:=i) (by lia) λg hg=>?_
  with_reducible refine nm (g.1.cps.toList) λc hc=>?_
  have hgc:g.1=⟨c.toArray⟩:=by rw[hc,fj]
  have hWc:W[i]?=some c:=by rw[<-hC,N7,hg,hc];rfl
  have hcl:=hW c (NS hWc)
  refine bN ?_
  refine rF hA (i4 b w it n1 tk1 i X1.cd ce (tL C) (.str g.1 g.2)) nP (fc ⟨aH (cj hg),bu⟩) I1 λs2 I2 k2=>ap ?_
  refine fy ?_
  have hgo1:X1.go=true:=sx1.go.trans hgo
  have J2:aa B.f s2 ([cn b w (fA X1 X1.kk true X1.pm) 11]++([pI it (X1.cd+200) ((i:Int)+1),pL X1.cd (tL C) ce,pL X1.met (tL ms1) me1,pL X1.fd (cE fs1) fe1,pD X1.rd (a7 (PB b w) (cg ns1)) de1,bD L]++(ai (PB b w) L (p:Int) ti 3 tl (bK qs1) qe1++(N1++R)))) (n1+200) tk1:=by
   rw[xG hgo1]
   exact(show aa B.f s2 ([pI it (X1.cd+200) ((i:Int)+1),pL X1.cd (tL C) ce,cn b w X1 11,pL X1.met (tL ms1) me1,pL X1.fd (cE fs1) fe1,pD X1.rd (a7 (PB b w) (cg ns1)) de1,bD L]++(ai (PB b w) L (p:Int) ti 3 tl (bK qs1) qe1++(N1++R))) (n1+200) tk1 from I2).ord 7 [2,0,1,3,4,5,6]
  refine rF hA (Iv b X1.kk X1.pm w X1 n1 tk1 g.1 g.2) nP nP J2 λs3 I3 k3=>ap ?_
  dsimp only[Gu]at I3
  with_reducible refine nm ({X1 with kk:=X1.kk,go:=true,pm:=X1.pm,word:=g.1,tw:=g.2}:Lv) λX3 hX3=>?_
  have sx3:gm X1 X3:=by rw[hX3];exact⟨rfl,hgo1.symm,rfl,rfl,rfl,rfl,rfl,rfl,rfl,rfl,rfl⟩
  have sx03:=sx1.trans sx3
  have hgo3:X3.go=true:=by rw[hX3]
  have ew3:X3.word=⟨c.toArray⟩:=by rw[hX3];exact hgc
  rw[<-hX3]at I3
  rw[Bj]
  have fin:∀(s5:Shared) (X5:Lv) (ns5:List bm) (ms5:List Tx) (fs5:List Fo) (qs5:List Tx) (me5 fe5 de5 qe5 n5 tk5:Nat) (N5:aK),gm X3 X5->fk W (bG W.length o.N ((W.take i).foldl (bG W.length o.N) S) c) ns5 ms5 fs5 qs5 k (N5++R)->bZ s s5 ->
    aa B.f s5 (dP (PB b w) X5 ns5 ms5 fs5 me5 fe5 de5 L++([pI it (X5.cd+200) ((i:Int)+1),pL X5.cd (tL C) ce]++(ai (PB b w) L (p:Int) ti 3 tl (bK qs5) qe5++(N5++R)))) (n5+200) tk5 ->
    ∃m,m<left+1/\L8 b w B s R it ce C W X o S k p ti tl L m s5:=by
   intro s5 X5 ns5 ms5 fs5 qs5 me5 fe5 de5 qe5 n5 tk5 N5 sx5 rep5 k5 I5
   refine⟨left,Og _,i+1,X5,ns5,ms5,fs5,qs5,me5,fe5,de5,qe5,n5,tk5,N5,by lia,sx03.trans sx5,?_,?_,k5⟩
   ·rw[bt hWc,PG];exact rep5
   ·rw[show(((i+1:Nat):Int))=(i:Int)+1 by lia]
    exact I5.sw
  have ecd3:X3.cd=X1.cd:=sx3.cd
  have J3:aa B.f s3 ([cn b w X3 11]++([pL X3.met (tL ms1) me1,pL X3.fd (cE fs1) fe1,pD X3.rd (a7 (PB b w) (cg ns1)) de1,bD L,pI it (X3.cd+200) ((i:Int)+1),pL X3.cd (tL C) ce]++(ai (PB b w) L (p:Int) ti 3 tl (bK qs1) qe1++(N1++R)))) (n1+200) (tk1+1):=by
   rw[sx3.cd,sx3.met,sx3.fd,sx3.rd]
   exact I3.ord 7 [0,3,4,5,6,1,2]
  refine wpAny_execs_cons (KC hA rfl hgo3 (N:=o.N) (c:=c) ew3 (sx03.rest.trans hr) (sx03.dots.trans hd) J3 ?_)
  intro s4 n4 tk4 I4 k4
  by_cases h0:o.N.d=1/\c=o.N.r
  ·rw[if_pos h0]
   have er:cC o.N c=none:=by unfold cC;rw[if_pos h0]
   exact fin s4 X3 ns1 ms1 fs1 qs1 me1 fe1 de1 qe1 n4 tk4 N1 .rfl' (by rw[lP er];exact rep1) (((k1.trans k2).trans k3).trans k4) I4
  ·rw[if_neg h0]
   have ho1:o.Ok (N1++R):=ho.mono λp hp=>NK.mpr (.inr hp)
   have J4:aa B.f s4 ([cn b w X3 11]++(([pL X3.met (tL ms1) me1,pL X3.fd (cE fs1) fe1,pD X3.rd (a7 (PB b w) (cg ns1)) de1,bD L,pI it (X3.cd+200) ((i:Int)+1),pL X3.cd (tL C) ce]++ai (PB b w) L (p:Int) ti 3 tl (bK qs1) qe1)++(N1++R))) (n4+200) tk4:=
    I4.perm (NQ _ (OG (NP _ _ _).symm))
   refine wpAny_execs_cons (KD hA rfl hgo3 ho1 ew3 (sx03.rest.trans hr) (sx03.ah.trans hah) (sx03.bk.trans hbk) hcl hrl hbl h0 J4 ?_ ?_)
   ·intro er s5 n5 tk5 I5 k5
    exact fin s5 X3 ns1 ms1 fs1 qs1 me1 fe1 de1 qe1 n5 tk5 N1 .rfl' (by rw[lP er];exact rep1) ((((k1.trans k2).trans k3).trans k4).trans k5) (I5.perm (NQ _ (OG (NP _ _ _))))
   ·intro more a' b' er s5 X5 o5 n5 tk5 N5 sx5 hpm5 hmo5 hpa5 hN5 ho5 I5 k5
    have es:=tQ (m:=W.length) (S:=(W.take i).foldl (bG W.length o.N) S) er
    have okS:=ok (i+1)
    rw[bt hWc,PG]at okS
    have okS':oX (mu W.length ((W.take i).foldl (bG W.length o.N) S) o5.N):=by rw[hN5,<-es];exact okS
    have hmr:o5.N.r=more:=by rw[hN5]
    have hml:more.length<=4:=by
     unfold cC at er
     split at er
     ·cases er
     ·split at er
      ·cases er;rw[Of];lia
      ·split at er
       ·cases er;rw[Of];lia
       ·cases er
    have eR:(N5++N1)++R=N5++(N1++R):=NP _ _ _
    have J5:aa B.f s5 (dP (PB b w) X5 ns1 ms1 fs1 me1 fe1 de1 L++(ai (PB b w) L (p:Int) ti 3 tl (bK qs1) qe1++([pI it (X3.cd+200) ((i:Int)+1),pL X3.cd (tL C) ce]++(N5++(N1++R))))) (n5+200) tk5:=by
     rw[<-sx5.met,<-sx5.fd,<-sx5.rd]at I5
     refine I5.perm ?_
     show(dP (PB b w) X5 ns1 ms1 fs1 me1 fe1 de1 L++(([pI it (X3.cd+200) ((i:Int)+1),pL X3.cd (tL C) ce]++ai (PB b w) L (p:Int) ti 3 tl (bK qs1) qe1)++(N5++(N1++R)))).Perm _
     refine NQ _ ?_
     rw[NP]
     exact NX _ _ _
    refine wpAny_execs_cons (KE hA hlv rfl (sx5.go.trans hgo3) hpm5 ho5 (W:=W) (S:=(W.take i).foldl (bG W.length o.N) S) (k:=k) (by rw[hmr];exact hmo5) hpa5 (by rw[sx5.dots,sx03.dots,hd,hN5]) (by rw[hN5];show o.N.d+1<=41;lia) (by rw[hmr];exact hml) (rep1.mono λp hp=>NK.mpr (.inr hp)) (ok i) okS' J5 ?_)
    intro s6 ns6 ms6 fs6 qs6 me6 fe6 de6 qe6 n6 tk6 N6 rep6 I6 k6
    refine wpAny_execs_nil ?_
    rw[hN5,<-es]at rep6
    have eR6:N6++(N5++(N1++R))=(N6++(N5++N1))++R:=by simp only[NP]
    rw[eR6]at rep6 I6
    refine fin s6 X5 ns6 ms6 fs6 qs6 me6 fe6 de6 qe6 n6 tk6 (N6++(N5++N1)) sx5 rep6 (((((k1.trans k2).trans k3).trans k4).trans k5).trans k6) ?_
    rw[sx5.cd]
    exact I6.perm (NQ _ (NX _ _ _))
end
end Mine

namespace Mine
open PySem PyProof.Rows
theorem mX {α β:Type}{f:α->β}:∀{l:List α},(l.map f).Nodup->∀{a c:α},a∈l->c∈l->f a=f c->a=c
 | x::r,h,a,c,ha,hc,e=>by
  rw[Oa,Ob]at h
  rcases N0.mp ha with q1|q1<;>rcases N0.mp hc with q2|q2
  ·rw[q1,q2]
  ·exact absurd (NL.mpr ⟨c,q2,by rw[<-e,q1]⟩) h.1
  ·exact absurd (NL.mpr ⟨a,q1,by rw[e,q2]⟩) h.1
  ·exact mX h.2 q1 q2 e
theorem fk.node {W:List Wd}{S:Sf}{ns:List bm}{ms:List Tx}{fs:List Fo}{qs:List Tx}{k:Nat}{R:aK}(h:fk W S ns ms fs qs k R){j:Nat}{N:Nd}(hN:S.1[j]?=some N):∃o∈ns,o.N=N:=by
 rw[<-h.hns,N7]at hN
 obtain⟨o,h1,h2⟩:=Pw.mp hN
 exact⟨o,NS h1,h2⟩
structure Gx (X X':Lv):Prop where
 kk:X'.kk=X.kk
 cd:X'.cd=X.cd
 met:X'.met=X.met
 fd:X'.fd=X.fd
 rd:X'.rd=X.rd
 tok:X'.tok=X.tok
section
variable{b:Bool}{w:World}{B:Bx (KL (PB b w))}{A:Around}{s:Shared}{R:aK}
theorem KF {lv:Nat}(hA:ad lv A)(hlv:lv<=7){ce:Nat}{C:List Tx}{W:List Wd}(hC:C.map (·.1.cps.toList)=W)(hW:∀c∈W,c.length<=4)(hW3:W.length<=3){X:Lv}{S:Sf}{k j:Nat}{N:Nd}(hN:S.1[j]?=some N)(htk:X.tok=⟨N.key.toArray⟩)
  {ns:List bm} {ms:List Tx} {fs:List Fo} {qs:List Tx} (rep_:fk W S ns ms fs qs k R) (ok:∀i,oX ((W.take i).foldl (bG W.length N) S)) {me fe de qe p ti tl n tk:Nat} {L:Lx}
  (I:aa B.f s ([pL X.cd (tL C) ce]++(dP (PB b w) X ns ms fs me fe de L++(ai (PB b w) L (p:Int) ti 3 tl (bK qs) qe++R))) (n+200) tk) {Q:Fin->aP} {E:Value->aP}
  (h:∀(s':Shared) (X':Lv) (ns':List bm) (ms':List Tx) (fs':List Fo) (qs':List Tx) (me' fe' de' qe' n' tk':Nat) (N':aK),Gx X X'->X'.go=true->fk W (W.foldl (bG W.length N) S) ns' ms' fs' qs' k (N'++R) ->
   aa B.f s' ([pL X'.cd (tL C) ce]++(dP (PB b w) X' ns' ms' fs' me' fe' de' L++(ai (PB b w) L (p:Int) ti 3 tl (bK qs') qe'++(N'++R)))) (n'+200) tk'->bZ s s'->Q (.done .next) s') :
  an PW (WB b w) A Q E [] (cm [bR 0,bR 1,bR 2,bR 3,bR 4,bR 5] aE) s:=by
 have okS:oX S:=ok 0
 obtain⟨o,ho,rfl⟩:=rep_.node hN
 have hNm:=NS hN
 obtain⟨r1,r2,r3,d1,d2,a1,b1⟩:=okS.ok _ hNm
 have hget:bM (cg ns) X.tok=some (.ref (o.tp+200)):=by
  rw[htk]
  refine Fg ho λo' ho' e=>?_
  have h1:(ns.map λo=>o.N.key).Nodup:=by
   have:=okS.nd
   rw[<-rep_.hns,OL]at this
   exact this
  exact mX h1 ho' ho e
 have hok:=rep_.ok o ho
 obtain⟨R1,hp,I1⟩:=(show aa B.f s (([pL X.cd (tL C) ce]++(dP (PB b w) X ns ms fs me fe de L++ai (PB b w) L (p:Int) ti 3 tl (bK qs) qe))++R) (n+200) tk from I.perm (OG (by kernel_rfl))).tk (hok.own _ (.head _))
 have J0:aa B.f s ([cn b w (fA X X.kk X.go X.pm) 11,pD X.rd (a7 (PB b w) (cg ns)) de,cM o.tp o.a o.b]++([pL X.cd (tL C) ce,pL X.met (tL ms) me,pL X.fd (cE fs) fe,bD L]++(ai (PB b w) L (p:Int) ti 3 tl (bK qs) qe++R1))) (n+200) tk:=by
  have h1:aa B.f s ([pL X.cd (tL C) ce,cn b w X 11,pL X.met (tL ms) me,pL X.fd (cE fs) fe,pD X.rd (a7 (PB b w) (cg ns)) de,bD L]++(ai (PB b w) L (p:Int) ti 3 tl (bK qs) qe++([cM o.tp o.a o.b]++R1))) (n+200) tk:=I1.perm (OG (by kernel_rfl))
  have h2:=aa.mid (M:=[pL X.cd (tL C) ce,cn b w X 11,pL X.met (tL ms) me,pL X.fd (cE fs) fe,pD X.rd (a7 (PB b w) (cg ns)) de,bD L]) h1
  exact h2.ord 7 [1,4,6,0,2,3,5]
 refine JW hA (EJ b X.kk X.go X.pm w X n tk (a7 (PB b w) (cg ns)) de o.tp o.a o.b) rfl (fc ⟨fZ (by lia) (by rw[hget];rfl),fc ⟨fC hget,bu⟩⟩) nP J0 λs1 I2 k1=>?_
 with_reducible refine nm ({X with kk:=X.kk,go:=X.go,pm:=X.pm,ah:=o.a,bk:=o.b,q:=qU (qU X.q 14 (if X.go then X.q 14 else tk+2)) 15 (if X.go then X.q 15 else tk+3)}:Lv) λX1 hX1=>?_
 have e1:X1=(fA X1 X.kk X.go X.pm):=by rw[hX1]
 rw[<-hX1]at I2
 have J2:aa B.f s1 ([]++([cn b w X1 13,pD X.rd (a7 (PB b w) (cg ns)) de,cM o.tp o.a o.b,pL X.cd (tL C) ce,pL X.met (tL ms) me,pL X.fd (cE fs) fe,bD L]++(ai (PB b w) L (p:Int) ti 3 tl (bK qs) qe++R1))) (n+3+200) (tk+4):=I2
 have klen:o.N.key.length<=50:=by unfold Nd.key;rw[NR,Q2];lia
 have hqc:(ic X.tok X.ttk)=ic ⟨o.N.key.toArray⟩ X.ttk:=by rw[htk]
 rw[hqc]
 refine codeAny_mono (qg (B:=B.more _) (hA.uq (w7 ..)) (by lia) (text:=⟨o.N.key.toArray⟩) (NU klen (by decide)) J2.fr) ?_
 rintro r2 s2 ⟨n2,tk2,ty,rfl,I3,k2⟩
 have J3:=J2.un I3
 have hsent:b8 true (dm (⟨o.N.key.toArray⟩:Str).cps.toList)=Oe (o.N.d+1) 46++o.N.r:=Nd.key_sent d1 r2
 rw[hsent]
 with_reducible refine nm (⟨(Oe (o.N.d+1) 46++o.N.r).toArray⟩:Str) λsent hse=>?_
 rw[<-hse]
 obtain⟨st1,st2⟩:=tS (d:=o.N.d+1) (r:=o.N.r) (by lia) λc hc=>(qS r2 c hc).1
 have l5:2000<=sizeLine:=by decide +kernel
 have sl:sent.length=o.N.d+1+o.N.r.length:=by rw[hse];simp[Str.length]
 have rl:(⟨o.N.r.toArray⟩:Str).length=o.N.r.length:=by simp[Str.length]
 have J4:aa B.f s2 ([cn b w (fA X1 X.kk X.go X.pm) 13,pL X1.cd (tL C) ce]++([pD X.rd (a7 (PB b w) (cg ns)) de,cM o.tp o.a o.b,pL X.met (tL ms) me,pL X.fd (cE fs) fe,bD L]++(ai (PB b w) L (p:Int) ti 3 tl (bK qs) qe++R1))) (n2+200) tk2:=by
  rw[<-e1,show X1.cd=X.cd by rw[hX1]]
  exact(show aa B.f s2 ([cn b w X1 13,pD X.rd (a7 (PB b w) (cg ns)) de,cM o.tp o.a o.b,pL X.cd (tL C) ce,pL X.met (tL ms) me,pL X.fd (cE fs) fe,bD L]++(ai (PB b w) L (p:Int) ti 3 tl (bK qs) qe++R1)) (n2+200) tk2 from J3).ord 7 [0,3,1,2,4,5,6]
 have plst:∀t u:Nat,ak PW (WB b w) (KL (PB b w)) 9000 ⟨bc "str.lstrip" [.str sent t,.str (Rf ".") u],aS ⟨o.N.r.toArray⟩,[]⟩:=λt u=>by rw[hse];exact nH st1 st2 (by rw[rl];lia)
 refine fz hA (EK b X.kk X.go X.pm w X n tk (a7 (PB b w) (cg ns)) de o.tp o.a o.b X1 n2 tk2 ty ce sent ⟨o.N.r.toArray⟩ ((o.N.d+1+o.N.r.length:Nat):Int) ((o.N.r.length:Nat):Int) ((o.N.d+1:Nat):Int) (tL C)) rfl
  (fc ⟨plst _ _,fc ⟨bC (by rw[sl]) (by rw[sl];lia),fc ⟨bC (by rw[rl]) (by rw[rl];lia),fc ⟨eJ (by push_cast;lia),bu⟩⟩⟩⟩) nP J4 λs3 I5 k3=>?_
 dsimp only[tG]at I5
 with_reducible refine nm ({X1 with kk:=X.kk,go:=true,pm:=X.go&&X.pm,sent:=sent,tse:=ty,rest:=⟨o.N.r.toArray⟩,tre:=tk2+2,dots:=((o.N.d+1:Nat):Int),tdo:=tk2+8,q:=qU (qU (qU X1.q 16 (if X.go then X1.q 16 else tk2)) 17 (if X.go then X1.q 17 else tk2+3)) 18 (if X.go then X1.q 18 else tk2+9)}:Lv) λX3 hX3=>?_
 have swX:Gx X X3:=by rw[hX3,hX1];exact⟨rfl,rfl,rfl,rfl,rfl,rfl⟩
 have ecd:X3.cd=X1.cd:=by rw[hX3]
 rw[<-hX3,<-ecd]at I5
 have J5:aa B.f s3 ([pI n2 (X3.cd+200) ((0:Nat):Int),pL X3.cd (tL C) ce]++(dP (PB b w) X3 ns ms fs me fe de L++(ai (PB b w) L (p:Int) ti 3 tl (bK qs) qe++R))) (n2+1+200) (tk2+10):=by
  have h1:aa B.f s3 ([pI n2 (X3.cd+200) ((0:Nat):Int),pL X3.cd (tL C) ce,cn b w X3 11,pL X.met (tL ms) me,pL X.fd (cE fs) fe,pD X.rd (a7 (PB b w) (cg ns)) de,bD L]++([cM o.tp o.a o.b]++(ai (PB b w) L (p:Int) ti 3 tl (bK qs) qe++R1))) (n2+1+200) (tk2+10):=I5.ord 8 [2,1,0,5,6,3,7,4]
  rw[<-swX.met,<-swX.fd,<-swX.rd]at h1
  refine h1.perm ?_
  show(([pI n2 (X3.cd+200) ((0:Nat):Int),pL X3.cd (tL C) ce]++dP (PB b w) X3 ns ms fs me fe de L)++([cM o.tp o.a o.b]++(ai (PB b w) L (p:Int) ti 3 tl (bK qs) qe++R1))).Perm _
  rw[NP]
  refine NQ _ (NQ _ ?_)
  exact(NX _ _ _).trans (NQ _ hp.symm)
 refine Bk (hA.uq (w8 ..)) (by lia) hC hW hW3 (by rw[hX3]) hok (by rw[hX3]) (by rw[hX3,hX1]) (by rw[hX3,hX1]) (by rw[hX3]) r3 b1 d2 rep_ ok J5 ?_
 intro s4 X4 ns4 ms4 fs4 qs4 me4 fe4 de4 qe4 n4 tk4 N4 sx4 rep4 I6 k4
 refine rF hA (EL b X.kk X.go X.pm w X n tk (a7 (PB b w) (cg ns)) de o.tp o.a o.b X1 n2 tk2 ty ce sent ⟨o.N.r.toArray⟩ ((o.N.d+1+o.N.r.length:Nat):Int) ((o.N.r.length:Nat):Int) ((o.N.d+1:Nat):Int) (tL C) n4 tk4) nP nP I6 λs5 I7 k5=>ap ?_
 exact h s5 X4 ns4 ms4 fs4 qs4 me4 fe4 de4 qe4 n4 tk4 N4 ⟨sx4.kk.trans swX.kk,sx4.cd.trans swX.cd,sx4.met.trans swX.met,sx4.fd.trans swX.fd,sx4.rd.trans swX.rd,sx4.tok.trans swX.tok⟩ (sx4.go.trans (by rw[hX3])) rep4 I7 ((((k1.trans k2.sm).trans k3).trans k4).trans k5)
end
end Mine

namespace Mine
open PySem PyProof.Rows PySem.MeetsSeq
theorem Bl:eD.2=[bR 0,bR 1,bR 2,bR 3,bR 4,bR 5]++[bR 6]:=by kernel_rfl
theorem Bm:eD.1=.BoolOp .And [wO eD.1 0,.Compare (Gr (wO eD.1 1)) [.Eq] [Ig (wO eD.1 1)] (Lw (wO eD.1 1))] (Nf eD.1):=by kernel_rfl
theorem xk:bR 6=.If (.Compare (Gr (qK (bR 6))) [.Eq] [Ig (qK (bR 6))] (Lw (qK (bR 6)))) (EE (bR 6)) [] (L3 (bR 6)).2:=by kernel_rfl
structure Fi (W:List Wd)(k kq:Nat)(lin:Int)(X:Lv)(pr:Nat)(L:Lx)(p:Nat):Prop where
 run:rg W k
 go:0<k->X.go=true
 st:((am W k).2=[]/\lin=3/\L.text.cps.toList.drop p=[10]/\kq=k+1/\∃N,(am W k).1[k]?=some N/\X.tok=⟨N.key.toArray⟩)\/((am W k).2=[]/\lin=4/\kq=k/\(am W k).1.length=k/\X.tok.cps.toList=[]/\0<k)\/((am W k).2≠[]/\lin=3/\L.text.cps.toList.drop p=[10]/\kq=k/\0<k/\X.tok.cps.toList≠[])
def kb (W:List Wd):Prop:=∀k,rg W k->oX (am W k)/\∀N,(am W k).2=[]->(am W k).1[k]?=some N->∀i,oX ((W.take i).foldl (bG W.length N) (am W k))
theorem xl {W:List Wd}{k:Nat}{N:Nd}(h:(am W k).1[k]?=some N):am W (k+1)=W.foldl (bG W.length N) (am W k):=by
 show lO W k (am W k)=_
 unfold lO;rw[h]
theorem II {N:Nd}(h:1<=N.d):N.key≠[]:=by
 unfold Nd.key
 have oo:∃d,N.d=d+1:=⟨N.d-1,by lia⟩
 obtain⟨d,hd⟩:=oo
 rw[hd,OK];simp
section
variable{b:Bool}{w:World}{B:Bx (KL (PB b w))}{A:Around}{s:Shared}{R:aK}
theorem lQ {lv:Nat}(hA:ad lv A){a c fe nx tok:Nat}{fs:List Fo}{M:aK}(I:aa B.f s M nx tok)(h1:(a,ab (cE fs) fe)∈M)(h2:(c,ab #[] 0)∈M){Q:Bool->aP}{E:Value->aP}(h:Q (decide (fs=[])) s) :
  wpAny (Mo PW (WB b w)) A (compareOp .Eq (.ref a) (.ref c)) (λv s'=>wpAny (Mo PW (WB b w)) A (truthy v) Q E s') E s:=by
 show wpAny _ _ (richCompare .Eq (.ref a) (.ref c)) _ _ s
 cases fs with
 | nil=>exact lM hA F.slot_list_eq (mi (xs:=cE []) (ys:=#[]) rfl (λ_=>true) (λj h1 h2=>absurd h2 (QV _)) rfl) I h1 h2 h
 | cons f r=>exact lM hA F.slot_list_eq (ky (by simp[cE])) I h1 h2 h
theorem KH {lv:Nat}(hA:ad lv A)(hlv:lv<=8){st:Stmt}(hst:st=bR 6){ce:Nat}{C:List Tx}{W:List Wd}{X:Lv}(hgo:X.go=true){k:Nat}(hrun:rg W (k+1))(hb:kb W)(hne:X.tok.cps.toList≠[])
  {ns:List bm} {ms:List Tx} {fs:List Fo} {qs:List Tx} (rep_:fk W (am W (k+1)) ns ms fs qs (k+1) R) {me fe de qe p ti tl n tk:Nat} {L:Lx} (hl2:2<=L.text.length) (hl5:L.text.length<=100000) (hp:L.text.cps.toList.drop p=[10]) (hpl:p<=L.text.length)
  (I:aa B.f s ([pL X.cd (tL C) ce]++(dP (PB b w) X ns ms fs me fe de L++(ai (PB b w) L (p:Int) ti 3 tl (bK qs) qe++R))) (n+200) tk) {Q:Flow->aP} {E:Value->aP}
  (h:∀(s':Shared) (X':Lv) (qs':List Tx) (kq' qe' p' ti' tl' n' tk':Nat) (lin':Int),X'.kk=X.kk->X'.cd=X.cd->Fi W (k+1) kq' lin' X' 0 L p'->p'<=L.text.length->fk W (am W (k+1)) ns ms fs qs' kq' R ->
   aa B.f s' ([pL X'.cd (tL C) ce]++(dP (PB b w) X' ns ms fs me fe de L++(ai (PB b w) L (p':Int) ti' lin' tl' (bK qs') qe'++R))) (n'+200) tk'->bZ s s'->Q .next s') :
  wpAny (Mo PW (WB b w)) A (exec st aE) Q E s:=by
 rw[hst,xk]
 have hbk:=(hb (k+1) hrun).1
 refine wpAny_If (wpAny_isTrue_Compare1 (eA ?_))
 have J0:aa B.f s ([cn b w (fA X X.kk true X.pm) 11]++([pL X.cd (tL C) ce,pL X.met (tL ms) me,pL X.fd (cE fs) fe,pD X.rd (a7 (PB b w) (cg ns)) de,bD L]++(ai (PB b w) L (p:Int) ti 3 tl (bK qs) qe++R))) (n+200) tk:=by
  rw[xG hgo]
  exact(show aa B.f s ([pL X.cd (tL C) ce,cn b w X 11,pL X.met (tL ms) me,pL X.fd (cE fs) fe,pD X.rd (a7 (PB b w) (cg ns)) de,bD L]++(ai (PB b w) L (p:Int) ti 3 tl (bK qs) qe++R)) (n+200) tk from I).ord 6 [1,0,2,3,4,5]
 refine rF hA (EW b X.kk X.pm w X n tk) nP nP J0 λs1 I1 k1=>ap (eA ?_)
 refine rF hA (EX b w n tk) nP nP I1 λs2 I2 k2=>ap ?_
 dsimp only[AK]at I2
 refine lQ hA I2 (fs:=fs) (fe:=fe) (by exact .tail _ (.tail _ (.tail _ (.tail _ (.head _))))) (by exact .head _) ?_
 rw[xG hgo]at I2
 have J2:aa B.f s2 ([cn b w X 11,pL X.cd (tL C) ce,pL X.met (tL ms) me,pL X.fd (cE fs) fe,pD X.rd (a7 (PB b w) (cg ns)) de,bD L]++(ai (PB b w) L (p:Int) ti 3 tl (bK qs) qe++R)) (n+1+200) tk:=I2.sub (OE _ _)
 by_cases hf:fs=[]
 ·rw[decide_eq_true hf]
  show wpAny _ _ (execs (EE (bR 6)) aE) Q E s2
  have hS:(am W (k+1)).2=[]:=by rw[<-rep_.hfs,hf];rfl
  refine cR (l1:=EE (bR 6)) (l2:=[]) (Oc _).symm ?_
  have J3:aa B.f s2 ([bD L,jc (PB b w) L 3 tl,jb L]++([cn b w X 11,pL X.cd (tL C) ce,pL X.met (tL ms) me,pL X.fd (cE fs) fe,pD X.rd (a7 (PB b w) (cg ns)) de]++(vy (PB b w) L p ti (bK qs) qe++R))) (n+1+200) tk:=
   (jT (M:=[cn b w X 11,pL X.cd (tL C) ce,pL X.met (tL ms) me,pL X.fd (cE fs) fe,pD X.rd (a7 (PB b w) (cg ns)) de,bD L]) J2).ord 8 [5,6,7,0,1,2,3,4]
  refine JW hA (IF b w (n+1) tk L 3 tl) rfl nP nP J3 λs3 I3 k3=>?_
  have lg3:=AL b w (n+1) tk L 3 tl
  have J4:aa B.f s3 (ai (PB b w) L (p:Int) ti 3 tl (bK qs) qe++([cn b w X 11,pL X.cd (tL C) ce,pL X.met (tL ms) me,pL X.fd (cE fs) fe,pD X.rd (a7 (PB b w) (cg ns)) de,bD L]++R)) (n+1+200) tk:=
   (xg (M:=[cn b w X 11,pL X.cd (tL C) ce,pL X.met (tL ms) me,pL X.fd (cE fs) fe,pD X.rd (a7 (PB b w) (cg ns)) de,bD L]) (I3.ord 8 [3,4,5,6,7,0,1,2])).sw
  have fin:∀(s5:Shared) (y:Str) (ty n5 tk5:Nat) (lin':Int) (p' ti' tl' qe' kq':Nat) (qs':List Tx),p'<=L.text.length->fk W (am W (k+1)) ns ms fs qs' kq' R->bZ s3 s5 ->
    (((am W (k+1)).2=[]/\lin'=3/\L.text.cps.toList.drop p'=[10]/\kq'=k+1+1/\∃N,(am W (k+1)).1[k+1]?=some N/\y=⟨N.key.toArray⟩)\/((am W (k+1)).2=[]/\lin'=4/\kq'=k+1/\(am W (k+1)).1.length=k+1/\y.cps.toList=[]/\0<k+1)) ->
    aa B.f s5 (ai (PB b w) L (p':Int) ti' lin' tl' (bK qs') qe'++([cn b w X 11,pL X.cd (tL C) ce,pL X.met (tL ms) me,pL X.fd (cE fs) fe,pD X.rd (a7 (PB b w) (cg ns)) de,bD L]++R)) (n5+200) tk5 ->
    an PW (WB b w) A (λfin s'=>match fin with|.done .next=>wpAny (Mo PW (WB b w)) A (execs [] aE) Q E s'|.done f=>Q f s'|_=>False) E (bH (ly b w (n+1) tk L 3 tl)) (dH (fR (ly b w (n+1) tk L 3 tl)) (.ok (.ret (.str y ty)))) s5:=by
   intro s5 y ty n5 tk5 lin' p' ti' tl' qe' kq' qs' hp' rep5 k5 hst5 I5
   have J5:aa B.f s5 ([cn b w (fA X X.kk true X.pm) 11]++([pL X.cd (tL C) ce,pL X.met (tL ms) me,pL X.fd (cE fs) fe,pD X.rd (a7 (PB b w) (cg ns)) de,bD L]++(ai (PB b w) L (p':Int) ti' lin' tl' (bK qs') qe'++R))) (n5+200) tk5:=by
    rw[xG hgo];exact I5.sw
   refine rF hA (EY b X.kk X.pm w (n+1) tk L 3 tl X n5 tk5 ty y) nP nP J5 λs6 I6 k6=>ap ?_
   dsimp only[AM]at I6
   with_reducible refine nm ({X with kk:=X.kk,go:=true,pm:=X.pm,tok:=y,ttk:=ty}:Lv) λX6 hX6=>?_
   have ety:X6.tok=y:=by rw[hX6]
   refine wpAny_execs_nil (h s6 X6 qs' kq' qe' p' ti' tl' n5 (tk5+1) lin' (by rw[hX6]) (by rw[hX6]) ⟨hrun,λ_=>by rw[hX6],?_⟩ hp' rep5 ?_ (((((k1.trans k2).trans k3).trans k5)).trans k6))
   ·rcases hst5 with q|q
    ·refine .inl ?_;rw[ety];exact q
    ·refine .inr (.inl ?_);rw[ety];exact q
   ·have e1:X6.cd=X.cd:=by rw[hX6]
    have e2:X6.met=X.met:=by rw[hX6]
    have e3:X6.fd=X.fd:=by rw[hX6]
    have e4:X6.rd=X.rd:=by rw[hX6]
    rw[<-hX6]at I6
    show aa B.f s6 ([pL X6.cd (tL C) ce,cn b w X6 11,pL X6.met (tL ms) me,pL X6.fd (cE fs) fe,pD X6.rd (a7 (PB b w) (cg ns)) de,bD L]++(ai (PB b w) L (p':Int) ti' lin' tl' (bK qs') qe'++R)) (n5+200) (tk5+1)
    rw[e1,e2,e3,e4]
    exact(show aa B.f s6 ([cn b w X6 11,pL X.cd (tL C) ce,pL X.met (tL ms) me,pL X.fd (cE fs) fe,pD X.rd (a7 (PB b w) (cg ns)) de,bD L]++(ai (PB b w) L (p':Int) ti' lin' tl' (bK qs') qe'++R)) (n5+200) (tk5+1)from I6).ord 6 [1,0,2,3,4,5]
  have hql:qs.length<=17:=by have h1:=congrArg N9 rep_.hqs;have:=hbk.nl;rw[NM,NM,Of]at h1;exact NU (OA h1) (NU (O2 _ _) this)
  cases hq:qs with
  | nil =>
   have hlen:(am W (k+1)).1.length=k+1:=by
    have h1:=congrArg N9 rep_.hqs
    rw[hq,NM,NM,Of]at h1
    have:=rep_.kl
    exact QY (PA (Eq.symm h1)) this
   with_reducible refine nm ({L with pe:=qe}:Lx) λL' hL'=>?_
   have eL:∀(p' ti':Nat) (lin':Int) (tl':Nat),bg (PB b w) L' (p':Int) ti' lin' tl'=ai (PB b w) L (p':Int) ti' lin' tl' [] qe:=λ_ _ _ _=>by rw[hL']
   rw[hq]at J4
   have J5:aa B.f s3 (bg (PB b w) L' (p:Int) ti 3 tl++([cn b w X 11,pL X.cd (tL C) ce,pL X.met (tL ms) me,pL X.fd (cE fs) fe,pD X.rd (a7 (PB b w) (cg ns)) de,bD L]++R)) (n+1+200) tk:=by rw[eL];exact J4
   have et:L'.text=L.text:=by rw[hL']
   have ex:L'.x=L.x:=by rw[hL']
   rw[<-ex]
   refine codeAny_mono (pQ (B:=B.more _) (L:=L') (by rw[et];exact hl2) (by rw[et];exact hl5) (hA.up (by lia) lg3.1 lg3.2) (by lia) (W1.feed W0.fin) (by rw[et];exact hp) (by rw[et];exact hpl) J5.fr) ?_
   rintro r5 s5 ⟨p5,ti5,tl5,n5,tk5,ty,rfl,I5,hp5,hpl5,k5⟩
   have J6:=J5.un I5
   rw[eL]at J6
   rw[et]at hpl5
   exact fin s5 ⟨([]:List Nat).toArray⟩ ty n5 tk5 (3+((0+1:Nat):Int)) p5 ti5 tl5 qe (k+1) [] hpl5 (by rw[hq]at rep_;exact rep_) k5.sm (.inr ⟨hS,by decide,rfl,hlen,rfl,OY k⟩) J6
  | cons q r =>
   have hq0:=rep_.hqs
   rw[hq]at hq0 J4 hql
   rw[NV]at hql
   have hk1:k+1<(am W (k+1)).1.length:=by
    have h1:=congrArg N9 hq0
    rw[NM,NM,Of,NV]at h1
    exact Nat.lt_of_sub_pos (by rw[<-h1];exact OY _)
   have oo:∃N,(am W (k+1)).1[k+1]?=some N:=⟨_,NZ hk1⟩
   obtain⟨N,hN⟩:=oo
   have hdr:(am W (k+1)).1.drop (k+1)=N::(am W (k+1)).1.drop (k+1+1):=by
    obtain⟨hi,e⟩:=NW.mp hN
    rw[OD hi,e]
   rw[hdr,Oa,Oa,List.cons.injEq]at hq0
   refine codeAny_mono (lN (B:=B.more _) (r:=bK r) (hA.up (by lia) lg3.1 lg3.2) (by rw[NM];exact QW hql) J4.fr) ?_
   rintro r5 s5 ⟨n5,tk5,rfl,I5,k5,_⟩
   have J6:=J4.un I5
   exact fin s5 q.1 q.2 n5 tk5 3 p ti tl (qe+1) (k+1+1) r hpl ⟨rep_.hns,rep_.ok,rep_.hms,rep_.hfs,rep_.fok,hq0.2,rep_.wl,hk1⟩ k5.sm (.inl ⟨hS,rfl,hp,rfl,N,hN,by rw[<-hq0.1,fj]⟩) J6
 ·rw[decide_eq_false hf]
  show wpAny _ _ (execs [] aE) Q E s2
  have hS:(am W (k+1)).2≠[]:=by
   rw[<-rep_.hfs];intro q;exact hf (List.map_eq_nil_iff.mp q)
  exact wpAny_execs_nil (h s2 X qs (k+1) qe p ti tl (n+1) tk 3 rfl rfl ⟨hrun,λ_=>hgo,.inr (.inr ⟨hS,rfl,hp,rfl,OY k,hne⟩)⟩ hpl rep_ (J2.ord 6 [1,0,2,3,4,5]) (k1.trans k2))
end
end Mine

namespace Mine
open PySem PyProof.Rows
section
variable{b:Bool}{w:World}{B:Bx (KL (PB b w))}{A:Around}{s:Shared}{R:aK}
inductive Ww (b:Bool)(w:World)(B:Bx (KL (PB b w)))(s:Shared)(R:aK)(ce:Nat)(C:List Tx)(W:List Wd)(L:Lx)(left:Nat)(s':Shared):Prop
 | mk (k kq:Nat) (X':Lv) (ns':List bm) (ms':List Tx) (fs':List Fo) (qs':List Tx) (me' fe' de' qe' p' ti' tl' n' tk':Nat) (lin':Int) (R':aK) (h1:k+left=20) (h2:p'<=L.text.length) (h3:Fi W k kq lin' X' 0 L p') (h4:fk W (am W k) ns' ms' fs' qs' kq R') (h5:R.Sublist R') (h6:aa B.f s' ([pL X'.cd (tL C) ce]++(dP (PB b w) X' ns' ms' fs' me' fe' de' L++(ai (PB b w) L (p':Int) ti' lin' tl' (bK qs') qe'++R'))) (n'+200) tk') (h7:bZ s s'):Ww b w B s R ce C W L left s'
theorem Bn {lv:Nat}(hA:ad lv A)(hlv:lv<=7){ce:Nat}{C:List Tx}{W:List Wd}(hC:C.map (·.1.cps.toList)=W)(hW:∀c∈W,c.length<=4)(hW3:W.length<=3)(hb:kb W){X:Lv}{L:Lx}(hl2:2<=L.text.length)(hl5:L.text.length<=100000)
  {ns:List bm} {ms:List Tx} {fs:List Fo} {qs:List Tx} {me fe de qe p ti tl n tk kq:Nat} {lin:Int} (hpl:p<=L.text.length) (wh:Fi W 0 kq lin X 0 L p) (rep_:fk W (am W 0) ns ms fs qs kq R)
  (I:aa B.f s ([pL X.cd (tL C) ce]++(dP (PB b w) X ns ms fs me fe de L++(ai (PB b w) L (p:Int) ti lin tl (bK qs) qe++R))) (n+200) tk) {Q:Result->aP}
  (h:∀(s':Shared) (X':Lv) (k:Nat) (ns':List bm) (ms':List Tx) (fs':List Fo) (qs':List Tx) (me' fe' de' qe' p' ti' tl' n' tk':Nat) (lin':Int) (R':aK),X'.go=true->rg W k->fk W (am W k) ns' ms' fs' qs' k R' ->
   (((am W k).2=[]/\lin'=4/\(am W k).1.length=k)\/((am W k).2≠[]/\lin'=3/\0<k))->R.Sublist R' ->
   aa B.f s' ([pL X'.cd (tL C) ce]++(dP (PB b w) X' ns' ms' fs' me' fe' de' L++(ai (PB b w) L (p':Int) ti' lin' tl' (bK qs') qe'++R'))) (n'+200) tk'->bZ s s'->Q (.ok .next) s') :
  codeAny (Mo PW (WB b w)) A vc Q s:=by
 refine codeAny_whileLoop (Ww b w B s R ce C W L) ?_ 20
  ⟨0,kq,X,ns,ms,fs,qs,me,fe,de,qe,p,ti,tl,n,tk,lin,R,rfl,hpl,wh,rep_,PF _,I,.rfl'⟩
 rintro left s1 ⟨k,kq1,X1,ns1,ms1,fs1,qs1,me1,fe1,de1,qe1,p1,ti1,tl1,n1,tk1,lin1,R1,hk,hpl1,wh1,rep1,hR1,I1,k1⟩
 have hbk:=hb k wh1.run
 rw[Bm]
 refine PyProof.Rows.isTrue_and (iN ?_)
 have J1:aa B.f s1 ([cn b w (fA X1 X1.kk X1.go X1.pm) 11]++([pL X1.cd (tL C) ce,pL X1.met (tL ms1) me1,pL X1.fd (cE fs1) fe1,pD X1.rd (a7 (PB b w) (cg ns1)) de1,bD L]++(ai (PB b w) L (p1:Int) ti1 lin1 tl1 (bK qs1) qe1++R1))) (n1+200) tk1:=
  (show aa B.f s1 ([pL X1.cd (tL C) ce,cn b w X1 11,pL X1.met (tL ms1) me1,pL X1.fd (cE fs1) fe1,pD X1.rd (a7 (PB b w) (cg ns1)) de1,bD L]++(ai (PB b w) L (p1:Int) ti1 lin1 tl1 (bK qs1) qe1++R1)) (n1+200) tk1 from I1).ord 6 [1,0,2,3,4,5]
 have e0:(Rf "").cps.toList=[]:=by decide
 refine rF hA (Ir b X1.kk X1.go X1.pm w X1 n1 tk1 (decide (X1.tok.cps.toList≠[]))) (fc ⟨cv (by rw[e0];cases X1.tok.cps.toList<;>simp),bu⟩) nP J1 λs2 I2 k2=>ap ?_
 have out:∀(s5:Shared) (n5 tk5:Nat),X1.go=true->kq1=k->(((am W k).2=[]/\lin1=4/\(am W k).1.length=k)\/((am W k).2≠[]/\lin1=3/\0<k))->bZ s s5 ->
   aa B.f s5 ([cn b w X1 11,pL X1.cd (tL C) ce,pL X1.met (tL ms1) me1,pL X1.fd (cE fs1) fe1,pD X1.rd (a7 (PB b w) (cg ns1)) de1,bD L]++(ai (PB b w) L (p1:Int) ti1 lin1 tl1 (bK qs1) qe1++R1)) (n5+200) tk5 ->
   wpAny (Mo PW (WB b w)) A (execs [] aE) (λf s₃=>Q (.ok f) s₃) (notedBy (Mo PW (WB b w)) A aE λe s'=>Q (.error e) s') s5:=by
  intro s5 n5 tk5 hgo hkq hst k5 I5
  rw[hkq]at rep1
  exact wpAny_execs_nil (h s5 X1 k ns1 ms1 fs1 qs1 me1 fe1 de1 qe1 p1 ti1 tl1 n5 tk5 lin1 R1 hgo wh1.run rep1 hst hR1 (I5.ord 6 [1,0,2,3,4,5]) k5)
 have J2:aa B.f s2 ([cn b w X1 11,pL X1.cd (tL C) ce,pL X1.met (tL ms1) me1,pL X1.fd (cE fs1) fe1,pD X1.rd (a7 (PB b w) (cg ns1)) de1,bD L]++(ai (PB b w) L (p1:Int) ti1 lin1 tl1 (bK qs1) qe1++R1)) (n1+200) (tk1+1):=I2
 by_cases ht:X1.tok.cps.toList=[]
 ·rw[decide_eq_false (λq=>q ht)]
  have hc:(am W k).2=[]/\lin1=4/\kq1=k/\(am W k).1.length=k/\X1.tok.cps.toList=[]/\0<k:=by
   rcases wh1.st with⟨_,_,_,_,N,hN,q⟩|q|q
   ·exfalso
    rw[q]at ht
    exact II ((hbk.1.ok N (NS hN)).2.2.2.1) ht
   ·exact q
   ·exact absurd ht q.2.2.2.2.2
  exact out s2 n1 (tk1+1) (wh1.go hc.2.2.2.2.2) hc.2.2.1 (.inl ⟨hc.1,hc.2.1,hc.2.2.2.1⟩) (k1.trans k2) J2
 ·rw[decide_eq_true (show X1.tok.cps.toList≠[]from ht)]
  refine PyProof.Rows.isTrue_and (wpAny_isTrue_Compare1 (eA ?_))
  refine rF hA (Is b X1.kk X1.go X1.pm w X1 n1 (tk1+1)) nP nP J2 λs3 I3 k3=>ap (eA ?_)
  refine rF hA (It b w n1 (tk1+1)) nP nP I3 λs4 I4 k4=>ap ?_
  refine lQ hA I4 (fs:=fs1) (fe:=fe1) (by exact .tail _ (.tail _ (.tail _ (.tail _ (.head _))))) (by exact .head _) ?_
  have J4:aa B.f s4 ([cn b w X1 11,pL X1.cd (tL C) ce,pL X1.met (tL ms1) me1,pL X1.fd (cE fs1) fe1,pD X1.rd (a7 (PB b w) (cg ns1)) de1,bD L]++(ai (PB b w) L (p1:Int) ti1 lin1 tl1 (bK qs1) qe1++R1)) (n1+1+200) (tk1+1):=I4.sub (OE _ _)
  have k14:bZ s s4:=((k1.trans k2).trans k3).trans k4
  by_cases hf:fs1=[]
  ·rw[decide_eq_true hf]
   refine PyProof.Rows.isTrue_and_nil ?_
   have hS:(am W k).2=[]:=by rw[<-rep1.hfs,hf];rfl
   obtain⟨_,hlin,hp1,hkq,N,hN,htk⟩:(am W k).2=[]/\lin1=3/\L.text.cps.toList.drop p1=[10]/\kq1=k+1/\∃N,(am W k).1[k]?=some N/\X1.tok=⟨N.key.toArray⟩:=by
    rcases wh1.st with q|q|q
    ·exact q
    ·exact absurd q.2.2.2.2.1 ht
    ·exact absurd hS q.1
   subst hlin
   subst hkq
   show wpAny _ _ (execs eD.2 aE) _ _ s4
   rw[Bl]
   refine cR rfl ?_
   have hklt:k<(am W k).1.length:=(NW.mp hN).1
   have hrun:rg W (k+1):=λj hj=>by
    rcases QD.mp hj with q|q
    ·exact wh1.run j q
    ·rw[q];exact⟨hS,hklt⟩
   have hnl:=hbk.1.nl
   refine KF hA hlv hC hW hW3 hN htk rep1 (hbk.2 N hS hN) (J4.ord 6 [1,0,2,3,4,5]) ?_
   intro s5 X5 ns5 ms5 fs5 qs5 me5 fe5 de5 qe5 n5 tk5 N5 sw5 hgo5 rep5 I5 k5
   rw[<-xl hN]at rep5
   refine wpAny_execs_cons (KH hA (by lia) rfl hgo5 hrun hb (by rw[sw5.tok];exact ht) rep5 hl2 hl5 hp1 hpl1 I5 ?_)
   intro s6 X6 qs6 kq6 qe6 p6 ti6 tl6 n6 tk6 lin6 ek6 ec6 wh6 hpl6 rep6 I6 k6
   refine wpAny_execs_nil ?_
   exact⟨left-1,by lia,k+1,kq6,X6,ns5,ms5,fs5,qs6,me5,fe5,de5,qe6,p6,ti6,tl6,n6,tk6,lin6,N5++R1,by lia,hpl6,wh6,rep6,hR1.trans (Ou _ _),I6,(k14.trans k5).trans k6⟩
  ·rw[decide_eq_false hf]
   have hS:(am W k).2≠[]:=by rw[<-rep1.hfs];intro q;exact hf (List.map_eq_nil_iff.mp q)
   obtain⟨_,hlin,_,hkq,h0,_⟩:(am W k).2≠[]/\lin1=3/\L.text.cps.toList.drop p1=[10]/\kq1=k/\0<k/\X1.tok.cps.toList≠[]:=by
    rcases wh1.st with q|q|q
    ·exact absurd q.1 hS
    ·exact absurd q.1 hS
    ·exact q
   exact out s4 (n1+1) (tk1+1) (wh1.go h0) hkq (.inr ⟨hS,hlin,h0⟩) k14 J4
end
theorem KI (P:Params)(X:Lv):LV P X 11=Kr P {X with go:=false,pm:=false} 11:=by
 show bO _ _=bO (_++(_++[])) _
 rw[Oc]
 rfl
theorem KJ {P:Params}{X:Lv}(h:X.go=true):Kr P X 11=LW P X 0:=by
 have h1:∀kk pm:Bool,Kr P (fA X kk true pm) 11=LW P (fA X kk true pm) 0:=by
  intro kk pm
  cases kk<;>cases pm<;>rfl
 have:=h1 X.kk X.pm
 rw[xG h]at this
 exact this
section
variable{b:Bool}{w:World}{B:Bx (KL (PB b w))}{A:Around}{s:Shared}{R:aK}
theorem IJ {lv:Nat}(hA:ad lv A)(hlv:lv<=7){n tk ae p ti tl:Nat}{X:Lv}{ws av:List Tx}(h3:ws.length=3)(hw:∀p∈ws,qy p.1.cps.toList)(hav:av.map (·.1.cps.toList)=ws.map (λx=>46::x.1.cps.toList)){L:Lx}(hp:L.text.cps.toList.drop p=[10])
  (I:aa B.f s ([bE b w X 6,pL X.told (tL av) ae,bD L]++(jS (PB b w) L p ti 3 tl++R)) (n+200) tk)
  {Q:Fin->aP} {E:Value->aP}
  (h:∀(s':Shared) (X':Lv) (C:List Tx) (ns:List bm) (qs:List Tx) (n' tk' ce de qe:Nat) (R':aK),(C.map (·.1.cps.toList)).Nodup->1<=C.length->C.length<=3->(∀p∈C,qy p.1.cps.toList/\∃q∈ws,q.1=p.1)->Fi (C.map (·.1.cps.toList)) 0 1 3 X' 0 L p->fk (C.map (·.1.cps.toList)) (am (C.map (·.1.cps.toList)) 0) ns [] [] qs 1 R'->R.Sublist R' ->
   aa B.f s' ([pL X'.cd (tL C) ce]++(dP (PB b w) X' ns [] [] 0 0 de L++(ai (PB b w) L (p:Int) ti 3 tl (bK qs) qe++R'))) (n'+200) tk'->bZ s s'->Q (.done .next) s') :
  an PW (WB b w) A Q E [] (cm (pf [9,10,11,12,13,14]) aE) s:=by
 refine fz hA (EF b X.kk w X n tk (tL av) ae) rfl nP nP I λs1 I1 k1=>?_
 dsimp only[to]at I1
 with_reducible refine nm ({X with kk:=X.kk,cd:=n,rd:=n+1,q:=qU (qU X.q 9 tk) 10 (tk+1)}:Lv) λX1 hX1=>?_
 have et1:X1.told=X.told:=by rw[hX1]
 have ec1:X1.cd=n:=by rw[hX1]
 have er1:X1.rd=n+1:=by rw[hX1]
 have ek1:X1.kk=X.kk:=by rw[hX1]
 rw[<-hX1]at I1
 have J1:aa B.f s1 ([pI (n+2) (X1.told+200) ((0:Nat):Int),pL X1.told (tL av) ae,bE b w X1 8,pL X1.cd (tL []) 0,pD X1.rd (a7 (PB b w) []) 0,bD L]++(ai (PB b w) L (p:Int) ti 3 tl [] L.pe++R)) (n+3+200) (tk+2):=by
  rw[et1,ec1,er1]
  exact(show aa B.f s1 ([bE b w X1 8,pL X.told (tL av) ae,pL n #[] 0,pD (n+1) #[] 0,pI (n+2) (X.told+200) 0,bD L]++(jS (PB b w) L p ti 3 tl++R)) (n+3+200) (tk+2)from I1).ord 6 [4,1,0,2,3,5]
 refine Bg (hA.uq (w5 ..)) (by lia) h3 hw hav J1 ?_
 intro s2 X2 C ns qs n2 tk2 ce2 de2 qe2 R2 ek2 ok hC1 hR2 I2 k2
 have hC3:C.length<=3:=by have:=ok.ln;lia
 have hnl:ns.length=C.length:=by have:=congrArg N9 ok.hns;simpa[bl]using this
 have hql:qs.length=C.length:=by have:=congrArg N9 ok.hqs;simp at this;lia
 have e2:X2=(fK X2 X.kk):=by rw[<-ek1,<-ek2]
 have J2:aa B.f s2 ([bE b w (fK X2 X.kk) 9,bD L,jc (PB b w) L 3 tl,jb L]++([pL X2.told (tL av) ae,pL X2.cd (tL C) ce2,pD X2.rd (a7 (PB b w) (cg ns)) de2]++(vy (PB b w) L p ti (bK qs) qe2++R2))) (n2+200) tk2:=by
  rw[<-e2]
  exact(jT (M:=[pL X2.told (tL av) ae,bE b w X2 9,pL X2.cd (tL C) ce2,pD X2.rd (a7 (PB b w) (cg ns)) de2,bD L]) I2).ord 7 [1,4,5,6,0,2,3]
 refine fz hA (EG b X.kk w X n tk (tL av) ae X2 n2 tk2 L 3 tl) rfl nP nP J2 λs3 I3 k3=>?_
 dsimp only[tq]at I3
 with_reducible refine nm ({X2 with kk:=X.kk,met:=n2,fd:=n2+1,q:=qU (qU X2.q 12 tk2) 13 (tk2+1)}:Lv) λX3 hX3=>?_
 have e3:X3=(fK X3 X.kk):=by rw[hX3]
 rw[<-hX3]at I3
 cases hq:qs with
 | nil=>rw[hq]at hql;rw[Ow]at hql;lia
 | cons q0 r =>
 have hq0:=ok.hqs
 rw[hq]at hq0 hql
 rw[NV]at hql
 rw[hq]at I3
 have J3:aa B.f s3 (ai (PB b w) L (p:Int) ti 3 tl (.str q0.1 q0.2::bK r) qe2++([bE b w X3 11,bD L,pL n2 #[] 0,pL (n2+1) #[] 0,pL X2.told (tL av) ae,pL X2.cd (tL C) ce2,pD X2.rd (a7 (PB b w) (cg ns)) de2]++R2)) (n2+2+200) (tk2+2):=
  (xg (M:=[bE b w X3 11,bD L,pL n2 #[] 0,pL (n2+1) #[] 0,pL X2.told (tL av) ae,pL X2.cd (tL C) ce2,pD X2.rd (a7 (PB b w) (cg ns)) de2]) (I3.ord 9 [0,1,4,5,6,7,8,2,3])).sw
 refine codeAny_mono (lN (B:=B.more _) (r:=bK r) (hA.uq (w6 ..)) (by rw[NM];lia) J3.fr) ?_
 rintro r4 s4 ⟨n4,tk4,rfl,I4,k4,_⟩
 have J4:aa B.f s4 ([bE b w (fK X3 X.kk) 11]++([bD L,pL n2 #[] 0,pL (n2+1) #[] 0,pL X2.told (tL av) ae,pL X2.cd (tL C) ce2,pD X2.rd (a7 (PB b w) (cg ns)) de2]++(ai (PB b w) L (p:Int) ti 3 tl (bK r) (qe2+1)++R2))) (n4+200) tk4:=by
  rw[<-e3];exact(J3.un I4).sw
 refine rF hA (EH b X.kk w X n tk (tL av) ae X2 X3 n2 tk2 L 3 tl n4 tk4 q0.2 q0.1) nP nP J4 λs5 I5 k5=>ap ?_
 dsimp only[AD]at I5
 rw[bE,KI]at I5
 with_reducible refine nm ({X3 with kk:=X.kk,tok:=q0.1,ttk:=q0.2,go:=false,pm:=false}:Lv) λX5 hX5=>?_
 have f1:X5.cd=X2.cd:=by rw[hX5,hX3]
 have f2:X5.met=n2:=by rw[hX5,hX3]
 have f3:X5.fd=n2+1:=by rw[hX5,hX3]
 have f4:X5.rd=X2.rd:=by rw[hX5,hX3]
 have f5:X5.tok=q0.1:=by rw[hX5]
 have hns0:(bl (C.map (·.1.cps.toList))).length=C.length:=by unfold bl;rw[NM,NM]
 have oo:∃N,(am (C.map (·.1.cps.toList)) 0).1[0]?=some N:=⟨_,NZ (by show 0<(bl _).length;lia)⟩
 obtain⟨N,hN⟩:=oo
 have hdr:bl (C.map (·.1.cps.toList))=N::(bl (C.map (·.1.cps.toList))).drop 1:=by
  have hN':(bl (C.map (·.1.cps.toList)))[0]?=some N:=hN
  cases hl:bl (C.map (·.1.cps.toList))with
  | nil=>rw[hl]at hN';exact nomatch hN'
  | cons a t=>rw[hl]at hN';cases hN';rfl
 have hkk:(ns.map λo=>o.N.key)=(bl (C.map (·.1.cps.toList))).map Nd.key:=by rw[<-ok.hns,OL];rfl
 rw[hkk,hdr,Oa,Oa,List.cons.injEq]at hq0
 refine h s5 X5 C ns r n4 (tk4+1) ce2 de2 (qe2+1) R2 ok.nd hC1 hC3 ok.wd ⟨λj hj=>absurd hj (QV j),λq=>absurd q (PQ 0),.inl ⟨rfl,rfl,hp,rfl,N,hN,by rw[f5,<-hq0.1,fj]⟩⟩ ⟨ok.hns,ok.ok,?_,rfl,(λ_ q=>nomatch q),hq0.2,by show _<=(bl _).length;rw[hns0,NM];exact NT _,by show 1<=(bl _).length;lia⟩ hR2 ?_ ((((k1.trans k2).trans k3).trans k4.sm).trans k5)
 ·show []=((bl (C.map (·.1.cps.toList))).drop _).map _
  rw[QX (by rw[hns0,NM];exact NT _)];rfl
 ·show aa B.f s5 ([pL X5.cd (tL C) ce2,cn b w X5 11,pL X5.met (tL []) 0,pL X5.fd (cE []) 0,pD X5.rd (a7 (PB b w) (cg ns)) de2,bD L]++(ai (PB b w) L (p:Int) ti 3 tl (bK r) (qe2+1)++R2)) (n4+200) (tk4+1)
  rw[f1,f2,f3,f4,hX5]
  have h1:=(show aa B.f s5 ([cn b w {X3 with kk:=X.kk,tok:=q0.1,ttk:=q0.2,go:=false,pm:=false} 11,bD L,pL n2 #[] 0,pL (n2+1) #[] 0,pL X2.told (tL av) ae,pL X2.cd (tL C) ce2,pD X2.rd (a7 (PB b w) (cg ns)) de2]++(ai (PB b w) L (p:Int) ti 3 tl (bK r) (qe2+1)++R2)) (n4+200) (tk4+1)from I5).ord 7 [4,5,0,2,3,6,1]
  exact h1.sub (OE _ _)
end
end Mine

namespace Mine
open PySem PyProof.Rows PySem.MeetsSeq
theorem Bo (a c:Bool):EqGives (.bool a) (.bool c) (a==c):=by
 intro prog w A E s Q h
 unfold eqBool
 show wpAny _ _ (if(Value.bool a==Value.bool c)=true then _ else _) Q E s
 by_cases hab:(Value.bool a==Value.bool c)=true
 ·rw[if_pos hab]
  have e:a=c:=by have:=eq_of_beq hab;injection this
  subst e
  exact wpAny_bind (wpAny_rule (wpAny_pure (by simpa using h)))
 ·rw[if_neg hab]
  refine wpAny_bind (richCompare_gives (T:="bool") rfl rfl F.slot_bool_eq F.entry_int_eq (F.args_int_eq_2 _ _) (SeqAt.int___eq___bool_bool_0 a c) (λx=>nomatch x) (wpAny_truthy_bool ?_))
  cases a<;>cases c<;>exact h
noncomputable def KK:Value->Bool|.bool x=>x==true|_=>false
section
variable{prog:Program}{w:World}{K:Nat->Option Obj}{U:Nat}
theorem oZ {a b:Int}{t u:Nat}{r:Bool}(h:decide (a>=b)=r):ak prog w K U ⟨bc "int.__ge__" [.int a t,.int b u],aB r,[]⟩:=
 ag F.slot_int_ge (λs _ _=>typeIs_int s a t) F.entry_int_ge (F.args_int_ge_2 _ _) (λA R s _ _ hR=>gives_int_ge a b t u prog w A R s (by subst h;exact hR)) nM
theorem mv {a e:Nat}{bs:List Bool}(h:∀x∈bs,x=false):ak prog w K U ⟨bc "list.__contains__" [.ref a,.bool true],aB false,[(a,ab (bV bs) e)]⟩:=by
 refine gV KK (λy hy=>?_) ?_
 ·simp only[bV,QG,NL]at hy
  obtain⟨x,_,rfl⟩:=hy
  exact Bo x true
 ·have e1:(bV bs).any KK=bs.any λx=>x==true:=by simp only[bV,List.any_toArray,List.any_map];rfl
  rw[e1,List.any_eq_false]
  intro x hx
  rw[h x hx];decide
end
theorem Bp:fh 18=.If (.Compare (Gr (qK (fh 18))) [.Eq] [Ig (qK (fh 18))] (Lw (qK (fh 18)))) (EE (fh 18)) [] (L3 (fh 18)).2:=by kernel_rfl
abbrev fH (ts:List Lt)(ws:List (Nat×Nat)):List Bool:=(Oy 7).map (eM ts ws)
section
variable{b:Bool}{w:World}{B:Bx (KL (PB b w))}{A:Around}{s:Shared}{R:aK}
theorem Fj {lv:Nat}(hA:ad lv A)(hlv:lv<=4){n0 tk0 n tk ce:Nat}{C:List Tx}(hC:gc C){X:Lv}(hgo:X.go=true)
  (I:aa B.f s ([cn b w X 11,pL X.cd (tL C) ce]++R) (n+200) tk)
  {Q:Fin->aP} {E:Value->aP}
  (h:∀(s':Shared) (X':Lv) (ts:List Lt) (ws:List (Nat×Nat)) (bk:List Gp) (n' tk' fe:Nat),im C ts ws 6->fS (dN (C.map (·.1)) 3) bk->X'.least=((bk.foldl gF 99:Nat):Int)->X'.fd=X.fd ->
   aa B.f s' ([cz b w X' 2,pL X'.few (bV (fH ts ws)) fe]++R) (n'+200) tk'->mn s s'->Q (.done .next) s') :
  an PW (WB b w) A Q E (bH (gi b w n0 tk0)) (dH (fR (gi b w n0 tk0)) (.ok .next)) s:=by
 rw[cn,KJ hgo]at I
 refine fz hA (EZ b X.kk X.pm w X n0 tk0 n tk) rfl nP nP I λs1 I1 k1=>?_
 have J1:aa B.f s1 ([pL X.cd (tL C) ce]++([cz b w X 0]++R)) (n+200) (tk+1):=(show aa B.f s1 ([cz b w X 0,pL X.cd (tL C) ce]++R) (n+200) (tk+1)from I1).ord 2 [1,0]
 refine codeAny_mono (DH (hA.uq (xa ..)) (by lia) hC J1) ?_
 rintro r2 s2 ⟨a,e,n2,tk2,ts,ws,rfl,okF,I2,k2⟩
 have J2:aa B.f s2 ([cz b w (fB X X.kk X.pm) 0]++([pL X.cd (tL C) ce,pL a (bV (fH ts ws)) e]++R)) (n2+200) tk2:=(show aa B.f s2 ([pL a (bV (fH ts ws)) e,pL X.cd (tL C) ce,cz b w X 0]++R) (n2+200) tk2 from I2).ord 3 [2,1,0]
 refine fz hA (E0 b X.kk X.pm w X n0 tk0 n tk n2 tk2 a) rfl nP nP J2 λs3 I3 k3=>?_
 dsimp only[tI]at I3
 with_reducible refine nm ({X with kk:=X.kk,pm:=X.pm,few:=a,q:=qU X.q 21 tk2}:Lv) λX3 hX3=>?_
 have ef:X3.few=a:=by rw[hX3]
 have e3:X3=(fB X3 X.kk X.pm):=by rw[hX3]
 rw[<-hX3]at I3
 have J3:aa B.f s3 ([pL X.cd (tL C) ce]++([cz b w X3 1,pL a (bV (fH ts ws)) e]++R)) (n2+200) (tk2+1):=(show aa B.f s3 ([cz b w X3 1,pL X.cd (tL C) ce,pL a (bV (fH ts ws)) e]++R) (n2+200) (tk2+1)from I3).ord 3 [1,0,2]
 refine codeAny_mono (Ed (hA.uq (xb ..)) (by lia) hC J3) ?_
 rintro r4 s4 ⟨bk,t,n4,tk4,rfl,okB,I4,k4⟩
 have J4:aa B.f s4 ([cz b w (fB X3 X.kk X.pm) 1]++([pL X.cd (tL C) ce,pL a (bV (fH ts ws)) e]++R)) (n4+200) tk4:=by
  rw[<-e3]
  exact(show aa B.f s4 ([pL X.cd (tL C) ce,cz b w X3 1,pL a (bV (fH ts ws)) e]++R) (n4+200) tk4 from I4).ord 3 [1,0,2]
 refine rF hA (AO b X.kk X.pm w X n0 tk0 n tk X3 n2 tk2 a n4 tk4 t ((bk.foldl gF 99:Nat):Int)) nP nP J4 λs5 I5 k5=>ap ?_
 dsimp only[vj]at I5
 with_reducible refine nm ({X3 with kk:=X.kk,pm:=X.pm,least:=((bk.foldl gF 99:Nat):Int),tle:=t,q:=qU X3.q 22 tk4}:Lv) λX5 hX5=>?_
 have ef5:X5.few=a:=by rw[hX5];exact ef
 have efd:X5.fd=X.fd:=by rw[hX5,hX3]
 rw[<-hX5]at I5
 refine h s5 X5 ts ws bk n4 (tk4+1) e okF okB (by rw[hX5]) efd ?_ ((((k1.ao.trans k2).trans k3.ao).trans k4.ao).trans k5.ao)
 rw[ef5]
 have h1:aa B.f s5 ([pL X.cd (tL C) ce,cz b w X5 2,pL a (bV (fH ts ws)) e]++R) (n4+200) (tk4+1):=(show aa B.f s5 ([cz b w X5 2,pL X.cd (tL C) ce,pL a (bV (fH ts ws)) e]++R) (n4+200) (tk4+1)from I5).ord 3 [1,0,2]
 exact h1.sub (OE _ _)
theorem KM {lv:Nat}(hA:ad lv A){st:Stmt}(hst:st=fh 18){n tk fe fw p ti tl qe:Nat}{lin:Int}{X:Lv}{fs:List Fo}{fb:List Bool}{L:Lx}{pb:List Value}(h0:fs=[]->lin=4/\X.least=99/\∀x∈fb,x=false)
  (I:aa B.f s ([cz b w X 2,pL X.few (bV fb) fe,pL X.fd (cE fs) fw,bD L]++(ai (PB b w) L (p:Int) ti lin tl pb qe++R)) (n+200) tk)
  {Q:Flow->aP} {E:Value->aP}
  (h:∀(s':Shared) (n' tk':Nat),bZ s s'->(fs=[]->(∃M,aa B.f s' (M++R) (n'+200) tk')->Q (.ret (.bool true)) s')/\(fs≠[]->aa B.f s' ([cz b w X 2,pL X.few (bV fb) fe,pL X.fd (cE fs) fw,bD L]++(ai (PB b w) L (p:Int) ti lin tl pb qe++R)) (n'+200) tk'->Q .next s')) :
  wpAny (Mo PW (WB b w)) A (exec st aE) Q E s:=by
 rw[hst,Bp]
 refine wpAny_If (wpAny_isTrue_Compare1 (eA ?_))
 refine rF hA (AP b X.kk X.pm w X n tk) nP nP I λs1 I1 k1=>ap (eA ?_)
 refine rF hA (AR b w n tk) nP nP I1 λs2 I2 k2=>ap ?_
 refine lQ hA I2 (fs:=fs) (fe:=fw) (by exact .tail _ (.tail _ (.tail _ (.head _)))) (by exact .head _) ?_
 have J2:aa B.f s2 ([cz b w X 2,pL X.few (bV fb) fe,pL X.fd (cE fs) fw,bD L]++(ai (PB b w) L (p:Int) ti lin tl pb qe++R)) (n+1+200) tk:=I2.sub (OE _ _)
 by_cases hf:fs=[]
 ·rw[decide_eq_true hf]
  obtain⟨e1,e2,e3⟩:=h0 hf
  subst e1
  show wpAny _ _ (execs (EE (fh 18)) aE) Q E s2
  refine cR (l1:=EE (fh 18)) (l2:=[]) (Oc _).symm ?_
  have J3:aa B.f s2 ([cz b w (fB X X.kk X.pm) 2,pL X.few (bV fb) fe,bD L,jc (PB b w) L 4 tl,jb L]++([pL X.fd (cE fs) fw]++(vy (PB b w) L p ti pb qe++R))) (n+1+200) tk:=
   (jT (M:=[cz b w X 2,pL X.few (bV fb) fe,pL X.fd (cE fs) fw,bD L]) J2).ord 6 [0,1,3,4,5,2]
  refine rF hA (AS b X.kk X.pm w X (n+1) tk L 4 tl fe (bV fb)) (fc ⟨bJ (decide_eq_true rfl),fc ⟨mv e3,fc ⟨bJ (decide_eq_true (by rw[e2];rfl)),bu⟩⟩⟩) nP J3 λs3 I3 k3=>ap ?_
  refine(h s3 (n+1) (tk+3) ((k1.trans k2).trans k3)).1 hf ⟨[cz b w X 2,pL X.fd (cE fs) fw]++vy (PB b w) L p ti pb qe,?_⟩
  exact I3.perm (OG (by kernel_rfl))
 ·rw[decide_eq_false hf]
  show wpAny _ _ (execs [] aE) Q E s2
  exact wpAny_execs_nil ((h s2 (n+1) tk (k1.trans k2)).2 hf J2)
end
end Mine

namespace Mine
open PySem PyProof.Rows
theorem lR:lq=jY lq:=by kernel_rfl
theorem lS:lr=jY lr:=by kernel_rfl
inductive rh:List (List Nat)->List (List Nat)->Prop
 | nil:rh [] []
 | cons {x y:List Nat} {xs ys:List (List Nat)}:dJ x y->y.length<=5->rh xs ys->rh (x::xs) (y::ys)
theorem rh.snoc {x y:List Nat}{xs ys:List (List Nat)}(h:rh xs ys)(h1:dJ x y)(h2:y.length<=5):rh (xs++[x]) (ys++[y]):=by
 induction h with
 | nil=>exact .cons h1 h2 .nil
 | cons a c _ ih=>exact .cons a c ih
theorem rh.prep {xs ys:List (List Nat)}(h:rh xs ys):dI ys.flatten xs.flatten:=by
 induction h with
 | nil=>exact .nil
 | cons a _ _ ih=>exact qO a.prep ih
theorem rh.len {xs ys:List (List Nat)}(h:rh xs ys):ys.flatten.length<=5*xs.length/\ys.length=xs.length:=by
 induction h with
 | nil=>exact⟨OI _,rfl⟩
 | cons _ c _ ih=>rw[Ox,NR,NV,NV];lia
noncomputable abbrev L9:List Nat:=[173,8203,8288,65024]
def IK (c:Nat):List Nat:=((f9.find? λg=>g.2==[c]).map (·.1)).getD []
def lT (l:List Nat):List Nat:=(l.takeWhile λc=>decide (c∉L9)).flatMap IK
theorem Fk:∀g∈f9,∃c,g.2=[c]/\IK c=g.1:=by
 intro g hg
 simp only[f9,N0,OX,or_false]at hg
 rcases hg with rfl|rfl|rfl|rfl|rfl|rfl|rfl|rfl|rfl<;>exact⟨_,rfl,by decide⟩
theorem Bq:∀{gs:List (List Nat×List Nat)},(∀g∈gs,g∈f9)->(gs.map (·.2)).flatten.flatMap IK=(gs.map (·.1)).flatten
 | [],_=>rfl
 | g::r,h=>by
  obtain⟨c,e,h1⟩:=Fk g (h g (.head _))
  simp only[Oa,Ox,Pc,Bq λx hx=>h x (.tail _ hx),e]
  simp[h1]
theorem dJ.first {x y:List Nat}(h:dJ x y)(rest:List Nat):lT (y++rest)=x:=by
 obtain⟨gs,sep,h1,rfl,h3,rfl⟩:=h
 have h2:=(ka h1).2
 unfold lT
 rw[NP,List.takeWhile_append_of_pos (λc hc=>decide_eq_true (h2 c hc).2)]
 rw[List.singleton_append,Qq (by rw[decide_eq_true_eq];exact λq=>q h3),Oc]
 exact Bq h1
theorem rh.first {x:List Nat}{xs ys:List (List Nat)}(h:rh (x::xs) ys):lT ys.flatten=x/\ys.flatten≠[]:=by
 cases h with
 | cons a _ _ =>
  rw[Ox]
  refine⟨a.first _,λq=>?_⟩
  obtain⟨gs,sep,_,_,_,rfl⟩:=a
  simp at q
section
variable{b:Bool}{w:World}{B:Bx (KL (PB b w))}{A:Around}{s:Shared}{R:aK}
theorem IL {lv:Nat}(hA:ad lv A){it acc D S e de:Nat}{La:List Tx}{Dc:Dk}(h40:La.length<=41)(hD:∀p∈La,∃(y:List Nat) (t:Nat),bM Dc p.1=some (.str ⟨y.toArray⟩ t)/\dJ p.1.cps.toList y/\y.length<=5){Q:Result->aP} :
  ∀(left i:Nat) (vv:Bool) (n tk ae dk:Nat) (dv:Value) (ys:List Tx) (s:Shared),i+left=La.length->vv=decide (0<i)->ys.length=i->rh ((La.take i).map (·.1.cps.toList)) (ys.map (·.1.cps.toList)) ->
  aa B.f s ([pI it (S+200) (i:Int),pL S (tL La) e,c5 b w D vv dk dv,dn,pD 5 (a7 (PB b w) Dc) de,pL acc (tL ys) ae]++R) (n+200) tk ->
  (∀(s':Shared) (n' tk' ae' dk':Nat) (dv':Value) (ys':List Tx),rh (La.map (·.1.cps.toList)) (ys'.map (·.1.cps.toList)) ->
   aa B.f s' ([pL S (tL La) e,c5 b w D (decide (0<La.length)) dk' dv',dn,pD 5 (a7 (PB b w) Dc) de,pL acc (tL ys') ae']++R) (n'+200) tk'->bZ s s'->Q (.ok .next) s') ->
  codeAny (Mo PW (WB b w)) A (cY lq [cX 0] it acc D) Q s:=by
 intro left
 induction left with
 | zero =>
  intro i vv n tk ae dk dv ys s hi hvv hl hsp I h
  refine aF (a8 lR) ?_
  have e':i=La.length:=by lia
  subst hvv
  subst e'
  refine rF hA (AV b w it acc D n tk La.length S e (tL La)) nP (fc ⟨aU (by rw[N8,aJ];lia),bu⟩) (R:=[c5 b w D (decide (0<La.length)) dk dv,dn,pD 5 (a7 (PB b w) Dc) de,pL acc (tL ys) ae]++R) I λs1 I1 k1=>?_
  all_goals try dsimp only[vm]at I1
  rw[Om]at hsp
  exact λ_ _ _=>h s1 (n+2) _ ae dk dv ys hsp I1 k1
 | succ left ih =>
  intro i vv n tk ae dk dv ys s hi hvv hl hsp I h
  with_reducible refine gx (l:=La) (i:=i) (by lia) λg hg=>?_
  obtain⟨y,t,hy,hs,h5⟩:=hD g (NS hg)
  refine aF (a8 lR) ?_
  refine rF hA (AU b vv w it acc D S n tk i e dk g.2 t ae de (tL La) (tL ys) (a7 (PB b w) Dc) dv g.1 ⟨y.toArray⟩) (fc ⟨fC hy,bu⟩) (fc ⟨aH (cj hg),fc ⟨aD (by rw[aJ];lia),bu⟩⟩) I λs1 I1 k1=>?_
  dsimp only[vk]at I1
  rw[cU]at I1
  refine λ_ _ _=>⟨by rfl,ih (i+1) true n _ _ _ _ _ s1 (by lia) (by simp) (by simp[hl]) ?_ I1 λs' n' tk' ae' dk' dv' ys' q0 q1 q2=>h s' n' tk' ae' dk' dv' ys' q0 q1 (k1.trans q2)⟩
  rw[bt hg,NO,NO]
  exact hsp.snoc hs h5
theorem IO {lv:Nat}(hA:ad lv A){it acc D S e de:Nat}{La:List Tx}{Dc:Dk}(h40:La.length<=41)(hD:∀p∈La,∃(y:List Nat) (t:Nat),bM Dc p.1=some (.str ⟨y.toArray⟩ t)/\dJ p.1.cps.toList y/\y.length<=5){Q:Result->aP} :
  ∀(left i:Nat) (vv:Bool) (n tk ae dk:Nat) (dv:Value) (ys:List Tx) (s:Shared),i+left=La.length->vv=decide (0<i)->ys.length=i->rh ((La.take i).map (·.1.cps.toList)) (ys.map (·.1.cps.toList)) ->
  aa B.f s ([pI it (S+200) (i:Int),pL S (tL La) e,c5 b w D vv dk dv,dn,pD 5 (a7 (PB b w) Dc) de,pL acc (tL ys) ae]++R) (n+200) tk ->
  (∀(s':Shared) (n' tk' ae' dk':Nat) (dv':Value) (ys':List Tx),rh (La.map (·.1.cps.toList)) (ys'.map (·.1.cps.toList)) ->
   aa B.f s' ([pL S (tL La) e,c5 b w D (decide (0<La.length)) dk' dv',dn,pD 5 (a7 (PB b w) Dc) de,pL acc (tL ys') ae']++R) (n'+200) tk'->bZ s s'->Q (.ok .next) s') ->
  codeAny (Mo PW (WB b w)) A (cY lr [cX 0] it acc D) Q s:=by
 intro left
 induction left with
 | zero =>
  intro i vv n tk ae dk dv ys s hi hvv hl hsp I h
  refine aF (a8 lS) ?_
  have e':i=La.length:=by lia
  subst hvv
  subst e'
  refine rF hA (AX b w it acc D n tk La.length S e (tL La)) nP (fc ⟨aU (by rw[N8,aJ];lia),bu⟩) (R:=[c5 b w D (decide (0<La.length)) dk dv,dn,pD 5 (a7 (PB b w) Dc) de,pL acc (tL ys) ae]++R) I λs1 I1 k1=>?_
  all_goals try dsimp only[vp]at I1
  rw[Om]at hsp
  exact λ_ _ _=>h s1 (n+2) _ ae dk dv ys hsp I1 k1
 | succ left ih =>
  intro i vv n tk ae dk dv ys s hi hvv hl hsp I h
  with_reducible refine gx (l:=La) (i:=i) (by lia) λg hg=>?_
  obtain⟨y,t,hy,hs,h5⟩:=hD g (NS hg)
  refine aF (a8 lS) ?_
  refine rF hA (AW b vv w it acc D S n tk i e dk g.2 t ae de (tL La) (tL ys) (a7 (PB b w) Dc) dv g.1 ⟨y.toArray⟩) (fc ⟨fC hy,bu⟩) (fc ⟨aH (cj hg),fc ⟨aD (by rw[aJ];lia),bu⟩⟩) I λs1 I1 k1=>?_
  dsimp only[vn]at I1
  rw[cU]at I1
  refine λ_ _ _=>⟨by rfl,ih (i+1) true n _ _ _ _ _ s1 (by lia) (by simp) (by simp[hl]) ?_ I1 λs' n' tk' ae' dk' dv' ys' q0 q1 q2=>h s' n' tk' ae' dk' dv' ys' q0 q1 (k1.trans q2)⟩
  rw[bt hg,NO,NO]
  exact hsp.snoc hs h5
end
theorem mY {α:Type}:∀{ps R:List α},ps.Nodup->(∀p∈ps,p∈R)->∃R',R.Perm (ps++R')
 | [],R,_,_=>⟨R,.refl _⟩
 | p::r,R,hn,hs=>by
  obtain⟨h1,h2⟩:=Ob.mp hn
  obtain⟨l1,l2,rfl⟩:=List.append_of_mem (hs p (.head _))
  obtain⟨R',h3⟩:=mY (R:=l1++l2) h2 λq hq=>by
   have:=hs q (.tail _ hq)
   have hne:q≠p:=λe=>h1 (e▸hq)
   rcases NK.mp this with h|h
   ·exact NK.mpr (.inl h)
   ·rcases N0.mp h with h|h
    ·exact absurd h hne
    ·exact NK.mpr (.inr h)
  exact⟨R',OQ.trans (Q5 p h3)⟩
theorem IP {a c:List Tx}(h:tL a=tL c):a.map (·.1)=c.map (·.1):=by
 have h1:bK a=bK c:=by
  have:=congrArg Array.toList h
  simpa[tL]using this
 clear h
 induction a generalizing c with
 | nil=>cases c with
  | nil=>rfl
  | cons=>exact nomatch h1
 | cons x r ih=>cases c with
  | nil=>exact nomatch h1
  | cons y t =>
   rw[bK,bK,Oa,Oa,List.cons.injEq]at h1
   rw[Oa,Oa,ih h1.2]
   have:=h1.1
   injection this with e1 e2
   rw[e1]
structure Br (Dc:Dk)(N:Nd):Prop where
 a:N.A≠[]
 b:N.B≠[]
 hd:N.A.head?≠N.B.head?
 ln:N.A.length+N.B.length=N.d
 tx:N.A.flatten=N.B.flatten
 d:N.d<=41
 sp:∀x,x∈N.A\/x∈N.B->x.length<=4/\∃(y:List Nat) (t:Nat),bM Dc ⟨x.toArray⟩=some (.str ⟨y.toArray⟩ t)/\dJ x y/\y.length<=5
theorem gn (L:List Tx):aZ L=(L.map (·.1.cps.toList)).flatten:=rfl
def tg (p:Addr×Obj):Nat:=match p.2.cls with
 | .type c=>if c = "list" then 3 else if c = "cell" then 4 else if c = "dict" then 5 else(match((uw p.2)[1]?:Option Value)with|some (.int _ _)=>1|_=>2)
 | _=>0
theorem eE {p q:Addr×Obj}(h:Rd (tg p) (tg q)=false):p≠q:=λe=>Nat.ne_of_beq_eq_false h (congrArg tg e)
section
variable{b:Bool}{w:World}{B:Bx (KL (PB b w))}{A:Around}{s:Shared}{R:aK}
theorem Fl {lv:Nat}(hA:ad lv A)(hlv:lv<=8){n tk fe fw p ti tl qe de:Nat}{X:Lv}{f:Fo}{fr:List Fo}{fs:List Fo}(hfs:fs=f::fr)(hfl:fs.length<=3){fb:List Bool}{L:Lx}{pb:List Value}{Dc:Dk}(pk:Br Dc f.o.N)
  (hL:∀q∈f.o.own,q∈R) (hT:(oY f)∈R) (hLa:f.o.La.map (·.1.cps.toList)=f.o.N.A) (hLb:f.o.Lb.map (·.1.cps.toList)=f.o.N.B) (h1:(dn:Addr×Obj)∈R) (h2:((pD 5 (a7 (PB b w) Dc) de):Addr×Obj)∈R)
  (I:aa B.f s ([cz b w X 2,pL X.few (bV fb) fe,pL X.fd (cE fs) fw,bD L]++(ai (PB b w) L (p:Int) ti 3 tl pb qe++R)) (n+200) tk)
  {Q:Fin->aP} {E:Value->aP}
  (h:∀(s':Shared) (X':Lv) (n' tk':Nat),X'.few=X.few->X'.least=X.least->X'.text=⟨f.o.N.A.flatten.toArray⟩->X'.dots=((f.o.N.d:Nat):Int)->(∃M,aa B.f s' ([cz b w X' 7,pL X'.few (bV fb) fe]++(M++R)) (n'+200) tk')->bZ s s'->Q (.done .next) s') :
  an PW (WB b w) A Q E [] (cm (pf [19,20,21,22,23,24]) aE) s:=by
 have l5:2000<=sizeLine:=by decide +kernel
 have la:f.o.La.length=f.o.N.A.length:=by have:=congrArg N9 hLa;rwa [NM]at this
 have lb:f.o.Lb.length=f.o.N.B.length:=by have:=congrArg N9 hLb;rwa [NM]at this
 have hla0:0<f.o.La.length:=by rw[la];exact Ov.mpr pk.a
 have hlb0:0<f.o.Lb.length:=by rw[lb];exact Ov.mpr pk.b
 have hsum:=pk.ln
 have hd41:=pk.d
 with_reducible refine gx (l:=f.o.La) (i:=0) hla0 λg1 hg1=>?_
 with_reducible refine gx (l:=f.o.Lb) (i:=0) hlb0 λg2 hg2=>?_
 have hh1:f.o.N.A.head?=some g1.1.cps.toList:=by rw[<-hLa,QZ,N7,hg1];rfl
 have hh2:f.o.N.B.head?=some g2.1.cps.toList:=by rw[<-hLb,QZ,N7,hg2];rfl
 have hne:g1.1.cps.toList≠g2.1.cps.toList:=λe=>pk.hd (by rw[hh1,hh2,e])
 have spA:∀q∈f.o.La,∃(y:List Nat) (t:Nat),bM Dc q.1=some (.str ⟨y.toArray⟩ t)/\dJ q.1.cps.toList y/\y.length<=5:=λq hq=>by
  have:=(pk.sp q.1.cps.toList (.inl (by rw[<-hLa];exact NL.mpr ⟨q,hq,rfl⟩))).2
  rwa [fj]at this
 have CB:∀q∈f.o.Lb,∃(y:List Nat) (t:Nat),bM Dc q.1=some (.str ⟨y.toArray⟩ t)/\dJ q.1.cps.toList y/\y.length<=5:=λq hq=>by
  have:=(pk.sp q.1.cps.toList (.inr (by rw[<-hLb];exact NL.mpr ⟨q,hq,rfl⟩))).2
  rwa [fj]at this
 have l4:∀q∈f.o.La,q.1.length<=4:=λq hq=>by
  have:=(pk.sp q.1.cps.toList (.inl (by rw[<-hLa];exact NL.mpr ⟨q,hq,rfl⟩))).1
  simpa[Str.length]using this
 have hfa:aZ f.o.La=f.o.N.A.flatten:=by rw[gn,hLa]
 have hfal:=u8 l4
 have hnd:([oY f,cM f.o.tp f.o.a f.o.b,pL f.o.a (tL f.o.La) f.o.ea,pL f.o.b (tL f.o.Lb) f.o.eb,dn,pD 5 (a7 (PB b w) Dc) de]:aK).Nodup:=by
  have n34:tL f.o.La≠tL f.o.Lb:=λe=>by
   have e1:=IP e
   have e2:=congrArg (λl:List Str=>l[0]?) e1
   simp only[N7,hg1,hg2,Q0,Oj.injEq]at e2
   exact hne (by rw[e2])
  exact .cons (fc ⟨eE (by kernel_rfl),fc ⟨eE (by kernel_rfl),fc ⟨eE (by kernel_rfl),fc ⟨eE (by kernel_rfl),fc ⟨eE (by kernel_rfl),λ_ h=>nomatch h⟩⟩⟩⟩⟩) (.cons (fc ⟨eE (by kernel_rfl),fc ⟨eE (by kernel_rfl),fc ⟨eE (by kernel_rfl),fc ⟨eE (by kernel_rfl),λ_ h=>nomatch h⟩⟩⟩⟩) (.cons (fc ⟨λe=>n34 (congrArg (λp:Addr×Obj=>uw p.2) e),fc ⟨eE (by kernel_rfl),fc ⟨eE (by kernel_rfl),λ_ h=>nomatch h⟩⟩⟩) (.cons (fc ⟨eE (by kernel_rfl),fc ⟨eE (by kernel_rfl),λ_ h=>nomatch h⟩⟩) (.cons (fc ⟨eE (by kernel_rfl),λ_ h=>nomatch h⟩) (.cons nM .nil)))))
 obtain⟨R1,hp⟩:=mY hnd (fc ⟨hT,fc ⟨hL _ (.head _),fc ⟨hL _ (.tail _ (.head _)),fc ⟨hL _ (.tail _ (.tail _ (.head _))),fc ⟨h1,fc ⟨h2,λ_ h=>nomatch h⟩⟩⟩⟩⟩⟩)
 with_reducible refine nm ({X with one:=f.o.a,two:=f.o.b}:Lv) λX0 hX0=>?_
 have e01:X0.few=X.few:=by rw[hX0]
 have e02:X0.fd=X.fd:=by rw[hX0]
 have e03:X0.least=X.least:=by rw[hX0]
 have e04:X0.one=f.o.a:=by rw[hX0]
 have e05:X0.two=f.o.b:=by rw[hX0]
 have e06:((cz b w X 2):Addr×Obj)=(cz b w X0 2):=by subst hX0;rfl
 rw[<-e04,<-e05]at hp
 rw[e06,<-e01,<-e02]at I
 rw[<-e01,<-e03]at h
 clear e06 e01 e02 e03 e04 e05 hX0
 clear hL hT h1 h2 hnd
 generalize X0=X at *
 have J0:aa B.f s ([cz b w (fB X X.kk X.pm) 2,pL X.fd (cE fs) fw,oY f,cM f.o.tp X.one X.two,pL X.one (tL f.o.La) f.o.ea,pL X.two (tL f.o.Lb) f.o.eb,bD L,jc (PB b w) L 3 tl,jb L]++([pL X.few (bV fb) fe,dn,pD 5 (a7 (PB b w) Dc) de]++(vy (PB b w) L p ti pb qe++R1))) (n+200) tk:=by
  have h3:=jT (M:=[cz b w X 2,pL X.few (bV fb) fe,pL X.fd (cE fs) fw,bD L]) I
  have h4:aa B.f s ([cz b w X 2,pL X.few (bV fb) fe,pL X.fd (cE fs) fw,bD L,jc (PB b w) L 3 tl,jb L]++(vy (PB b w) L p ti pb qe++([oY f,cM f.o.tp X.one X.two,pL X.one (tL f.o.La) f.o.ea,pL X.two (tL f.o.Lb) f.o.eb,dn,pD 5 (a7 (PB b w) Dc) de]++R1))) (n+200) tk:=
   h3.perm (NQ [cz b w X 2,pL X.few (bV fb) fe,pL X.fd (cE fs) fw,bD L,jc (PB b w) L 3 tl,jb L] (NQ _ hp))
  have h5:=aa.mid (M:=[cz b w X 2,pL X.few (bV fb) fe,pL X.fd (cE fs) fw,bD L,jc (PB b w) L 3 tl,jb L]) h4
  exact h5.ord 12 [0,2,6,7,8,9,3,4,5,1,10,11]
 have hw0:(cE fs)[0]?=some (.ref (f.a+200)):=by rw[hfs];rfl
 have pjA:∀t:Nat,ak PW (WB b w) (KL (PB b w)) 9000 ⟨bc "str.join" [.str (Rf "") t,.ref (X.one+200)],aG ⟨(aZ f.o.La).toArray⟩ (d8 f.o.La) (ev f.o.La),[pL X.one (tL f.o.La) f.o.ea]⟩:=λt=>dW (ps:=f.o.La) (by lia)
 have plA:∀{a c:Nat} {l:List Tx},l.length<=41->ak PW (WB b w) (KL (PB b w)) 9000 ⟨bc "len" [.ref a],aL ((l.length:Nat):Int),[(a,ab (tL l) c)]⟩:=λ{a c l} hl=>by
  have:=cB (prog:=PW) (w:=WB b w) (K:=KL (PB b w)) (U:=9000) (a:=a) (n:=c) (xs:=tL l) (by rw[aJ];lia)
  rwa [aJ]at this
 refine fz hA (E4 b X.kk X.pm w X n tk (cE fs) (tL f.o.La) (tL f.o.Lb) fw f.o.ea f.o.eb f.a f.o.tp f.td ((f.o.N.d:Nat):Int) L 3 tl ⟨(aZ f.o.La).toArray⟩ (d8 f.o.La) (ev f.o.La) g1.1 g2.1 g1.2 g2.2 ((f.o.La.length:Nat):Int) ((f.o.Lb.length:Nat):Int) ((f.o.N.d:Nat):Int)) rfl
  (fc ⟨aq hw0 (by decide),fc ⟨pjA _,fc ⟨aq (cj hg1) (by decide),fc ⟨aq (cj hg2) (by decide),fc ⟨bA (by simpa using hne),fc ⟨plA (by lia),fc ⟨plA (by lia),fc ⟨cb (by lia),fc ⟨fq (by simp),fc ⟨fq (by decide),bu⟩⟩⟩⟩⟩⟩⟩⟩⟩⟩) nP J0 λs1 I1 k1=>?_
 dsimp only[tJ]at I1
 with_reducible refine nm ({X with kk:=X.kk,pm:=X.pm,dots:=((f.o.N.d:Nat):Int),tdo:=f.td,text:=⟨(aZ f.o.La).toArray⟩,tte:=d8 f.o.La (tk+5),q:=qU (qU (qU X.q 23 (tk+1)) 24 (tk+2)) 25 (tk+5+ev f.o.La)}:Lv) λX1 hX1=>?_
 have e1:X1=(fB X1 X.kk X.pm):=by rw[hX1]
 have e11:X1.few=X.few:=by rw[hX1]
 have e12:X1.least=X.least:=by rw[hX1]
 have e13:X1.text=⟨f.o.N.A.flatten.toArray⟩:=by rw[hX1,<-hfa]
 have e14:X1.dots=((f.o.N.d:Nat):Int):=by rw[hX1]
 have e15:X1.two=X.two:=by rw[hX1]
 rw[<-hX1]at I1
 have oo:∃M1:aK,aa B.f s1 ([pI (n+6) (X.one+200) ((0:Nat):Int),pL X.one (tL f.o.La) f.o.ea,c5 b w (n+8) false 0 .none,dn,pD 5 (a7 (PB b w) Dc) de,pL (n+7) (tL []) 0]++([cz b w X1 5,pL X.few (bV fb) fe,pL X.two (tL f.o.Lb) f.o.eb,oY f,cM f.o.tp X.one X.two]++(M1++R1))) (n+9+200) (tk+5+ev f.o.La+11):=⟨[pL X.fd (cE fs) fw,bD L,jc (PB b w) L 3 tl,jb L]++vy (PB b w) L p ti pb qe,I1.ord 15 [9,4,11,13,14,10,0,12,5,2,3,1,6,7,8]⟩
 obtain⟨M1,J1⟩:=oo
 refine cx lR (J1.has (pI (n+6) (X.one+200) ((0:Nat):Int)) (.head _)) ?_
 refine IL (hA.uq (xc ..)) (by lia) spA f.o.La.length 0 false (n+9) _ 0 0 .none [] s1 (by lia) rfl rfl .nil J1 ?_
 intro s2 n2 tk2 ae2 dk2 dv2 ys1 sl1 I2 k2
 rw[decide_eq_true hla0]at I2
 rw[hLa]at sl1
 have y1l:=sl1.len
 have y1c:ys1.length<=41:=by have:=y1l.2;rw[NM]at this;lia
 have y1f:(aZ ys1).length<=205:=by rw[gn];have:=y1l.1;lia
 have J2:aa B.f s2 ([cz b w (fB X1 X.kk X.pm) 5,c5 b w (n+8) true dk2 dv2,pL (n+7) (tL ys1) ae2,pL X1.two (tL f.o.Lb) f.o.eb]++([dn,pD 5 (a7 (PB b w) Dc) de,pL X.few (bV fb) fe,oY f,cM f.o.tp X.one X.two,pL X.one (tL f.o.La) f.o.ea]++(M1++R1))) (n2+200) tk2:=by
  rw[<-e1,e15]
  exact(show aa B.f s2 ([pL X.one (tL f.o.La) f.o.ea,c5 b w (n+8) true dk2 dv2,dn,pD 5 (a7 (PB b w) Dc) de,pL (n+7) (tL ys1) ae2,cz b w X1 5,pL X.few (bV fb) fe,pL X.two (tL f.o.Lb) f.o.eb,oY f,cM f.o.tp X.one X.two]++(M1++R1)) (n2+200) tk2 from I2).ord 10 [5,1,4,7,2,3,6,8,9,0]
 have pj1:∀t:Nat,ak PW (WB b w) (KL (PB b w)) 9000 ⟨bc "str.join" [.str (Rf "") t,.ref (n+7+200)],aG ⟨(aZ ys1).toArray⟩ (d8 ys1) (ev ys1),[pL (n+7) (tL ys1) ae2]⟩:=λt=>dW (ps:=ys1) (by lia)
 refine fz hA (AY b X.kk X.pm w X n tk (cE fs) (tL f.o.La) (tL f.o.Lb) fw f.o.ea f.o.eb f.a f.o.tp f.td ((f.o.N.d:Nat):Int) L 3 tl ⟨(aZ f.o.La).toArray⟩ (d8 f.o.La) (ev f.o.La) g1.1 g2.1 g1.2 g2.2 ((f.o.La.length:Nat):Int) ((f.o.Lb.length:Nat):Int) ((f.o.N.d:Nat):Int) X1 n2 tk2 dk2 ae2 dv2 (tL ys1) ⟨(aZ ys1).toArray⟩ (d8 ys1) (ev ys1)) rfl (fc ⟨pj1 _,bu⟩) nP J2 λs3 I3 k3=>?_
 dsimp only[oS]at I3
 with_reducible refine nm ({X1 with kk:=X.kk,pm:=X.pm,first:=⟨(aZ ys1).toArray⟩,tfi:=d8 ys1 tk2,q:=qU X1.q 26 (tk2+ev ys1)}:Lv) λX3 hX3=>?_
 have e3:X3=(fB X3 X.kk X.pm):=by rw[hX3]
 have e31:X3.few=X.few:=by rw[hX3];exact e11
 have e32:X3.least=X.least:=by rw[hX3];exact e12
 have e33:X3.text=⟨f.o.N.A.flatten.toArray⟩:=by rw[hX3];exact e13
 have e34:X3.dots=((f.o.N.d:Nat):Int):=by rw[hX3];exact e14
 have e35:X3.first=⟨(aZ ys1).toArray⟩:=by rw[hX3]
 rw[<-hX3,e15]at I3
 have J3:aa B.f s3 ([pI n2 (X.two+200) ((0:Nat):Int),pL X.two (tL f.o.Lb) f.o.eb,c5 b w (n2+2) false 0 .none,dn,pD 5 (a7 (PB b w) Dc) de,pL (n2+1) (tL []) 0]++([cz b w X3 6,pL X.few (bV fb) fe,oY f,cM f.o.tp X.one X.two,pL X.one (tL f.o.La) f.o.ea]++(M1++R1))) (n2+3+200) (tk2+ev ys1+2):=by
  exact(show aa B.f s3 ([cz b w X3 6,pL X.two (tL f.o.Lb) f.o.eb,pI n2 (X.two+200) 0,pL (n2+1) #[] 0,(n2+2+200,cy [] 0),dn,pD 5 (a7 (PB b w) Dc) de,pL X.few (bV fb) fe,oY f,cM f.o.tp X.one X.two,pL X.one (tL f.o.La) f.o.ea]++(M1++R1)) (n2+3+200) (tk2+ev ys1+2)from I3).ord 11 [2,1,4,5,6,3,0,7,8,9,10]
 refine cx lS (J3.has (pI n2 (X.two+200) ((0:Nat):Int)) (.head _)) ?_
 refine IO (hA.uq (tK ..)) (by lia) CB f.o.Lb.length 0 false (n2+3) _ 0 0 .none [] s3 (by lia) rfl rfl .nil J3 ?_
 intro s4 n4 tk4 ae4 dk4 dv4 ys2 sl2 I4 k4
 rw[decide_eq_true hlb0]at I4
 rw[hLb]at sl2
 have y2l:=sl2.len
 have y2c:ys2.length<=41:=by have:=y2l.2;rw[NM]at this;lia
 have y2f:(aZ ys2).length<=205:=by rw[gn];have:=y2l.1;lia
 have J4:aa B.f s4 ([cz b w (fB X3 X.kk X.pm) 6,c5 b w (n2+2) true dk4 dv4,pL (n2+1) (tL ys2) ae4]++([dn,pD 5 (a7 (PB b w) Dc) de,pL X.few (bV fb) fe,oY f,cM f.o.tp X.one X.two,pL X.one (tL f.o.La) f.o.ea,pL X.two (tL f.o.Lb) f.o.eb]++(M1++R1))) (n4+200) tk4:=by
  rw[<-e3]
  exact(show aa B.f s4 ([pL X.two (tL f.o.Lb) f.o.eb,c5 b w (n2+2) true dk4 dv4,dn,pD 5 (a7 (PB b w) Dc) de,pL (n2+1) (tL ys2) ae4,cz b w X3 6,pL X.few (bV fb) fe,oY f,cM f.o.tp X.one X.two,pL X.one (tL f.o.La) f.o.ea]++(M1++R1)) (n4+200) tk4 from I4).ord 10 [5,1,4,2,3,6,7,8,9,0]
 have pj2:∀t:Nat,ak PW (WB b w) (KL (PB b w)) 9000 ⟨bc "str.join" [.str (Rf "") t,.ref (n2+1+200)],aG ⟨(aZ ys2).toArray⟩ (d8 ys2) (ev ys2),[pL (n2+1) (tL ys2) ae4]⟩:=λt=>dW (ps:=ys2) (by lia)
 have hA1:lT (aZ ys1)=g1.1.cps.toList/\aZ ys1≠[]:=by
  rw[gn]
  cases q:f.o.N.A with
  | nil=>exact absurd q pk.a
  | cons x r=>rw[q]at sl1 hh1;cases hh1;exact sl1.first
 have hB1:lT (aZ ys2)=g2.1.cps.toList/\aZ ys2≠[]:=by
  rw[gn]
  cases q:f.o.N.B with
  | nil=>exact absurd q pk.b
  | cons x r=>rw[q]at sl2 hh2;cases hh2;exact sl2.first
 have hfl:aZ ys1≠aZ ys2:=λe=>hne (by rw[<-hA1.1,<-hB1.1,e])
 refine fz hA (AZ b X.kk X.pm w X n tk (cE fs) (tL f.o.La) (tL f.o.Lb) fw f.o.ea f.o.eb f.a f.o.tp f.td ((f.o.N.d:Nat):Int) L 3 tl ⟨(aZ f.o.La).toArray⟩ (d8 f.o.La) (ev f.o.La) g1.1 g2.1 g1.2 g2.2 ((f.o.La.length:Nat):Int) ((f.o.Lb.length:Nat):Int) ((f.o.N.d:Nat):Int) X1 n2 tk2 dk2 ae2 dv2 (tL ys1) ⟨(aZ ys1).toArray⟩ (d8 ys1) (ev ys1) X3 n4 tk4 dk4 ae4 dv4 (tL ys2) ⟨(aZ ys2).toArray⟩ (d8 ys2) (ev ys2)) rfl (fc ⟨pj2 _,fc ⟨bA (by rw[e35];simpa using hfl),bu⟩⟩) nP J4 λs5 I5 k5=>?_
 dsimp only[j9]
 dsimp only[j9]at I5
 with_reducible refine nm ({X3 with kk:=X.kk,pm:=X.pm,second:=⟨(aZ ys2).toArray⟩,tsc:=d8 ys2 (tk4+0),q:=qU X3.q 27 (tk4+ev ys2)}:Lv) λX5 hX5=>?_
 have e5:X5=(fB X5 X.kk X.pm):=by rw[hX5]
 have e51:X5.few=X.few:=by rw[hX5];exact e31
 have e52:X5.least=X.least:=by rw[hX5];exact e32
 have e53:X5.text=⟨f.o.N.A.flatten.toArray⟩:=by rw[hX5];exact e33
 have e54:X5.dots=((f.o.N.d:Nat):Int):=by rw[hX5];exact e34
 have e55:X5.second=⟨(aZ ys2).toArray⟩:=by rw[hX5]
 rw[<-hX5]at I5
 rw[e35]
 have fAl:f.o.N.A.flatten.length<=164:=by rw[<-hfa];lia
 refine codeAny_mono (jt (B:=B.more _) (hA.uq (tM ..)) (by lia) (text:=⟨(aZ ys1).toArray⟩) sl1.prep hA1.2 (by lia) (aa.fr (M:=[]) I5)) ?_
 rintro r6 s6 ⟨n6,tk6,t6,rfl,I6,k6⟩
 have J6:=aa.un (M:=[]) I5 I6
 have J6':aa B.f s6 ([cz b w (fB X5 X.kk X.pm) 7]++([dn,pD 5 (a7 (PB b w) Dc) de,pL X.few (bV fb) fe,oY f,cM f.o.tp X.one X.two,pL X.one (tL f.o.La) f.o.ea,pL X.two (tL f.o.Lb) f.o.eb]++(M1++R1))) (n6+200) tk6:=by
  rw[<-e5];exact J6
 refine fz hA (A0 b X.kk X.pm w X n tk (cE fs) (tL f.o.La) (tL f.o.Lb) fw f.o.ea f.o.eb f.a f.o.tp f.td ((f.o.N.d:Nat):Int) L 3 tl ⟨(aZ f.o.La).toArray⟩ (d8 f.o.La) (ev f.o.La) g1.1 g2.1 g1.2 g2.2 ((f.o.La.length:Nat):Int) ((f.o.Lb.length:Nat):Int) ((f.o.N.d:Nat):Int) X1 n2 tk2 dk2 ae2 dv2 (tL ys1) ⟨(aZ ys1).toArray⟩ (d8 ys1) (ev ys1) X3 n4 tk4 dk4 ae4 dv4 (tL ys2) ⟨(aZ ys2).toArray⟩ (d8 ys2) (ev ys2) X5 n6 tk6 t6 ⟨f.o.N.A.flatten.toArray⟩) rfl (fc ⟨cv (by rw[e53];simp),bu⟩) nP J6' λs7 I7 k7=>?_
 dsimp only[oT]
 rw[e55]
 refine codeAny_mono (jt (B:=B.more _) (hA.uq (tN ..)) (by lia) (text:=⟨(aZ ys2).toArray⟩) sl2.prep hB1.2 (by rw[<-pk.tx];lia) (aa.fr (M:=[]) I7)) ?_
 rintro r8 s8 ⟨n8,tk8,t8,rfl,I8,k8⟩
 have J8:=aa.un (M:=[]) I7 I8
 rw[<-pk.tx]
 refine rF hA (A1 b X.kk X.pm w X n tk (cE fs) (tL f.o.La) (tL f.o.Lb) fw f.o.ea f.o.eb f.a f.o.tp f.td ((f.o.N.d:Nat):Int) L 3 tl ⟨(aZ f.o.La).toArray⟩ (d8 f.o.La) (ev f.o.La) g1.1 g2.1 g1.2 g2.2 ((f.o.La.length:Nat):Int) ((f.o.Lb.length:Nat):Int) ((f.o.N.d:Nat):Int) X1 n2 tk2 dk2 ae2 dv2 (tL ys1) ⟨(aZ ys1).toArray⟩ (d8 ys1) (ev ys1) X3 n4 tk4 dk4 ae4 dv4 (tL ys2) ⟨(aZ ys2).toArray⟩ (d8 ys2) (ev ys2) X5 n6 tk6 t6 ⟨f.o.N.A.flatten.toArray⟩ n8 tk8 t8 ⟨f.o.N.A.flatten.toArray⟩) (fc ⟨cv (by rw[e53];simp),bu⟩) nP J8 λs9 I9 k9=>ap ?_
 dsimp only[vq]at I9
 rw[<-e5]at I9
 refine h s9 X5 n8 tk8 e51 e52 e53 e54 ⟨M1,?_⟩ ((((((((k1.trans k2).trans k3).trans k4).trans k5).trans k6.sm).trans k7).trans k8.sm).trans k9)
 rw[e51]
 have J9:aa B.f s9 ([cz b w X5 7,pL X.few (bV fb) fe,oY f,cM f.o.tp X.one X.two,pL X.one (tL f.o.La) f.o.ea,pL X.two (tL f.o.Lb) f.o.eb,dn,pD 5 (a7 (PB b w) Dc) de]++(M1++R1)) (n8+200) tk8:=(show aa B.f s9 ([cz b w X5 7,dn,pD 5 (a7 (PB b w) Dc) de,pL X.few (bV fb) fe,oY f,cM f.o.tp X.one X.two,pL X.one (tL f.o.La) f.o.ea,pL X.two (tL f.o.Lb) f.o.eb]++(M1++R1)) (n8+200) tk8 from I9).ord 8 [0,3,4,5,6,7,1,2]
 refine J9.perm (NQ [cz b w X5 7,pL X.few (bV fb) fe] ?_)
 exact(NX [oY f,cM f.o.tp X.one X.two,pL X.one (tL f.o.La) f.o.ea,pL X.two (tL f.o.Lb) f.o.eb,dn,pD 5 (a7 (PB b w) Dc) de] M1 R1).trans (NQ _ hp.symm)
end
theorem IQ {P:Params}{a:Nat}{o:Obj}(h:KL P a=some o):a∈gw:=by
 have e:(KB P).map (·.1)=gw:=by kernel_rfl
 rw[<-e]
 unfold KL at h
 generalize KB P=l at h
 induction l with
 | nil=>simp at h
 | cons p r ih =>
  obtain⟨x,y⟩:=p
  unfold List.lookup at h
  cases q:a==x with
  | true=>rw[eq_of_beq q];exact .head _
  | false=>rw[q]at h;exact .tail _ (ih h)
theorem Gy:ad 0 callerA:=⟨by show(1+claimMargin:Nat)<=301;decide,by show(4:Nat)<=100;decide,rfl,by decide⟩
def KN (b:Bool)(w:World)(s:Shared)(hb:∀a o,KL (PB b w) a=some o->s.heap.get? a=some o):Bx (KL (PB b w)):=⟨λa=>if a=156\/a=189 then none else s.heap.get? a,λa o h=>by
 have h1:=IQ h
 have:∀x∈gw,¬(x=156\/x=189):=by decide
 rw[if_neg (this a h1)]
 exact hb a o h⟩
theorem xm:(cA 19).2.1=pf [0,1,2,3,4]++(pf [5,6]++(pf [7]++(fh 8::(pf [9,10,11,12,13,14]++(pf [15,16,17]++(fh 18::(pf [19,20,21,22,23,24]++[fh 25,fh 26]))))))):=by kernel_rfl
structure vz (C:List Tx):Prop where
 bd:kb (C.map (·.1.cps.toList))
 no:∀k ts ws bk,rg (C.map (·.1.cps.toList)) k->(am (C.map (·.1.cps.toList)) k).2=[]->(am (C.map (·.1.cps.toList)) k).1.length=k->im C ts ws 6->fS (dN (C.map (·.1)) 3) bk->(∀i,i<7->eM ts ws i=false)/\bk.foldl gF 99=99
 yes:∀k f ts ws bk,rg (C.map (·.1.cps.toList)) k->(am (C.map (·.1.cps.toList)) k).2[0]?=some f->im C ts ws 6->fS (dN (C.map (·.1)) 3) bk ->
  f.A≠[]/\f.B≠[]/\f.A.head?≠f.B.head?/\f.A.length+f.B.length=f.d/\f.A.flatten=f.B.flatten/\f.d<=41/\(∀x,x∈f.A\/x∈f.B->x∈C.map (·.1.cps.toList))/\(f.A.flatten.length<=6->eM ts ws f.A.flatten.length=true)/\(f.d<=4->bk.foldl gF 99=f.d)/\(4<f.d->f.d<=bk.foldl gF 99)
def fP (C:List Tx):Prop:=(C.map (·.1.cps.toList)).Nodup/\1<=C.length/\C.length<=3/\∀p∈C,qy p.1.cps.toList
theorem fP.ok {C:List Tx}(h:fP C):gc C:=⟨h.2.1,h.2.2.1,λp hp=>by
 have:=h.2.2.2 p hp
 have e:p.1.cps.toList.length=p.1.length:=by simp[Str.length]
 exact⟨by have:=this.l1;lia,by have:=this.l4;lia,λc hc=>this.sg c hc⟩⟩
section
variable{b:Bool}{w:World}{B:Bx (KL (PB b w))}{A:Around}{s:Shared}{R:aK}
theorem KO {lv:Nat}(hA:ad lv A){st:Stmt}(hst:st=fh 25){n tk fe:Nat}{X:Lv}{ts:List Lt}{ws:List (Nat×Nat)}{t:List Nat}(ht:X.text=⟨t.toArray⟩)(hl:t.length<=1000)(hf:t.length<=6->eM ts ws t.length=true)
  (I:aa B.f s ([cz b w X 7,pL X.few (bV (fH ts ws)) fe]++R) (n+200) tk)
  {Q:Flow->aP} {E:Value->aP}
  (h:∀(s':Shared) (n' tk':Nat),aa B.f s' ([cz b w X 7,pL X.few (bV (fH ts ws)) fe]++R) (n'+200) tk'->bZ s s'->Q .next s') :
  wpAny (Mo PW (WB b w)) A (exec st aE) Q E s:=by
 have el:X.text.length=t.length:=by rw[ht];simp[Str.length]
 have pl:∀u:Nat,ak PW (WB b w) (KL (PB b w)) 9000 ⟨bc "len" [.str X.text u],{v:=λt' _=>.int ((t.length:Nat):Int) (t'+1),dt:=2},[]⟩:=λu=>bC (by rw[el]) (by rw[el];lia)
 by_cases h6:t.length<=6
 ·have hb:(bV (fH ts ws))[t.length]?=some (.bool true):=by
   have e:(fH ts ws)[t.length]?=some true:=by
    rw[<-hf h6]
    simp only[fH,N7,List.getElem?_range (show t.length<7 by lia),Q0]
   simp only[bV,PE,N7,e,Q0]
  refine rS hA hst (st:=[cz b w (fB X X.kk X.pm) 7,pL X.few (bV (fH ts ws)) fe]) (A2 b X.kk X.pm w X n tk ((t.length:Nat):Int) (bV (fH ts ws)) fe) (fc ⟨pl _,fc ⟨cI (decide_eq_true (by lia)),fc ⟨pl _,fc ⟨aq hb (by lia),bu⟩⟩⟩⟩) nP I λs1 I1 k1=>?_
  exact h s1 n (tk+5) I1 k1
 ·refine rS hA hst (st:=[cz b w (fB X X.kk X.pm) 7]) (A3 b X.kk X.pm w X n tk ((t.length:Nat):Int)) (fc ⟨pl _,fc ⟨cI (decide_eq_false (by lia)),bu⟩⟩) nP I λs1 I1 k1=>?_
  exact h s1 n (tk+3) I1 k1
theorem KP {lv:Nat}(hA:ad lv A){st:Stmt}(hst:st=fh 26){n tk:Nat}{X:Lv}{d m:Nat}(hd:X.dots=((d:Nat):Int))(hm:X.least=((m:Nat):Int))(h1:d<=4->m=d)(h2:4<d->d<=m)
  (I:aa B.f s ([cz b w X 7]++R) (n+200) tk)
  {Q:Flow->aP} {E:Value->aP}
  (h:∀(s':Shared) (n' tk':Nat),aa B.f s' ([cz b w X 7]++R) (n'+200) tk'->bZ s s'->Q (.ret (.bool true)) s') :
  wpAny (Mo PW (WB b w)) A (exec st aE) Q E s:=by
 by_cases h4:d<=4
 ·refine rS hA hst (st:=[cz b w (fB X X.kk X.pm) 7]) (A4 b X.kk X.pm w X n tk) (fc ⟨cI (decide_eq_true (by rw[hd];lia)),fc ⟨bJ (by rw[hd,hm,h1 h4];simp),bu⟩⟩) nP I λs1 I1 k1=>?_
  exact h s1 n (tk+1) I1 k1
 ·refine rS hA hst (st:=[cz b w (fB X X.kk X.pm) 7]) (A5 b X.kk X.pm w X n tk) (fc ⟨cI (decide_eq_false (by rw[hd];lia)),fc ⟨oZ (decide_eq_true (by rw[hd,hm];have:=h2 (by lia);lia)),bu⟩⟩) nP I λs1 I1 k1=>?_
  exact h s1 n (tk+1) I1 k1
theorem Bs (plain:∀C,fP C->vz C){vs:List Value}{ns:List Int}(hI:IntsAre vs ns)(h63:vs.length<=63)(hb:∀a o,KL (PB b w) a=some o->s.heap.get? a=some o)(h1:s.heap.get? 156=some ⟨.none,none,.fields #[],#[]⟩)(h2:s.heap.get? 189=some ⟨.type "list",none,.seq vs.toArray 0,#[]⟩)(hz:s.heap.objs.size=190) :
  codeAny (Mo PW (WB b w)) callerA sW (λr s'=>r=.ok (.ret (.bool true))/\mn s s'/\(∀a o,s.heap.get? a=some o->a≠156->s'.heap.get? a=some o)/\∃T,s'.heap.get? 156=some (eu T)) s:=by
 with_reducible refine nm (KN b w s hb) λB hB=>?_
 have I0:aa B.f s [(156,jX []),(189,ab vs.toArray 0)] 190 s.toks:=by
  refine⟨λp hp=>?_,(show([156,189]:List Nat).Nodup by decide),λa o h=>?_,λa o h hm=>?_,hz,rfl⟩
  ·rcases N0.mp hp with e|e
   ·rw[e];exact h1
   ·rw[NN.mp e];exact h2
  ·rw[hB]at h
   by_cases q:a=156\/a=189
   ·rw[KN]at h;simp only[if_pos q]at h;cases h
   ·rw[KN]at h;simp only[if_neg q]at h;exact h
  ·have hm':a∈([156,189]:List Nat):=hm
   have q:a=156\/a=189:=by simpa using hm'
   rw[hB,KN]at h
   simp only[if_pos q]at h
   cases h
 refine e8 ?_
 have hA0:ad 1 (callerA.under sW):=Gy.under (by decide) rfl
 refine rF (B:=B) hA0 (Ee b w s.toks) nP nP I0 λs1 I1 k1=>?_
 refine λ_ _ _=>⟨by rfl,?_⟩
 refine gH ?_
 have hA1:ad 1 (callerA.deeper aE):=Gy.deeper (by decide)
 rw[xm]
 have J1:aa B.f s1 ([(190,bO [eT (PB b w) "script" s.toks (.ref 189)] 1),(189,ab vs.toArray 0),(191,aM)]++[(192,aM),(193,aM),(156,jX [])]) 194 (s.toks+1):=I1.ord 6 [0,5,1,2,3,4]
 refine cR rfl (Bb (B:=B) hA1 (by decide) hI h63 J1 λs2 X2 l2 e2 tk2 hl2 hwd2 hsh2 I2 k2=>?_)
 have J2:aa B.f s2 ([bE b w X2 2,dn,pL 4 #[] 0,pD 5 #[] 0,(194,ab (aO l2) e2),(192,aM),(193,aM),(156,jX [])]++[(189,ab vs.toArray 0)]) (6+200) tk2:=I2.ord 9 [0,1,2,3,4,6,7,8,5]
 refine cR rfl (Ky (B:=B) hA1 (by decide) hl2 hwd2 hsh2 J2 ?_)
 intro s3 X3 ws Dc n3 tk3 we de ti3 tl3 c3 T L rs hws ok3 hrs hLt I3 k3
 with_reducible refine nm ([dn,(192,bQ c3),pD 5 (a7 (PB b w) Dc) de,(156,eu T),(189,ab vs.toArray 0)]:aK) λG hG=>?_
 have J3:aa B.f s3 ([bE b w X3 5,bD L,pL X3.wd (tL ws) we]++(jS (PB b w) L 0 ti3 1 tl3++G)) (n3+200) tk3:=by
  have h3:aa B.f s3 (([bE b w X3 5,bD L,pL X3.wd (tL ws) we]++[dn,(192,bQ c3),pD 5 (a7 (PB b w) Dc) de])++(jS (PB b w) L 0 ti3 1 tl3++[(156,eu T),(189,ab vs.toArray 0)])) (n3+200) tk3:=I3.ord 6 [0,3,4,1,2,5]
  rw[hG]
  exact h3.asd.perm (NQ _ (NX _ _ _))
 refine cR rfl (L4 (B:=B) hA1 (by decide) hws ok3.wd hrs hLt J3 ?_)
 intro s4 X4 av n4 tk4 ae4 p4 ti4 tl4 ew4 hav hp4 hpl4 hl2' hl5 I4 k4
 refine wpAny_execs_cons (L5 (B:=B) hA1 (by decide) rfl hws ok3.wd hav I4 ?_)
 intro s5 n5 tk5 I5 k5
 have J5:aa B.f s5 ([bE b w X4 6,pL X4.told (tL av) ae4,bD L]++(jS (PB b w) L p4 ti4 3 tl4++([pL X4.wd (tL ws) we]++G))) (n5+200) tk5:=by
  have h3:aa B.f s5 (([bE b w X4 6,pL X4.told (tL av) ae4,bD L]++[pL X4.wd (tL ws) we])++(jS (PB b w) L p4 ti4 3 tl4++G)) (n5+200) tk5:=I5.ord 4 [0,3,1,2]
  exact h3.asd.perm (NQ _ (NX _ _ _))
 refine cR rfl (IJ (B:=B) hA1 (by decide) hws ok3.wd hav hp4 J5 ?_)
 intro s6 X6 C ns6 qs6 n6 tk6 ce6 de6 qe6 R6 hnd6 hC1 hC3 hC6 wh6 rep6 hR6 I6 k6
 have cw:fP C:=⟨hnd6,hC1,hC3,λp hp=>(hC6 p hp).1⟩
 have pk:=plain C cw
 have hWl:∀c∈C.map (·.1.cps.toList),c.length<=4:=λc hc=>by
  obtain⟨p,hp,rfl⟩:=NL.mp hc
  exact(hC6 p hp).1.l4
 refine cR rfl ?_
 refine fz (B:=B) hA1 (AI b w n6 tk6) rfl nP nP I6 λs7 I7 k7=>?_
 have lg7:=tA b w n6 tk6
 refine Bn (B:=B) (hA1.up (by decide) lg7.1 lg7.2) (by decide) rfl hWl (by rw[NM];exact hC3) pk.bd hl2' hl5 hpl4 wh6 rep6 I7 ?_
 intro s8 X8 k ns8 ms8 fs8 qs8 me8 fe8 de8 qe8 p8 ti8 tl8 n8 tk8 lin8 R8 hgo8 run8 rep8 hst8 hR8 I8 k8
 have J8:aa B.f s8 ([cn b w X8 11,pL X8.cd (tL C) ce6]++([pL X8.fd (cE fs8) fe8,bD L]++(ai (PB b w) L (p8:Int) ti8 lin8 tl8 (bK qs8) qe8++([pL X8.met (tL ms8) me8,pD X8.rd (a7 (PB b w) (cg ns8)) de8]++R8)))) (n8+200) tk8:=by
  have h3:aa B.f s8 (([cn b w X8 11,pL X8.cd (tL C) ce6,pL X8.fd (cE fs8) fe8,bD L]++[pL X8.met (tL ms8) me8,pD X8.rd (a7 (PB b w) (cg ns8)) de8])++(ai (PB b w) L (p8:Int) ti8 lin8 tl8 (bK qs8) qe8++R8)) (n8+200) tk8:=
   (show aa B.f s8 ([pL X8.cd (tL C) ce6,cn b w X8 11,pL X8.met (tL ms8) me8,pL X8.fd (cE fs8) fe8,pD X8.rd (a7 (PB b w) (cg ns8)) de8,bD L]++(ai (PB b w) L (p8:Int) ti8 lin8 tl8 (bK qs8) qe8++R8)) (n8+200) tk8 from I8).ord 6 [1,0,3,5,2,4]
  exact h3.asd.perm (NQ _ (NX _ _ _))
 refine Fj (B:=B) hA1 (by decide) cw.ok hgo8 J8 ?_
 intro s9 X9 ts ws9 bk n9 tk9 fe9 okF okB hle9 hfd9 I9 k9
 have hmem:∀q∈G,q∈R8:=λq hq=>hR8.subset (hR6.subset (.tail _ hq))
 have hfs8:=rep8.hfs
 have kk:mn s s9:=(((((((k1.trans k2).trans k3).trans k4).trans k5).trans k6).trans k7).trans k8).ao.trans k9
 have done:∀(s':Shared) (nx tk':Nat) (M:aK),mn s s'->aa B.f s' (M++([pL X8.met (tL ms8) me8,pD X8.rd (a7 (PB b w) (cg ns8)) de8]++R8)) nx tk'->mn s s'/\(∀a o,s.heap.get? a=some o->a≠156->s'.heap.get? a=some o)/\∃T,s'.heap.get? 156=some (eu T):=by
  intro s' nx tk' M ks I'
  have m1:((189,ab vs.toArray 0):Addr×Obj)∈G:=by rw[hG];exact .tail _ (.tail _ (.tail _ (.tail _ (.head _))))
  have m2:((156,eu T):Addr×Obj)∈G:=by rw[hG];exact .tail _ (.tail _ (.tail _ (.head _)))
  have g1:=I'.has _ (NK.mpr (.inr (.tail _ (.tail _ (hmem _ m1)))))
  have g2:=I'.has _ (NK.mpr (.inr (.tail _ (.tail _ (hmem _ m2)))))
  refine⟨ks,λa o ha hne=>?_,T,g2⟩
  by_cases q:a=189
  ·subst q
   rw[h2]at ha
   cases ha
   exact g1
  ·refine I'.base a o ?_
   rw[hB,KN]
   simp only[if_neg (show ¬(a=156\/a=189) by intro h;rcases h with h|h;exact hne h;exact q h)]
   exact ha
 have J9:aa B.f s9 ([cz b w X9 2,pL X9.few (bV (fH ts ws9)) fe9,pL X9.fd (cE fs8) fe8,bD L]++(ai (PB b w) L (p8:Int) ti8 lin8 tl8 (bK qs8) qe8++([pL X8.met (tL ms8) me8,pD X8.rd (a7 (PB b w) (cg ns8)) de8]++R8))) (n9+200) tk9:=by
  rw[hfd9];exact I9
 refine wpAny_execs_cons (KM (B:=B) hA1 rfl ?_ J9 ?_)
 ·intro hf
  have hS:(am (C.map (·.1.cps.toList)) k).2=[]:=by rw[<-hfs8,hf];rfl
  rcases hst8 with q|q
  ·obtain⟨q1,q2⟩:=pk.no k ts ws9 bk run8 hS q.2.2 okF okB
   refine⟨q.2.1,by rw[hle9,q2];rfl,λx hx=>?_⟩
   obtain⟨i,hi,rfl⟩:=NL.mp hx
   exact q1 i (Q4.mp hi)
  ·exact absurd hS q.1
 ·intro s10 n10 tk10 k10
  refine⟨λhf ⟨M,IM⟩=>⟨rfl,done s10 _ _ M (kk.trans k10.ao) IM⟩,λhf I10=>?_⟩
  obtain⟨f,fr,hff⟩:∃f fr,fs8=f::fr:=by
   cases hq:fs8 with
   | nil=>exact absurd hq hf
   | cons f fr=>exact⟨f,fr,rfl⟩
  have hfm:f∈fs8:=by rw[hff];exact .head _
  have hfo:=rep8.fok f hfm
  have hS:(am (C.map (·.1.cps.toList)) k).2≠[]:=by rw[<-hfs8,hff];exact λq=>nomatch q
  have hlin:lin8=3:=by
   rcases hst8 with q|q
   ·exact absurd q.1 hS
   ·exact q.2.1
  subst hlin
  have hget:(am (C.map (·.1.cps.toList)) k).2[0]?=some f.fd:=by rw[<-hfs8,hff];rfl
  obtain⟨y1,y2,y3,y4,y5,y6,y7,y8,y9,y10⟩:=pk.yes k f.fd ts ws9 bk run8 hget okF okB
  have pok:Br Dc f.o.N:=by
   refine⟨y1,y2,y3,y4,y5,y6,λx hx=>?_⟩
   obtain⟨q,hq,e⟩:=NL.mp (y7 x hx)
   obtain⟨hq1,q',hq',e'⟩:=hC6 q hq
   have hs:=ok3.al q' hq'
   rw[e']at hs
   obtain⟨v,hv⟩:=Option.isSome_iff_exists.mp hs
   obtain⟨y,t,rfl,hsp,h5⟩:=ok3.di _ _ hv
   rw[<-e]
   refine⟨hq1.l4,y,t,?_,hsp,h5⟩
   rw[fj];exact hv
  have hfl:fs8.length<=3:=by
   have:=congrArg N9 hfs8
   rw[NM]at this
   rw[this];exact(pk.bd k run8).1.fl
  refine cR rfl (Fl (B:=B) hA1 (by decide) hff hfl pok (λq hq=>.tail _ (.tail _ (hfo.o.own q hq))) (.tail _ (.tail _ hfo.own)) hfo.o.ea hfo.o.eb (.tail _ (.tail _ (hmem _ (by rw[hG];exact .head _)))) (.tail _ (.tail _ (hmem _ (by rw[hG];exact .tail _ (.tail _ (.head _)))))) I10 ?_)
  intro s11 X11 n11 tk11 ef11 el11 et11 ed11 hI11 k11
  obtain⟨M11,I11⟩:=hI11
  have tl1:f.o.N.A.flatten.length<=1000:=by
   have h4:∀x∈f.o.N.A,x.length<=4:=λx hx=>(pok.sp x (.inl hx)).1
   have h5:∀l:List (List Nat),(∀x∈l,x.length<=4)->l.flatten.length<=4*l.length:=by
    intro l hl
    induction l with
    | nil=>exact OI _
    | cons x r ih =>
     have:=hl x (.head _)
     have:=ih λy hy=>hl y (.tail _ hy)
     rw[Ox,NR,NV];lia
   have:=h5 _ h4
   have:=pok.ln
   have:=pok.d
   lia
  refine wpAny_execs_cons (KO (B:=B) hA1 rfl et11 tl1 y8 I11 ?_)
  intro s12 n12 tk12 I12 k12
  refine wpAny_execs_cons (KP (B:=B) hA1 rfl (m:=bk.foldl gF 99) ed11 (el11.trans hle9) y9 y10 I12 ?_)
  intro s13 n13 tk13 I13 k13
  refine⟨rfl,done s13 (n13+200) tk13 ([cz b w X11 7,pL X11.few (bV (fH ts ws9)) fe9]++M11) (kk.trans (((k10.trans k11).trans k12).trans k13).ao) ?_⟩
  exact(show aa B.f s13 ([cz b w X11 7,pL X11.few (bV (fH ts ws9)) fe9]++(M11++([pL X8.met (tL ms8) me8,pD X8.rd (a7 (PB b w) (cg ns8)) de8]++R8))) (n13+200) tk13 from I13).asc
end
end Mine

namespace Mine
structure qT (W:List Wd):Prop where
 nd:W.Nodup
 l1:1<=W.length
 l3:W.length<=3
 wd:∀c∈W,1<=c.length/\c.length<=4/\∀x∈c,x=102\/x=105
structure qV (W:List Wd)(M:Nd):Prop where
 ne:M.r≠[]
 tx:M.A.flatten=M.B.flatten++M.r
 ln:M.A.length+M.B.length=M.d
 wa:∀x∈M.A,x∈W
 wb:∀x∈M.B,x∈W
 fi:∀x∈M.r,x=102\/x=105
 hd:(M.d=1/\M.A=[M.r]/\M.B=[])\/(2<=M.d/\M.A≠[]/\M.B≠[]/\M.A.head?≠M.B.head?/\M.r.length<=3)
structure Ma (W:List Wd)(f:Fd):Prop where
 a:f.A≠[]
 b:f.B≠[]
 hd:f.A.head?≠f.B.head?
 ln:f.A.length+f.B.length=f.d
 tx:f.A.flatten=f.B.flatten
 wa:∀x∈f.A,x∈W
 wb:∀x∈f.B,x∈W
theorem qV.r4 {W:List Wd}(hW:qT W){M:Nd}(h:qV W M):M.r.length<=4:=by
 rcases h.hd with⟨_,h1,_⟩|⟨_,_,_,_,h1⟩
 ·exact(hW.wd M.r (h.wa M.r (by rw[h1];exact .head _))).2.1
 ·lia
theorem xn {α:Type}{l:List α}(h:l≠[])(x:α):(l++[x]).head?=l.head?:=by
 cases l with
 | nil=>exact absurd rfl h
 | cons a r=>rfl
structure Mb (W:List Wd)(N:Nd)(more:Wd)(a b:List Wd):Prop where
 e:a.flatten=b.flatten++more
 l:a.length+b.length=N.d+1
 wa:∀x∈a,x∈W
 wb:∀x∈b,x∈W
 fi:∀x∈more,x=102\/x=105
 na:a≠[]
 nb:b≠[]
 hd:a.head?≠b.head?
 m3:more.length<=3
theorem Bt {W:List Wd}(hW:qT W){N:Nd}(hN:qV W N){c:Wd}(hc:c∈W){more:Wd}{a b:List Wd}(h:cC N c=some (more,a,b)) :
  Mb W N more a b:=by
 obtain⟨c1,c4,cf⟩:=hW.wd c hc
 have r1:1<=N.r.length:=Ov.mpr hN.ne
 have r4:=hN.r4 hW
 have hln:=hN.ln
 have hA0:N.A≠[]:=by
  rcases hN.hd with⟨_,h1,_⟩|⟨_,h1,_⟩
  ·rw[h1];simp
  ·exact h1
 have hh:¬(N.d=1/\c=N.r)->(N.B++[c]).head?≠N.A.head?:=λh0=>by
  rcases hN.hd with⟨h1,h2,h3⟩|⟨_,_,h2,h3,_⟩
  ·rw[h2,h3]
   intro q
   have q':some c=some N.r:=q
   exact h0 ⟨h1,Oj.inj q'⟩
  ·rw[xn h2];exact λq=>h3 q.symm
 unfold cC at h
 split at h
 ·cases h
 ·rename_i h0
  split at h
  ·rename_i h1
   cases h
   obtain⟨t,rfl⟩:=h1
   rw[P4]
   refine⟨?_,?_,?_,hN.wa,λx hx=>cf x (NK.mpr (.inr hx)),by simp,hA0,hh h0,?_⟩
   ·rw[Po,hN.tx];simp
   ·rw[NR,OJ];lia
   ·intro x hx
    rcases NK.mp hx with q|q
    ·exact hN.wb x q
    ·rw[NN.mp q];exact hc
   ·rw[NR]at c4;lia
  ·split at h
   ·rename_i h1
    cases h
    obtain⟨t,ht⟩:=h1
    rw[<-ht,P4]
    refine⟨?_,?_,hN.wa,?_,λx hx=>hN.fi x (by rw[<-ht];exact NK.mpr (.inr hx)),hA0,by simp,λq=>hh h0 q.symm,?_⟩
    ·rw[hN.tx,Po,<-ht];simp
    ·rw[NR,OJ];lia
    ·intro x hx
     rcases NK.mp hx with q|q
     ·exact hN.wb x q
     ·rw[NN.mp q];exact hc
    ·have:=congrArg N9 ht;rw[NR]at this;lia
   ·cases h
structure gp (W:List Wd)(S:Sf)(D:Nat):Prop where
 pre:∃T,S.1=bl W++T/\(∀M∈T,2<=M.d)/\(T.map (·.r)).Nodup
 nd:∀M∈S.1,qV W M
 srt:S.1.Pairwise (λa b=>a.d<=b.d)
 dl:∀M∈S.1,M.d<=D
 dx:∀(j:Nat) (M:Nd),S.1[j]?=some M->M.d<=j+1
 fd:∀f∈S.2,Ma W f/\f.d=D
theorem gN (W:List Wd):(bl W).length=W.length:=NM _
theorem lU (W:List Wd)(T:List Nd):(bl W++T).drop W.length=T:=by rw[<-gN W,P4]
theorem jG (m:Nat)(N:Nd)(S:Sf)(c:Wd):∃T F,(bG m N S c).1=S.1++T/\(bG m N S c).2=S.2++F:=by
 unfold bG
 split
 ·exact⟨[],[],by simp,by simp⟩
 ·split
  ·exact⟨[],[_],by simp,rfl⟩
  ·split
   ·exact⟨[],[],by simp,by simp⟩
   ·exact⟨[_],[],rfl,by simp⟩
theorem gP (m:Nat)(N:Nd):∀(L:List Wd) (S:Sf),∃T F,(L.foldl (bG m N) S).1=S.1++T/\(L.foldl (bG m N) S).2=S.2++F
 | [],S=>⟨[],[],by simp,by simp⟩
 | c::r,S=>by
  obtain⟨T1,F1,h1,h2⟩:=jG m N S c
  obtain⟨T2,F2,h3,h4⟩:=gP m N r (bG m N S c)
  exact⟨T1++T2,F1++F2,by rw[O1,h3,h1,NP],by rw[O1,h4,h2,NP]⟩
theorem lV (m:Nat)(N:Nd):∀(L:List Wd) (S:Sf),(L.foldl (bG m N) S).2.length<=S.2.length+L.length
 | [],S=>NT _
 | c::r,S=>by
  have h1:=lV m N r (bG m N S c)
  have h2:(bG m N S c).2.length<=S.2.length+1:=by
   unfold bG
   split
   ·exact Pj _
   ·split
    ·simp
    ·split<;>exact Pj _
  rw[O1,NV];lia
theorem xo {W:List Wd}(hW:qT W){N:Nd}{S:Sf}{k:Nat}(hk:S.1[k]?=some N)(g:gp W S (N.d+1)){c:Wd}(hc:c∈W):gp W (bG W.length N S c) (N.d+1):=by
 have hN:=g.nd N (NS hk)
 cases hr:cC N c with
 | none=>unfold bG;rw[hr];exact g
 | some p =>
  obtain⟨more,a,b⟩:=p
  obtain⟨p1,p2,p3,p4,p5,p6,p7,p8,p9⟩:=Bt hW hN hc hr
  unfold bG
  rw[hr]
  show gp W (if more=[]then(S.1,S.2++[⟨a,b,N.d+1⟩])else if more∈(S.1.drop W.length).map (·.r)then S else(S.1++[⟨N.d+1,more,a,b⟩],S.2)) (N.d+1)
  by_cases h0:more=[]
  ·rw[if_pos h0]
   refine⟨g.pre,g.nd,g.srt,g.dl,g.dx,λf hf=>?_⟩
   rcases NK.mp hf with q|q
   ·exact g.fd f q
   ·rw[NN.mp q]
    exact⟨⟨p6,p7,p8,p2,by rw[p1,h0,Oc],p3,p4⟩,rfl⟩
  ·rw[if_neg h0]
   by_cases h1:more∈(S.1.drop W.length).map (·.r)
   ·rw[if_pos h1];exact g
   ·rw[if_neg h1]
    have hd1:1<=N.d:=by rcases hN.hd with q|q<;>lia
    have hkl:=(NW.mp hk).1
    have hdk:=g.dx k N hk
    obtain⟨T,e1,e2,e3⟩:=g.pre
    refine⟨⟨T++[⟨N.d+1,more,a,b⟩],by show S.1++_=_;rw[e1,NP],λM hM=>?_,?_⟩,λM hM=>?_,?_,λM hM=>?_,λj M hj=>?_,g.fd⟩
    ·rcases NK.mp hM with q|q
     ·exact e2 M q
     ·rw[NN.mp q];show 2<=N.d+1;lia
    ·rw[NO,Oh]
     refine⟨e3,by simp,λx hx y hy e=>?_⟩
     rw[e1,lU]at h1
     have:y=more:=by simpa using hy
     exact h1 (by rw[<-this,<-e];exact hx)
    ·rcases NK.mp hM with q|q
     ·exact g.nd M q
     ·rw[NN.mp q]
      exact⟨h0,p1,p2,p3,p4,p5,.inr ⟨by show 2<=N.d+1;lia,p6,p7,p8,p9⟩⟩
    ·rw[List.pairwise_append]
     exact⟨g.srt,by simp,λx hx y hy=>by rw[NN.mp hy];exact g.dl x hx⟩
    ·rcases NK.mp hM with q|q
     ·exact g.dl M q
     ·rw[NN.mp q];exact NT _
    ·by_cases hjl:j<S.1.length
     ·rw[Oo hjl]at hj;exact g.dx j M hj
     ·have hM:=NS hj
      have hjl2:=(NW.mp hj).1
      rw[NR,OJ]at hjl2
      have ej:j=S.1.length:=by lia
      subst ej
      rw[PO (NT _),Rb]at hj
      have:M=⟨N.d+1,more,a,b⟩:=(Oj.inj hj).symm
      rw[this];show N.d+1<=_;lia
theorem fm {W:List Wd}(hW:qT W){N:Nd}:∀(L:List Wd) {S:Sf} {k:Nat},S.1[k]?=some N->gp W S (N.d+1)->(∀c∈L,c∈W)->gp W (L.foldl (bG W.length N) S) (N.d+1)
 | [],_,_,_,g,_=>g
 | c::r,S,k,hk,g,hL=>by
  have hkl:=(NW.mp hk).1
  obtain⟨T,F,h1,_⟩:=jG W.length N S c
  exact fm hW r (k:=k) (by rw[h1,Oo hkl];exact hk) (xo hW hk g (hL c (.head _))) λx hx=>hL x (.tail _ hx)
theorem tT {W:List Wd}(hW:qT W):gp W (bl W,[]) 1:=by
 have hm:∀M∈bl W,∃c∈W,M=⟨1,c,[c],[]⟩:=λM hM=>by
  obtain⟨c,hc,e⟩:=NL.mp hM
  exact⟨c,hc,e.symm⟩
 refine⟨⟨[],(Oc _).symm,nM,by simp⟩,λM hM=>?_,?_,λM hM=>?_,λj M hj=>?_,λ_ h=>nomatch h⟩
 ·obtain⟨c,hc,rfl⟩:=hm M hM
  obtain⟨c1,_,cf⟩:=hW.wd c hc
  exact⟨Ov.mp c1,by simp,rfl,λx hx=>by rw[NN.mp hx];exact hc,nM,cf,.inl ⟨rfl,rfl,rfl⟩⟩
 ·rw[List.pairwise_iff_forall_sublist]
  intro a b hab
  have ha:a∈bl W:=hab.subset (.head _)
  have hb:b∈bl W:=hab.subset (.tail _ (.head _))
  obtain⟨_,_,rfl⟩:=hm a ha
  obtain⟨_,_,rfl⟩:=hm b hb
  exact NT _
 ·obtain⟨_,_,rfl⟩:=hm M hM
  exact NT _
 ·obtain⟨_,_,rfl⟩:=hm M (NS hj)
  show 1<=j+1;lia
theorem rg.le {W:List Wd}{k j:Nat}(h:rg W k)(hj:j<=k):rg W j:=λi hi=>h i (by lia)
theorem fI {W:List Wd}{k:Nat}{N:Nd}(h:(am W k).1[k]?=some N):am W (k+1)=W.foldl (bG W.length N) (am W k):=by
 show lO W k (am W k)=_
 unfold lO;rw[h]
theorem tU {S:Sf}(h:S.1.Pairwise (λa b=>a.d<=b.d)){i j:Nat}{M N:Nd}(hi:S.1[i]?=some M)(hj:S.1[j]?=some N)(hij:i<=j):M.d<=N.d:=by
 rcases Pt hij with q|q
 ·rw[Qt]at h
  obtain⟨h1,e1⟩:=NW.mp hi
  obtain⟨h2,e2⟩:=NW.mp hj
  have:=h i j h1 h2 q
  rwa [e1,e2]at this
 ·subst q
  rw[hi]at hj
  cases hj
  exact NT _
theorem gp.mono {W:List Wd}{S:Sf}{D D':Nat}(g:gp W S D)(h:D<=D')(h2:S.2=[]):gp W S D':=⟨g.pre,g.nd,g.srt,λM hM=>NU (g.dl M hM) h,g.dx,by rw[h2];exact λ_ q=>nomatch q⟩
theorem cZ {W:List Wd}(hW:qT W):∀k,rg W k->∃D,gp W (am W k) D/\(D<=1\/∃j N,j<k/\(am W k).1[j]?=some N/\D=N.d+1)
 | 0,_=>⟨1,tT hW,.inl (NT _)⟩
 | k+1,hr=>by
  obtain⟨D,g,hD⟩:=cZ hW k (hr.le (Pj k))
  obtain⟨h1,h2⟩:=hr k (Og k)
  have oo:∃N,(am W k).1[k]?=some N:=⟨_,NZ h2⟩
  obtain⟨N,hN⟩:=oo
  have hDN:D<=N.d+1:=by
   rcases hD with q|⟨j,M,hj,hM,rfl⟩
   ·lia
   ·have:=tU g.srt hM hN (ON hj);lia
  rw[fI hN]
  obtain⟨T,F,e1,_⟩:=gP W.length N W (am W k)
  exact⟨N.d+1,fm hW W hN (g.mono hDN h1) λc hc=>hc,.inr ⟨k,N,Og k,by rw[e1,Oo h2];exact hN,rfl⟩⟩
theorem o0 {W:List Wd}(hW:qT W){k:Nat}(hr:rg W k){N:Nd}(h1:(am W k).2=[])(hN:(am W k).1[k]?=some N):gp W (am W k) (N.d+1):=by
 obtain⟨D,g,hD⟩:=cZ hW k hr
 refine g.mono ?_ h1
 rcases hD with q|⟨j,M,hj,hM,rfl⟩
 ·lia
 ·have:=tU g.srt hM hN (ON hj);lia
theorem gp.few {W:List Wd}(hW:qT W){S:Sf}{D:Nat}(g:gp W S D):S.1.length<=17:=by
 obtain⟨T,e1,e2,e3⟩:=g.pre
 have h14:(T.map (·.r)).length<=(jC 1++jC 2++jC 3).length:=gb e3 λx hx=>by
  obtain⟨M,hM,rfl⟩:=NL.mp hx
  have hN:=g.nd M (by rw[e1];exact NK.mpr (.inr hM))
  have h1:=lc M.r hN.fi
  have h2:1<=M.r.length:=Ov.mpr hN.ne
  have h3:M.r.length<=3:=by
   rcases hN.hd with q|q
   ·have:=e2 M hM;lia
   ·exact q.2.2.2.2
  rw[NK,NK]
  have:M.r.length=1\/M.r.length=2\/M.r.length=3:=by lia
  rcases this with q|q|q<;>rw[q]at h1
  ·exact .inl (.inl h1)
  ·exact .inl (.inr h1)
  ·exact .inr h1
 rw[NM]at h14
 have h15:(jC 1++jC 2++jC 3).length=14:=by decide
 have:=hW.l3
 rw[e1,NR,gN];lia
theorem vA {r r':List Nat}(h:r≠[])(hf:∀x∈r,x=102\/x=105)(h':r'≠[])(hf':∀x∈r',x=102\/x=105):∀{d d':Nat},Oe d 46++r=Oe d' 46++r'->d=d'/\r=r'
 | 0,0,e=>⟨rfl,e⟩
 | 0,d'+1,e=>by
  rw[List.replicate_zero,OU,OK]at e
  have:=hf 46 (by rw[e];exact .head _)
  lia
 | d+1,0,e=>by
  rw[List.replicate_zero,OU,OK]at e
  have:=hf' 46 (by rw[<-e];exact .head _)
  lia
 | d+1,d'+1,e=>by
  rw[OK,OK,Oi,Oi,List.cons.injEq]at e
  obtain⟨h1,h2⟩:=vA h hf h' hf' e.2
  exact⟨by lia,h2⟩
theorem qV.key_inj {W:List Wd}{M M':Nd}(h:qV W M)(h':qV W M')(e:M.key=M'.key):M.d=M'.d/\M.r=M'.r:=vA h.ne h.fi h'.ne h'.fi e
theorem gq {α β:Type}{f:α->β}:∀{l:List α},l.Nodup->(∀a∈l,∀b∈l,f a=f b->a=b)->(l.map f).Nodup
 | [],_,_=>by simp
 | x::r,h,hf=>by
  obtain⟨h1,h2⟩:=Ob.mp h
  rw[Oa,Ob]
  refine⟨λq=>?_,gq h2 λa ha b hb=>hf a (.tail _ ha) b (.tail _ hb)⟩
  obtain⟨y,hy,e⟩:=NL.mp q
  have:=hf y (.tail _ hy) x (.head _) e
  exact h1 (this▸hy)
theorem dQ {α β:Type}{f:α->β}:∀{l:List α},(l.map f).Nodup->l.Nodup
 | [],_=>by simp
 | x::r,h=>by
  rw[Oa,Ob]at h
  rw[Ob]
  exact⟨λq=>h.1 (NL.mpr ⟨x,q,rfl⟩),dQ h.2⟩
theorem fJ {α β:Type}{f:α->β}:∀{l:List α},(l.map f).Nodup->∀{a c:α},a∈l->c∈l->f a=f c->a=c
 | x::r,h,a,c,ha,hc,e=>by
  rw[Oa,Ob]at h
  rcases N0.mp ha with q1|q1<;>rcases N0.mp hc with q2|q2
  ·rw[q1,q2]
  ·exact absurd (NL.mpr ⟨c,q2,by rw[<-e,q1]⟩) h.1
  ·exact absurd (NL.mpr ⟨a,q1,by rw[e,q2]⟩) h.1
  ·exact fJ h.2 q1 q2 e
theorem gp.keys {W:List Wd}(hW:qT W){S:Sf}{D:Nat}(g:gp W S D):(S.1.map Nd.key).Nodup:=by
 obtain⟨T,e1,e2,e3⟩:=g.pre
 have hs:((bl W).map (·.r)).Nodup:=by
  unfold bl;rw[OL]
  have:(Nd.r∘λc:Wd=>(⟨1,c,[c],[]⟩:Nd))=id:=rfl
  rw[this,Qp];exact hW.nd
 have hsd:∀M∈bl W,M.d=1:=λM hM=>by
  obtain⟨c,_,rfl⟩:=NL.mp hM;rfl
 have hn:∀M,M∈bl W\/M∈T->qV W M:=λM hM=>g.nd M (by rw[e1];exact NK.mpr hM)
 rw[e1,NO,Oh]
 refine⟨gq (dQ hs) λa ha b hb e=>fJ hs ha hb ((hn a (.inl ha)).key_inj (hn b (.inl hb)) e).2,gq (dQ e3) λa ha b hb e=>fJ e3 ha hb ((hn a (.inr ha)).key_inj (hn b (.inr hb)) e).2,λx hx y hy e=>?_⟩
 obtain⟨M,hM,rfl⟩:=NL.mp hx
 obtain⟨M',hM',rfl⟩:=NL.mp hy
 have h1:=((hn M (.inl hM)).key_inj (hn M' (.inr hM')) e).1
 have h2:=hsd M hM
 have h3:=e2 M' hM'
 lia
theorem mZ {W:List Wd}(k:Nat):∃T,(am W (k+1)).1=(am W k).1++T:=by
 cases h:(am W k).1[k]? with
 | none=>exact⟨[],by show(lO W k (am W k)).1=_;unfold lO;rw[h,Oc]⟩
 | some N =>
  rw[fI h]
  obtain⟨T,_,e,_⟩:=gP W.length N W (am W k)
  exact⟨T,e⟩
theorem o3 {W:List Wd}{j:Nat}:∀{k:Nat},j<=k->∃T,(am W k).1=(am W j).1++T
 | 0,h=>⟨[],by rw[Oc,Q1.mp h]⟩
 | k+1,h=>by
  rcases Pt h with q|q
  ·obtain⟨T,e⟩:=o3 (W:=W) (j:=j) (k:=k) (by lia)
   obtain⟨T',e'⟩:=mZ (W:=W) k
   exact⟨T++T',by rw[e',e,NP]⟩
  ·exact⟨[],by rw[Oc,q]⟩
theorem m0 {W:List Wd}{N:Nd}:∀(L:List Wd) {S:Sf},W.length<=S.1.length->(L.foldl (bG W.length N) S).2=[]->∀c∈L,∀more a b,cC N c=some (more,a,b)->more≠[]/\∃M∈(L.foldl (bG W.length N) S).1.drop W.length,M.r=more
 | c::r,S,hl,hf,c',hc',more,a,b,hr=>by
  rw[O1]at hf ⊢
  obtain⟨T1,F1,h1,h2⟩:=jG W.length N S c
  obtain⟨T2,F2,h3,h4⟩:=gP W.length N r (bG W.length N S c)
  have hl1:W.length<=(bG W.length N S c).1.length:=by rw[h1,NR];lia
  rcases N0.mp hc' with q|q
  ·subst q
   rw[h4]at hf
   have hf1:=(Pz.mp hf).1
   have key:more≠[]/\∃M∈(bG W.length N S c').1.drop W.length,M.r=more:=by
    unfold bG at hf1 ⊢
    rw[hr]at hf1 ⊢
    by_cases h0:more=[]
    ·exfalso
     simp only[if_pos h0]at hf1
     exact absurd (Pz.mp hf1).2 (by simp)
    ·refine⟨h0,?_⟩
     simp only[if_neg h0]
     by_cases hm:more∈(S.1.drop W.length).map (·.r)
     ·simp only[if_pos hm]
      obtain⟨M,hM,e⟩:=NL.mp hm
      exact⟨M,hM,e⟩
     ·simp only[if_neg hm]
      refine⟨⟨N.d+1,more,a,b⟩,?_,rfl⟩
      rw[Pa hl]
      exact NK.mpr (.inr (.head _))
   refine⟨key.1,?_⟩
   obtain⟨M,hM,e⟩:=key.2
   refine⟨M,?_,e⟩
   rw[h3,Pa hl1]
   exact NK.mpr (.inl hM)
  ·exact m0 r hl1 hf c' q more a b hr
inductive Mc (W:List Wd)(k n:Nat):Prop
 | mk (f:Fd) (h:(am W k).2[0]?=some f) (l:f.d<=n)
inductive Md (W:List Wd)(k:Nat)(M:Nd)(more:Wd):Prop
 | mk (h:more≠[]) (j':Nat) (M':Nd) (hj:(am W k).1[j']?=some M') (e:M'.r=more) (d2:2<=M'.d) (d1:M'.d<=M.d+1)
theorem Bu {W:List Wd}(hW:qT W){k:Nat}(hr:rg W k)(he:((am W k).2=[]/\(am W k).1.length=k)\/(am W k).2≠[]) :
  ∀(n:Nat) (j:Nat) (M:Nd) (P Q:List Wd),P.length+Q.length=n->(am W k).1[j]?=some M->(∀x∈P,x∈W)->(∀x∈Q,x∈W)->M.r++P.flatten=Q.flatten->(M.d=1->Q.head?≠some M.r)->Mc W k (M.d+P.length+Q.length):=by
 intro n
 induction n using PV with
 | ind n ih =>
  intro j M P Q hn hj hP hQ e hg
  obtain⟨D,g,hD⟩:=cZ hW k hr
  have hM:=g.nd M (NS hj)
  cases hQe:Q with
  | nil =>
   rw[hQe,List.flatten_nil]at e
   exact absurd (Pz.mp e).1 hM.ne
  | cons c Q' =>
   have hcW:c∈W:=hQ c (by rw[hQe];exact .head _)
   have hQ':∀x∈Q',x∈W:=λx hx=>hQ x (by rw[hQe];exact .tail _ hx)
   rw[hQe,Ox]at e
   by_cases hp:j+1<=k/\(am W (j+1)).2=[]
   ·-- it was read,and nothing found
    obtain⟨hjk,hf⟩:=hp
    obtain⟨T0,e0⟩:=o3 (W:=W) (j:=j) (k:=k) (by lia)
    have hjl:j<(am W j).1.length:=(hr j (by lia)).2
    have hMj:(am W j).1[j]?=some M:=by rw[e0,Oo hjl]at hj;exact hj
    obtain⟨Tj,ej,_,_⟩:=(cZ hW j (hr.le (by lia))).choose_spec.1.pre
    have hlj:W.length<=(am W j).1.length:=by rw[ej,NR,gN];lia
    have clos:∀more a b,cC M c=some (more,a,b)->Md W k M more:=by
     intro more a b hrd
     have h1:=m0 (N:=M) W hlj (by rw[<-fI hMj];exact hf) c hcW more a b hrd
     have h0:=h1.1
     rw[<-fI hMj]at h1
     obtain⟨M',hM',er⟩:=h1.2
     obtain⟨D',g',hD'⟩:=cZ hW (j+1) (hr.le hjk)
     obtain⟨T',e1',e2',_⟩:=g'.pre
     have hd2:2<=M'.d:=e2' M' (by rw[e1',lU]at hM';exact hM')
     have hm1:M'∈(am W (j+1)).1:=Qc hM'
     have hgj:=o0 hW (hr.le (by lia)) (hr j (by lia)).1 hMj
     have hfg:=fm hW W hMj hgj λc hc=>hc
     rw[<-fI hMj]at hfg
     have hd1:=hfg.dl M' hm1
     obtain⟨T2,e2⟩:=o3 (W:=W) (j:=j+1) (k:=k) hjk
     have hm2:M'∈(am W k).1:=by rw[e2];exact NK.mpr (.inl hm1)
     obtain⟨j',hj',ej'⟩:=Ql hm2
     exact⟨h0,j',M',by rw[NZ hj',ej'],er,hd2,hd1⟩
    have h0:¬(M.d=1/\c=M.r):=λq=>hg q.1 (by rw[hQe,q.2];rfl)
    have hl1:P.length+(Q'.length+1)=n:=by rw[hQe,NV]at hn;exact hn
    by_cases h1:M.r <+: c
    ·have hrd:cC M c=some (c.drop M.r.length,M.B++[c],M.A):=by unfold cC;rw[if_neg h0,if_pos h1]
     obtain⟨hne,j',M',hj',er,hd2,hd1⟩:=clos _ _ _ hrd
     obtain⟨t,rfl⟩:=h1
     rw[P4]at er
     rw[NP,PP]at e
     obtain⟨f,hf1,hf2⟩:=ih (Q'.length+P.length) (by lia) j' M' Q' P rfl hj' hQ' hP (by rw[er];exact e.symm) λq=>by lia
     exact⟨f,hf1,by rw[NV];lia⟩
    ·by_cases h2:c <+: M.r
     ·have hrd:cC M c=some (M.r.drop c.length,M.A,M.B++[c]):=by unfold cC;rw[if_neg h0,if_neg h1,if_pos h2]
      obtain⟨hne,j',M',hj',er,hd2,hd1⟩:=clos _ _ _ hrd
      obtain⟨t,ht⟩:=h2
      rw[<-ht,P4]at er
      rw[<-ht,NP,PP]at e
      obtain⟨f,hf1,hf2⟩:=ih (P.length+Q'.length) (by lia) j' M' P Q' rfl hj' hP hQ' (by rw[er];exact e) λq=>by lia
      exact⟨f,hf1,by rw[NV];lia⟩
     ·exfalso
      rcases List.append_eq_append_iff.mp e with⟨t,h3,_⟩|⟨t,h3,_⟩
      ·exact h1 ⟨t,h3.symm⟩
      ·exact h2 ⟨t,h3.symm⟩
   ·-- it was found before
    have hj':=(NW.mp hj).1
    have hfne:(am W k).2≠[]:=by
     rcases he with⟨q1,q2⟩|q
     ·intro _
      apply hp
      refine⟨by lia,?_⟩
      by_cases hjk:j+1=k
      ·rw[hjk];exact q1
      ·exact(hr (j+1) (by lia)).1
     ·exact q
    cases k with
    | zero=>exact absurd rfl hfne
    | succ k =>
     have hjk:k<=j:=by
      apply Classical.byContradiction
      intro q
      exact hp ⟨by lia,(hr (j+1) (by lia)).1⟩
     obtain⟨h1,h2⟩:=hr k (Og k)
     have oo:∃N,(am W k).1[k]?=some N:=⟨_,NZ h2⟩
     obtain⟨N,hN⟩:=oo
     have hgk:=fm hW W hN (o0 hW (hr.le (Pj k)) h1 hN) λc hc=>hc
     rw[<-fI hN]at hgk
     have oo:∃f,(am W (k+1)).2[0]?=some f:=⟨_,NZ (Ov.mpr hfne)⟩
     obtain⟨f,hf⟩:=oo
     obtain⟨T,eT⟩:=mZ (W:=W) k
     have hN':(am W (k+1)).1[k]?=some N:=by rw[eT,Oo h2];exact hN
     have:=tU hgk.srt hN' hj hjk
     have hfd:=(hgk.fd f (NS hf)).2
     exact⟨f,hf,by rw[NV,hfd];lia⟩
end Mine

namespace Mine
open PySem
theorem vB {W:List Wd}(hW:qT W){P:List Wd}(hP:∀x∈P,x∈W)(h:P.flatten=[]):P=[]:=by
 cases P with
 | nil=>rfl
 | cons p r =>
  rw[Ox]at h
  have h1:=(Pz.mp h).1
  have h2:=(hW.wd p (hP p (.head _))).1
  rw[h1]at h2
  exact absurd h2 (by decide)
theorem lW {W:List Wd}(hW:qT W){k:Nat}(hr:rg W k)(he:((am W k).2=[]/\(am W k).1.length=k)\/(am W k).2≠[]){P Q:List Wd}(hP:∀x∈P,x∈W)(hQ:∀x∈Q,x∈W)(e:P.flatten=Q.flatten)(h0:P≠[])(hd:P.head?≠Q.head?):∃f,(am W k).2[0]?=some f/\f.d<=P.length+Q.length:=by
 cases P with
 | nil=>exact absurd rfl h0
 | cons p P' =>
  have hp:=hP p (.head _)
  obtain⟨i,hi,ei⟩:=Ql hp
  obtain⟨D,g,_⟩:=cZ hW k hr
  obtain⟨T,eT,_,_⟩:=g.pre
  have hs:(bl W)[i]?=some ⟨1,p,[p],[]⟩:=by unfold bl;rw[N7,NZ hi,ei];rfl
  have hj:(am W k).1[i]?=some ⟨1,p,[p],[]⟩:=by
   rw[eT,Oo (by rw[gN];exact hi)];exact hs
  obtain⟨f,h1,h2⟩:=Bu hW hr he _ i ⟨1,p,[p],[]⟩ P' Q rfl hj (λx hx=>hP x (.tail _ hx)) hQ (by rw[<-e,Ox]) λ_ q=>hd (by rw[q];rfl)
  refine⟨f,h1,?_⟩
  have h3:f.d<=1+P'.length+Q.length:=h2
  rw[NV];lia
theorem ud {W:List Wd}(hW:qT W){k:Nat}(hr:rg W k)(h1:(am W k).2=[])(h2:(am W k).1.length=k):∀{P Q:List Wd},(∀x∈P,x∈W)->(∀x∈Q,x∈W)->P.flatten=Q.flatten->P=Q
 | [],Q,_,hQ,e=>(vB hW hQ (by rw[<-e];rfl)).symm
 | p::P,[],hP,_,e=>vB hW hP (by rw[e];rfl)
 | p::P,q::Q,hP,hQ,e=>by
  by_cases hpq:p=q
  ·subst hpq
   rw[Ox,Ox,PP]at e
   rw[ud hW hr h1 h2 (λx hx=>hP x (.tail _ hx)) (λx hx=>hQ x (.tail _ hx)) e]
  ·obtain⟨f,hf,_⟩:=lW hW hr (.inl ⟨h1,h2⟩) hP hQ e (by simp) (by simpa using hpq)
   rw[h1]at hf
   exact nomatch hf
theorem tV (r:List Str):(jn r).length=((r.map (·.cps.toList)).flatten).length:=by simp[jn,Str.length]
theorem o4 (r:List Str):(jn r).cps.toList=(r.map (·.cps.toList)).flatten:=by simp[jn]
theorem kc (r:List Str)(x:Str):jn (r++[x])=jn r++x:=by
 apply Str.ext'
 rw[Str.cps_append]
 unfold jn
 rw[NO,Po]
 apply QH.mp
 simp
theorem IR:jn []=⟨#[]⟩:=rfl
noncomputable def xp (W:List Str):Nat->List (List (List Str))
 | 0=>[[[]]]
 | n+1=>xp W n++[(W.filter λw=>decide (w.length<=n+1)).flatMap λw=>((xp W n).getD (n+1-w.length) []).map λr=>r++[w]]
theorem ke (W:List Str):∀n,(xp W n).length=n+1
 | 0=>rfl
 | n+1=>by rw[xp,NR,ke W n];rfl
def dF (W:List Str)(n:Nat):List (List Str):=(xp W n).getD n []
theorem tW (W:List Str):∀{n i:Nat},i<=n->(xp W n).getD i []=dF W i
 | 0,i,h=>by rw[Q1.mp h];rfl
 | n+1,i,h=>by
  rcases Pt h with q|q
  ·rw[xp,Od,Oo (by rw[ke];lia),<-Od]
   exact tW W (by lia)
  ·rw[q];rfl
theorem iq {W:List Str}(h1:∀w∈W,1<=w.length)(n:Nat):dF W (n+1)=(W.filter λw=>decide (w.length<=n+1)).flatMap λw=>(dF W (n+1-w.length)).map λr=>r++[w]:=by
 have e:dF W (n+1)=(W.filter λw=>decide (w.length<=n+1)).flatMap λw=>((xp W n).getD (n+1-w.length) []).map λr=>r++[w]:=by
  unfold dF
  rw[xp,Od,PO (by rw[ke];exact NT _),ke,Rb];rfl
 rw[e]
 refine congrArg List.flatten (Qk λw hw=>?_)
 have:=h1 w (OH.mp hw).1
 rw[tW W (PC (O3 (OY n) this))]
theorem m5 {W:List Str}(h1:∀w∈W,1<=w.length):∀(n:Nat) (r:List Str),r∈dF W n↔(∀x∈r,x∈W)/\(jn r).length=n:=by
 intro n
 induction n using PV with
 | ind n ih =>
  intro r
  cases n with
  | zero =>
   have e:dF W 0=[[]]:=rfl
   rw[e,NN]
   constructor
   ·rintro rfl;exact⟨nM,rfl⟩
   ·rintro⟨hr,hl⟩
    cases r with
    | nil=>rfl
    | cons x t =>
     have hx:=h1 x (hr x (.head _))
     rw[tV,Oa,Ox,NR]at hl
     exact absurd (Nat.add_eq_zero_iff.mp hl).1 (Nat.ne_of_gt hx)
  | succ n =>
   rw[iq h1,Ph]
   constructor
   ·rintro⟨w,hw,hr⟩
    obtain⟨hw1,hw2⟩:=OH.mp hw
    have hw2:=of_decide_eq_true hw2
    obtain⟨t,ht,rfl⟩:=NL.mp hr
    have:=h1 w hw1
    obtain⟨h2,h3⟩:=(ih (n+1-w.length) (O3 (OY n) this) t).mp ht
    refine⟨λx hx=>?_,by rw[kc,ck,h3];exact Pv hw2⟩
    rcases NK.mp hx with q|q
    ·exact h2 x q
    ·rw[NN.mp q];exact hw1
   ·rintro⟨hr,hl⟩
    rcases List.eq_nil_or_concat r with rfl|⟨t,w,rfl⟩
    ·rw[IR]at hl;exact absurd hl (by simp[Str.length])
    ·rw[List.concat_eq_append]at *
     rw[kc,ck]at hl
     have hw:w∈W:=hr w (by simp)
     have:=h1 w hw
     exact⟨w,OH.mpr ⟨hw,decide_eq_true (hl▸Pl _ _)⟩,NL.mpr ⟨t,(ih (n+1-w.length) (O3 (OY n) this) t).mpr ⟨λx hx=>hr x (NK.mpr (.inl hx)),(Nat.sub_eq_of_eq_add hl.symm).symm⟩,rfl⟩⟩
theorem qW {W:List Str}(hn:W.Nodup)(h1:∀w∈W,1<=w.length):∀n:Nat,(dF W n).Nodup:=by
 intro n
 induction n using PV with
 | ind n ih =>
  cases n with
  | zero=>show([[]]:List (List Str)).Nodup;simp
  | succ n =>
   rw[iq h1]
   unfold List.Nodup
   rw[List.pairwise_flatMap]
   refine⟨λw hw=>?_,?_⟩
   ·have:=h1 w (OH.mp hw).1
    exact gq (ih (n+1-w.length) (by lia)) λa _ c _ e=>List.append_cancel_right e
   ·refine List.Pairwise.imp ?_ (hn.filter _)
    intro w w' hww x hx y hy e
    obtain⟨t,_,rfl⟩:=NL.mp hx
    obtain⟨t',_,rfl⟩:=NL.mp hy
    exact hww (List.append_inj_right' e rfl |> λq=>by simpa using q)
theorem lX {W:List Str}:∀n,sJ W n=(xp W n).map N9
 | 0=>rfl
 | n+1=>by
  rw[sJ,xp,NO,<-lX n]
  refine congrArg (λz:Nat=>sJ W n++[z]) ?_
  rw[List.length_flatMap]
  refine congrArg List.sum (Qk λw _=>?_)
  rw[NM,lX n,Od,Od,N7]
  cases(xp W n)[n+1-w.length]?<;>rfl
theorem IS {W:List Str}{n i:Nat}(h:i<=n):(sJ W n).getD i 0=(dF W i).length:=by
 rw[lX,<-tW W h,Od,Od,N7]
 cases(xp W n)[i]?<;>rfl
theorem xq {W:List Str}(h1:∀w∈W,1<=w.length){Ts:List (List Str)}(h:sL W Ts):∀(n:Nat) (N:List Str),Ts[n]?=some N->N.Nodup/\∀x,x∈N↔∃r∈dF W n,jn r=x:=by
 intro n
 induction n using PV with
 | ind n ih =>
  intro N hN
  cases n with
  | zero =>
   rw[h.1]at hN
   cases hN
   refine⟨by simp,λx=>?_⟩
   have e:dF W 0=[[]]:=rfl
   rw[e,NN]
   constructor
   ·rintro rfl;exact⟨[],.head _,rfl⟩
   ·rintro⟨r,hr,rfl⟩;rw[NN.mp hr];rfl
  | succ n =>
   have hlt:=(NW.mp hN).1
   obtain⟨N',e,h2,h3⟩:=h.2 n hlt
   rw[hN]at e
   cases e
   refine⟨h2,λx=>?_⟩
   rw[h3 x,iq h1]
   constructor
   ·rintro⟨w,hw,hl,M,hM,t,ht,rfl⟩
    have:=h1 w hw
    obtain⟨r,hr,e⟩:=((ih (n+1-w.length) (O3 (OY n) this) M hM).2 t).mp ht
    exact⟨r++[w],Ph.mpr ⟨w,OH.mpr ⟨hw,decide_eq_true hl⟩,NL.mpr ⟨r,hr,rfl⟩⟩,by rw[kc,e]⟩
   ·rintro⟨r,hr,rfl⟩
    obtain⟨w,hw,hr⟩:=Ph.mp hr
    obtain⟨hw1,hw2⟩:=OH.mp hw
    have hw2:=of_decide_eq_true hw2
    obtain⟨t,ht,rfl⟩:=NL.mp hr
    have:=h1 w hw1
    have oo:∃M,Ts[n+1-w.length]?=some M:=⟨_,NZ (O7 (O2 _ _) hlt)⟩
    obtain⟨M,hM⟩:=oo
    exact⟨w,hw1,hw2,M,hM,jn t,((ih (n+1-w.length) (O3 (OY n) this) M hM).2 (jn t)).mpr ⟨t,ht,rfl⟩,kc t w⟩
theorem tX (one:Lt)(m:Nat)(two:Lt):u9 one m two<=m:=by unfold u9;split<;>lia
theorem gQ {α:Type}{f:Nat->α->Nat}(h:∀m a,f m a<=m):∀(l:List α) (m:Nat),l.foldl f m<=m
 | [],m=>NT _
 | a::r,m=>NU (gQ h r (f m a)) (h m a)
theorem kg {α:Type}{f:Nat->α->Nat}{c:Nat}(h:∀m a,f m a<=m){a:α}(ha:∀m,f m a<=c):∀{l:List α} (m:Nat),a∈l->l.foldl f m<=c
 | x::r,m,hm=>by
  rcases N0.mp hm with q|q
  ·subst q
   exact NU (gQ h r _) (ha m)
  ·exact kg (l:=r) h ha (f m x) q
theorem kh {α:Type}{f:Nat->α->Nat}{c:Nat}:∀{l:List α} {m:Nat},c<=m->(∀a∈l,∀m,c<=m->c<=f m a)->c<=l.foldl f m
 | [],m,hm,_=>hm
 | a::r,m,hm,h=>kh (l:=r) (m:=f m a) (h a (.head _) m hm) λx hx=>h x (.tail _ hx)
theorem Gz (m:Nat)(g:Gp):gF m g<=m:=gQ (λm one=>gQ (λm two=>tX one m two) _ m) _ m
theorem KQ {g:Gp}{one two:Lt}(h1:one∈g.rows)(h2:two∈g.rows)(hd:jD one≠jD two)(m:Nat):gF m g<=one.L.length+two.L.length:=
 kg (λm one=>gQ (λm two=>tX one m two) _ m) (λm=>kg (λm two=>tX one m two) (λm=>by unfold u9;rw[if_neg hd];exact Nat.min_le_right _ _) m h2) m h1
theorem qX {bk:List Gp}{c:Nat}(h99:c<=99)(h:∀g∈bk,∀one∈g.rows,∀two∈g.rows,jD one≠jD two->c<=one.L.length+two.L.length):c<=bk.foldl gF 99:=by
 refine kh h99 λg hg m hm=>?_
 refine kh hm λone h1 m hm=>?_
 refine kh hm λtwo h2 m hm=>?_
 unfold u9
 split
 ·exact hm
 ·rename_i hd
  exact Nat.le_min.mpr ⟨hm,h g hg one h1 two h2 hd⟩
theorem Bv {bk:List Gp}{g:Gp}(hg:g∈bk){one two:Lt}(h1:one∈g.rows)(h2:two∈g.rows)(hd:jD one≠jD two):bk.foldl gF 99<=one.L.length+two.L.length:=
 kg Gz (λm=>KQ h1 h2 hd m) 99 hg
theorem fP.wok {C:List Tx}(h:fP C):qT (C.map (·.1.cps.toList)):=by
 refine⟨h.1,by rw[NM];exact h.2.1,by rw[NM];exact h.2.2.1,λc hc=>?_⟩
 obtain⟨p,hp,rfl⟩:=NL.mp hc
 have:=h.2.2.2 p hp
 exact⟨this.l1,this.l4,this.sg⟩
theorem gp.sfok {W:List Wd}(hW:qT W){S:Sf}{D:Nat}(g:gp W S D)(h3:S.2.length<=3):oX S:=by
 have h17:=g.few hW
 refine⟨h17,h3,g.keys hW,λM hM=>?_⟩
 have hN:=g.nd M hM
 obtain⟨j,hj,e⟩:=Ql hM
 have hd:=g.dx j M (by rw[NZ hj,e])
 have hl:=hN.ln
 have h1:1<=M.d:=by rcases hN.hd with q|q<;>lia
 exact⟨hN.ne,hN.fi,hN.r4 hW,h1,by lia,by lia,by lia⟩
theorem Bw {W:List Wd}(hW:qT W):∀k,rg W k->(am W k).2.length<=3
 | 0,_=>OI _
 | k+1,hr=>by
  obtain⟨h1,h2⟩:=hr k (Og k)
  rw[fI (NZ h2)]
  have:=lV W.length ((am W k).1[k]) W (am W k)
  have h3:=hW.l3
  rw[h1,Ow]at this
  lia
theorem Fm {W:List Wd}(hW:qT W):kb W:=by
 intro k hr
 obtain⟨D,g,_⟩:=cZ hW k hr
 refine⟨g.sfok hW (Bw hW k hr),λN h1 hN i=>?_⟩
 have g2:=fm hW (W.take i) hN (o0 hW hr h1 hN) λc hc=>Qe hc
 refine g2.sfok hW ?_
 have h2:=lV W.length N (W.take i) (am W k)
 have h3:=hW.l3
 rw[h1,Ow,OR]at h2
 lia
theorem vC {a c:List Str}(h:a.map (·.cps.toList)=c.map (·.cps.toList)):a=c:=by
 have h1:=congrArg (List.map λl:List Nat=>(⟨l.toArray⟩:Str)) h
 rw[OL,OL]at h1
 have e:((λl:List Nat=>(⟨l.toArray⟩:Str))∘λs:Str=>s.cps.toList)=id:=funext λs=>fj s
 rw[e,Qp,Qp]at h1
 exact h1
noncomputable def tY (P:List Wd):List Str:=P.map λx=>⟨x.toArray⟩
theorem eF (P:List Wd):(tY P).map (·.cps.toList)=P:=by
 unfold tY
 rw[OL]
 have e:((λs:Str=>s.cps.toList)∘λx:Wd=>(⟨x.toArray⟩:Str))=id:=rfl
 rw[e,Qp]
theorem ki (P:List Wd):(tY P).length=P.length:=NM _
section
variable{C:List Tx}
theorem Fn {r:List Str}(h:∀x∈r,x∈C.map (·.1)):∀x∈r.map (·.cps.toList),x∈C.map (·.1.cps.toList):=λx hx=>by
 obtain⟨y,hy,rfl⟩:=NL.mp hx
 obtain⟨p,hp,e⟩:=NL.mp (h y hy)
 exact NL.mpr ⟨p,hp,by rw[e]⟩
theorem vD {P:List Wd}(h:∀x∈P,x∈C.map (·.1.cps.toList)):∀x∈tY P,x∈C.map (·.1):=λx hx=>by
 obtain⟨y,hy,rfl⟩:=NL.mp hx
 obtain⟨p,hp,e⟩:=NL.mp (h y hy)
 exact NL.mpr ⟨p,hp,by rw[<-e,fj]⟩
theorem fP.w1 (h:fP C):∀w∈C.map (·.1),1<=w.length:=λw hw=>by
 obtain⟨p,hp,rfl⟩:=NL.mp hw
 have:=(h.2.2.2 p hp).l1
 simpa[Str.length]using this
theorem fP.nd (h:fP C):(C.map (·.1)).Nodup:=by
 have h1:=h.1
 have e:C.map (·.1.cps.toList)=(C.map (·.1)).map (·.cps.toList):=by rw[OL];rfl
 rw[e]at h1
 exact dQ h1
theorem By (h:fP C){ts:List Lt}{ws:List (Nat×Nat)}(ok:im C ts ws 6){i:Nat}(hi:i<7):∃N:List Str,N.Nodup/\(∀x,x∈N↔∃r∈dF (C.map (·.1)) i,jn r=x)/\eM ts ws i=decide (N.length<(dF (C.map (·.1)) i).length):=by
 have htl:=ok.tl
 with_reducible refine gx (l:=ts) (i:=i) (by lia) λg hg=>?_
 have h1:(ts.map λg=>g.L.map (·.1))[i]?=some (g.L.map (·.1)):=by rw[N7,hg];rfl
 obtain⟨h2,h3⟩:=xq h.w1 ok.tk i _ h1
 refine⟨_,h2,h3,?_⟩
 unfold eM
 rw[hg,ok.wk,IS (by lia),NM]
 rfl
theorem tZ {C:List Tx}(h:fP C):vz C:=by
 have hW:=h.wok
 have grp:∀{bk:List Gp},fS (dN (C.map (·.1)) 3) bk->∀g∈bk,∀one∈g.rows,∀two∈g.rows,(∀x∈(bX one).map (·.cps.toList),x∈C.map (·.1.cps.toList))/\(∀x∈(bX two).map (·.cps.toList),x∈C.map (·.1.cps.toList))/\((bX one).map (·.cps.toList)).flatten=((bX two).map (·.cps.toList)).flatten/\bX one≠[]:=by
  intro bk ok g hg one h1 two h2
  obtain⟨_,_,q⟩:=ok.tx g hg
  obtain⟨a1,a2⟩:=q one h1
  obtain⟨b1,b2⟩:=q two h2
  obtain⟨a3,a4⟩:=(d5 3 _).mp a2
  obtain⟨b3,b4⟩:=(d5 3 _).mp b2
  refine⟨Fn a4,Fn b4,?_,λq=>by rw[q]at a3;exact absurd a3.1 (by decide)⟩
  rw[<-o4,<-o4,a1,b1]
 have wl:∀l:Lt,(bX l).length=l.L.length:=λl=>NM _
 refine⟨Fm hW,λk ts ws bk hr h1 h2 okF okB=>⟨λi hi=>?_,?_⟩,λk f ts ws bk hr hf okF okB=>?_⟩
 ·-- as many texts as rows
  obtain⟨N,n1,n2,n3⟩:=By h okF hi
  rw[n3]
  refine decide_eq_false (Q6.mpr ?_)
  have hm:=m5 (W:=C.map (·.1)) h.w1 i
  have hnd:((dF (C.map (·.1)) i).map jn).Nodup:=gq (qW h.nd h.w1 i) λa ha c hc e=>by
   refine vC (ud hW hr h1 h2 (Fn ((hm a).mp ha).1) (Fn ((hm c).mp hc).1) ?_)
   rw[<-o4,<-o4,e]
  have:=gb hnd (m:=N) λx hx=>by
   obtain⟨r,hr',e⟩:=NL.mp hx
   exact(n2 x).mpr ⟨r,hr',e⟩
  rwa [NM]at this
 ·refine QY (gQ Gz bk 99) (qX (NT _) λg hg one q1 two q2 hd=>?_)
  obtain⟨a1,a2,a3,_⟩:=grp okB g hg one q1 two q2
  have:=vC (ud hW hr h1 h2 a1 a2 a3)
  exact absurd (by unfold jD;rw[this]) hd
 ·obtain⟨D,g,hD⟩:=cZ hW k hr
  obtain⟨ok,hfd⟩:=g.fd f (NS hf)
  have hne:(am (C.map (·.1.cps.toList)) k).2≠[]:=λq=>by rw[q]at hf;exact nomatch hf
  have h17:=g.few hW
  have hd41:f.d<=41:=by
   rw[hfd]
   rcases hD with q|⟨j,N,hj,hN,rfl⟩
   ·lia
   ·have:=g.dx j N hN
    have:=(NW.mp hN).1
    lia
  have hbound:∀{P Q:List Wd},(∀x∈P,x∈C.map (·.1.cps.toList))->(∀x∈Q,x∈C.map (·.1.cps.toList))->P.flatten=Q.flatten->P≠[]->P.head?≠Q.head?->f.d<=P.length+Q.length:=λhP hQ e h0 hd=>by
   obtain⟨f',e1,e2⟩:=lW hW hr (.inr hne) hP hQ e h0 hd
   rw[hf]at e1
   cases e1
   exact e2
  have hjn:jn (tY f.A)=jn (tY f.B):=by
   unfold jn
   rw[eF,eF,ok.tx]
  have hsne:tY f.A≠tY f.B:=λq=>ok.hd (by
   have:=congrArg (List.map λs:Str=>s.cps.toList) q
   rw[eF,eF]at this
   rw[this])
  have hge:f.d<=bk.foldl gF 99:=qX (by lia) λgr hg one q1 two q2 hd=>by
   obtain⟨a1,a2,a3,a4⟩:=grp okB gr hg one q1 two q2
   have:=hbound a1 a2 a3 (by simpa using a4) λq=>hd (by
    unfold jD
    rw[Qm,Qm]at q
    cases e1:(bX one).head? with
    | none=>cases e2:(bX two).head? with
     | none=>rfl
     | some y=>rw[e1,e2]at q;exact nomatch q
    | some x=>cases e2:(bX two).head? with
     | none=>rw[e1,e2]at q;exact nomatch q
     | some y =>
      rw[e1,e2]at q
      have q':x.cps.toList=y.cps.toList:=Oj.inj q
      rw[<-fj x,q',fj])
   rwa [NM,NM,wl,wl]at this
  refine⟨ok.a,ok.b,ok.hd,ok.ln,ok.tx,hd41,λx hx=>hx.elim (ok.wa x) (ok.wb x),λh6=>?_,λh4=>QY ?_ hge,λ_=>hge⟩
  ·-- fewer texts than rows
   obtain⟨N,n1,n2,n3⟩:=By h okF (i:=f.A.flatten.length) (by lia)
   rw[n3]
   refine decide_eq_true ?_
   have hm:=m5 (W:=C.map (·.1)) h.w1 f.A.flatten.length
   have m1:tY f.A∈dF (C.map (·.1)) f.A.flatten.length:=(hm _).mpr ⟨vD ok.wa,by rw[tV,eF]⟩
   have m2:tY f.B∈dF (C.map (·.1)) f.A.flatten.length:=(hm _).mpr ⟨vD ok.wb,by rw[tV,eF,ok.tx]⟩
   have:=gb n1 (m:=((dF (C.map (·.1)) f.A.flatten.length).erase (tY f.A)).map jn) λx hx=>by
    obtain⟨r,hr',e⟩:=(n2 x).mp hx
    by_cases q:r=tY f.A
    ·exact NL.mpr ⟨tY f.B,(Qg (Ne.symm hsne)).mpr m2,by rw[<-hjn,<-q,e]⟩
    ·exact NL.mpr ⟨r,(Qg q).mpr hr',e⟩
   rw[NM,QC m1]at this
   have:=P9 m1
   lia
  ·-- the pair stands in the book
   have la:=Ov.mpr ok.a
   have lb:=Ov.mpr ok.b
   have hln:=ok.ln
   have i1:tY f.A∈dN (C.map (·.1)) 3:=(d5 3 _).mpr ⟨by rw[ki];lia,vD ok.wa⟩
   have i2:tY f.B∈dN (C.map (·.1)) 3:=(d5 3 _).mpr ⟨by rw[ki];lia,vD ok.wb⟩
   obtain⟨g1,hg1,one,ho,e1⟩:=okB.al _ i1
   obtain⟨g2,hg2,two,ht,e2⟩:=okB.al _ i2
   have k1:=((okB.tx g1 hg1).2.2 one ho).1
   have k2:=((okB.tx g2 hg2).2.2 two ht).1
   have eg:g1=g2:=fJ okB.nd hg1 hg2 (by rw[<-k1,<-k2,e1,e2,hjn])
   subst eg
   have:=Bv hg1 ho ht (λq=>ok.hd (by
    unfold jD at q
    rw[e1,e2]at q
    have:=congrArg (Q8 λs:Str=>s.cps.toList) q
    rw[<-Qm,<-Qm,eF,eF]at this
    exact this))
   rw[<-wl,<-wl,e1,e2,ki,ki]at this
   lia
end
end Mine

namespace Mine
open PySem PySem.W
def vE:List DictEntry:=jh 351 646 j2
def GA (m:Nat):Obj:=⟨.type "dict",none,.dict ((vE.drop (17*m)).take 17).toArray ((vE.drop (17*m)).take 17).length,#[]⟩
def IT (m:Nat):Obj:=⟨.type "dict",none,.dict (vE.take (17*m)).toArray (vE.take (17*m)).length,#[]⟩
def Ga:List Obj->List Obj
 | x::_::r=>x::Ga r
 | l=>l
def bT:Nat->List Obj->BT
 | f+1,x::r=>.node x (bT f (Ga r)) (bT f (Ga r.tail))
 | _,_=>.nil
noncomputable def jf:Obj:=⟨.type "tuple",none,.seq #[] 0,#[]⟩
noncomputable def t4:Obj:=⟨.none,none,.fields #[],#[]⟩
noncomputable def Me:Obj:=⟨.type "dict",none,.dict #[] 0,#[]⟩
noncomputable def GB:Obj:=⟨.type "tuple",none,.seq #[.none] 0,#[]⟩
def lA (P:Params):List Obj:=[MW P,
⟨.type "dict",none,.dict #[eS P "builtins" 162 (.ref 4),eS P "__main__" 163 (.ref 5),eS P "_sre" 244 (.ref 12)] 3,#[]⟩,
Lj P,
⟨.type "dict",none,.dict #[eS P "__name__" 165 (vS "__main__" 164),eS P "__doc__" 166 .none,eS P "__package__" 167 .none,eS P "__loader__" 168 (.builtin "__main__.__loader__#opaque"),eS P "__spec__" 169 .none,eS P "__annotations__" 170 (.ref 6),eS P "__builtins__" 171 (.ref 4),eS P "__file__" 173 (vS "/claim/cut.py" 172),eS P "__cached__" 174 .none,eS P "_sre" 275 (.ref 12)] 10,#[]⟩,
MX P,
{cls:=.type "module",dict:=(some 3),data:=.plain,slots:=#[]},
Me,
jf,
t4,
⟨.type "code",none,.fields #[vS "<module>" 176,vS "<module>" 177,vS "/claim/cut.py" 178,.int 1 0,.int 0 0,.int 0 0,.int 0 0,.int 0 0,.ref 7,.bool false,.int 175 0,.ref 8,.none,.none,.none,.none,.int 179 0,.int 1 0,vS "/claim/cut.py" 180],#[]⟩,
{cls:=.type "frame",dict:=none,data:=.plain,slots:=#[some (.ref 9),some (.ref 3),some (.ref 3),none,some (vS "__main__" 164),none,some (.ref 0)]},
⟨.type "dict",none,.dict #[eS P "__name__" 247 (vS "_sre" 246),eS P "__doc__" 248 .none,eS P "__package__" 250 (vS "" 249),eS P "__loader__" 251 (.builtin "off-the-table:_sre.__loader__:shared#opaque"),eS P "__spec__" 252 (.builtin "off-the-table:_sre.__spec__:shared#opaque"),eS P "compile" 253 (.builtin "_sre.compile"),eS P "template" 254 (.builtin "off-the-table:_sre.template:shared#opaque"),eS P "getcodesize" 255 (.builtin "off-the-table:_sre.getcodesize:shared#opaque"),eS P "ascii_iscased" 256 (.builtin "off-the-table:_sre.ascii_iscased:shared#opaque"),eS P "unicode_iscased" 257 (.builtin "off-the-table:_sre.unicode_iscased:shared#opaque"),eS P "ascii_tolower" 258 (.builtin "off-the-table:_sre.ascii_tolower:shared#opaque"),eS P "unicode_tolower" 259 (.builtin "off-the-table:_sre.unicode_tolower:shared#opaque"),eS P "MAGIC" 261 (.int 20230612 260),eS P "CODESIZE" 263 (.int 4 262),eS P "MAXREPEAT" 265 (.int 4294967295 264),eS P "MAXGROUPS" 267 (.int 1073741823 266),eS P "copyright" 269 (vS " SRE 2.2.2 Copyright (c) 1997-2002 by Secret Labs AB " 268)] 17,#[]⟩,
{cls:=.type "module",dict:=(some 11),data:=.plain,slots:=#[]},
⟨.type "dict",none,.dict #[eS P "__module__" 189 (vS "_frozen_importlib" 186),eS P "__firstlineno__" 190 (.int 971 187),eS P "__doc__" 191 (.builtin "_frozen_importlib.BuiltinImporter.__doc__:str#opaque"),eS P "_ORIGIN" 192 (vS "built-in" 188),eS P "find_spec" 193 (.builtin "_frozen_importlib.BuiltinImporter.find_spec#opaque"),eS P "create_module" 194 (.builtin "_frozen_importlib.BuiltinImporter.create_module#opaque"),eS P "exec_module" 195 (.builtin "_frozen_importlib.BuiltinImporter.exec_module#opaque"),eS P "get_code" 196 (.builtin "_frozen_importlib.BuiltinImporter.get_code#opaque"),eS P "get_source" 197 (.builtin "_frozen_importlib.BuiltinImporter.get_source#opaque"),eS P "is_package" 198 (.builtin "_frozen_importlib.BuiltinImporter.is_package#opaque"),eS P "load_module" 199 (.builtin "_frozen_importlib.BuiltinImporter.load_module#opaque"),eS P "__static_attributes__" 200 (.ref 15),eS P "__dict__" 202 (.ref 16),eS P "__weakref__" 204 (.ref 17)] 14,#[]⟩,
⟨.type "type",none,.cls {name:=Rf "BuiltinImporter",bases:=[.type "object"],mro:=[.ref 14,.type "object"],ns:=13,qualname:=Rf "BuiltinImporter",hasDict:=true,slotNames:=[],subclasses:=[],abstract:=false,collection:=none,hasDel:=false},#[]⟩,
jf,
⟨.type "getset_descriptor",none,.fields #[vS "__dict__" 201,.ref 14,.builtin "function.__dict__",.builtin "function.__dict__#set"],#[]⟩,
⟨.type "getset_descriptor",none,.fields #[vS "__weakref__" 203,.ref 14,.builtin "ExceptionGroup.__weakref__",.none],#[]⟩,
⟨.none,none,.seq #[.int 13 0,.str ⟨#[6,189,10,95,95,109,111,100,117,108,101,95,95,6,186,17,95,102,114,111,122,101,110,95,105,109,112,111,114,116,108,105,98,6,190,15,95,95,102,105,114,115,116,108,105,110,101,110,111,95,95,4,187,0,971,6,191,7,95,95,100,111,99,95,95,9,52,95,102,114,111,122,101,110,95,105,109,112,111,114,116,108,105,98,46,66,117,105,108,116,105,110,73,109,112,111,114,116,101,114,46,95,95,100,111,99,95,95,58,115,116,114,35,111,112,97,113,117,101,6,192,7,95,79,82,73,71,73,78,6,188,8,98,117,105,108,116,45,105,110,6,193,9,102,105,110,100,95,115,112,101,99,9,50,95,102,114,111,122,101,110,95,105,109,112,111,114,116,108,105,98,46,66,117,105,108,116,105,110,73,109,112,111,114,116,101,114,46,102,105,110,100,95,115,112,101,99,35,111,112,97,113,117,101,6,194,13,99,114,101,97,116,101,95,109,111,100,117,108,101,9,54,95,102,114,111,122,101,110,95,105,109,112,111,114,116,108,105,98,46,66,117,105,108,116,105,110,73,109,112,111,114,116,101,114,46,99,114,101,97,116,101,95,109,111,100,117,108,101,35,111,112,97,113,117,101,6,195,11,101,120,101,99,95,109,111,100,117,108,101,9,52,95,102,114,111,122,101,110,95,105,109,112,111,114,116,108,105,98,46,66,117,105,108,116,105,110,73,109,112,111,114,116,101,114,46,101,120,101,99,95,109,111,100,117,108,101,35,111,112,97,113,117,101,6,196,8,103,101,116,95,99,111,100,101,9,49,95,102,114,111,122,101,110,95,105,109,112,111,114,116,108,105,98,46,66,117,105,108,116,105,110,73,109,112,111,114,116,101,114,46,103,101,116,95,99,111,100,101,35,111,112,97,113,117,101,6,197,10,103,101,116,95,115,111,117,114,99,101,9,51,95,102,114,111,122,101,110,95,105,109,112,111,114,116,108,105,98,46,66,117,105,108,116,105,110,73,109,112,111,114,116,101,114,46,103,101,116,95,115,111,117,114,99,101,35,111,112,97,113,117,101,6,198,10,105,115,95,112,97,99,107,97,103,101,9,51,95,102,114,111,122,101,110,95,105,109,112,111,114,116,108,105,98,46,66,117,105,108,116,105,110,73,109,112,111,114,116,101,114,46,105,115,95,112,97,99,107,97,103,101,35,111,112,97,113,117,101,6,199,11,108,111,97,100,95,109,111,100,117,108,101,9,52,95,102,114,111,122,101,110,95,105,109,112,111,114,116,108,105,98,46,66,117,105,108,116,105,110,73,109,112,111,114,116,101,114,46,108,111,97,100,95,109,111,100,117,108,101,35,111,112,97,113,117,101,6,200,21,95,95,115,116,97,116,105,99,95,97,116,116,114,105,98,117,116,101,115,95,95,4,0,0,15,6,202,8,95,95,100,105,99,116,95,95,4,0,0,16,6,204,11,95,95,119,101,97,107,114,101,102,95,95,4,0,0,17]⟩ 0,.bool true,.bool true,vS "" 205,.int 21 0,.str ⟨#[6,227,10,95,95,109,111,100,117,108,101,95,95,6,217,17,95,102,114,111,122,101,110,95,105,109,112,111,114,116,108,105,98,6,228,15,95,95,102,105,114,115,116,108,105,110,101,110,111,95,95,4,218,0,562,6,229,7,95,95,100,111,99,95,95,9,47,95,102,114,111,122,101,110,95,105,109,112,111,114,116,108,105,98,46,77,111,100,117,108,101,83,112,101,99,46,95,95,100,111,99,95,95,58,115,116,114,35,111,112,97,113,117,101,6,230,8,95,95,105,110,105,116,95,95,9,44,95,102,114,111,122,101,110,95,105,109,112,111,114,116,108,105,98,46,77,111,100,117,108,101,83,112,101,99,46,95,95,105,110,105,116,95,95,35,111,112,97,113,117,101,6,231,8,95,95,114,101,112,114,95,95,9,44,95,102,114,111,122,101,110,95,105,109,112,111,114,116,108,105,98,46,77,111,100,117,108,101,83,112,101,99,46,95,95,114,101,112,114,95,95,35,111,112,97,113,117,101,6,232,6,95,95,101,113,95,95,9,42,95,102,114,111,122,101,110,95,105,109,112,111,114,116,108,105,98,46,77,111,100,117,108,101,83,112,101,99,46,95,95,101,113,95,95,35,111,112,97,113,117,101,6,233,6,99,97,99,104,101,100,9,42,95,102,114,111,122,101,110,95,105,109,112,111,114,116,108,105,98,46,77,111,100,117,108,101,83,112,101,99,46,99,97,99,104,101,100,35,111,112,97,113,117,101,6,234,6,112,97,114,101,110,116,9,42,95,102,114,111,122,101,110,95,105,109,112,111,114,116,108,105,98,46,77,111,100,117,108,101,83,112,101,99,46,112,97,114,101,110,116,35,111,112,97,113,117,101,6,235,12,104,97,115,95,108,111,99,97,116,105,111,110,9,48,95,102,114,111,122,101,110,95,105,109,112,111,114,116,108,105,98,46,77,111,100,117,108,101,83,112,101,99,46,104,97,115,95,108,111,99,97,116,105,111,110,35,111,112,97,113,117,101,6,236,21,95,95,115,116,97,116,105,99,95,97,116,116,114,105,98,117,116,101,115,95,95,4,0,0,23,6,238,8,95,95,100,105,99,116,95,95,4,0,0,24,6,240,11,95,95,119,101,97,107,114,101,102,95,95,4,0,0,25,6,241,8,95,95,104,97,115,104,95,95,0]⟩ 0,.bool true,.bool true,vS "" 242] 1,#[]⟩,
⟨.type "list",none,.seq #[] 0,#[]⟩,
⟨.type "dict",none,.dict #[eS P "name" 208 (vS "_sre" 207),eS P "loader" 209 (.ref 14),eS P "origin" 210 (vS "built-in" 184),eS P "loader_state" 211 .none,eS P "submodule_search_locations" 212 .none,eS P "_uninitialized_submodules" 213 (.ref 19),eS P "_set_fileattr" 214 (.bool false),eS P "_cached" 215 .none,eS P "_initializing" 243 (.bool false)] 9,#[]⟩,
⟨.type "dict",none,.dict #[eS P "__module__" 227 (vS "_frozen_importlib" 217),eS P "__firstlineno__" 228 (.int 562 218),eS P "__doc__" 229 (.builtin "_frozen_importlib.ModuleSpec.__doc__:str#opaque"),eS P "__init__" 230 (.builtin "_frozen_importlib.ModuleSpec.__init__#opaque"),eS P "__repr__" 231 (.builtin "_frozen_importlib.ModuleSpec.__repr__#opaque"),eS P "__eq__" 232 (.builtin "_frozen_importlib.ModuleSpec.__eq__#opaque"),eS P "cached" 233 (.builtin "_frozen_importlib.ModuleSpec.cached#opaque"),eS P "parent" 234 (.builtin "_frozen_importlib.ModuleSpec.parent#opaque"),eS P "has_location" 235 (.builtin "_frozen_importlib.ModuleSpec.has_location#opaque"),eS P "__static_attributes__" 236 (.ref 23),eS P "__dict__" 238 (.ref 24),eS P "__weakref__" 240 (.ref 25),eS P "__hash__" 241 .none] 13,#[]⟩,
⟨.type "type",none,.cls {name:=Rf "ModuleSpec",bases:=[.type "object"],mro:=[.ref 22,.type "object"],ns:=21,qualname:=Rf "ModuleSpec",hasDict:=true,slotNames:=[],subclasses:=[],abstract:=false,collection:=none,hasDel:=false},#[]⟩,
tO 219 ["_cached","_set_fileattr","_uninitialized_submodules","loader","loader_state","name","origin","submodule_search_locations"],
⟨.type "getset_descriptor",none,.fields #[vS "__dict__" 237,.ref 22,.builtin "function.__dict__",.builtin "function.__dict__#set"],#[]⟩,
⟨.type "getset_descriptor",none,.fields #[vS "__weakref__" 239,.ref 22,.builtin "ExceptionGroup.__weakref__",.none],#[]⟩,
{cls:=(.ref 22),dict:=(some 20),data:=.plain,slots:=#[]},
⟨.none,none,.seq #[.int 11 0,.str ⟨#[6,247,8,95,95,110,97,109,101,95,95,6,246,4,95,115,114,101,6,248,7,95,95,100,111,99,95,95,0,6,250,11,95,95,112,97,99,107,97,103,101,95,95,6,249,0,6,251,10,95,95,108,111,97,100,101,114,95,95,4,0,0,14,6,252,8,95,95,115,112,101,99,95,95,4,0,0,26,6,253,7,99,111,109,112,105,108,101,9,12,95,115,114,101,46,99,111,109,112,105,108,101,6,254,8,116,101,109,112,108,97,116,101,9,13,95,115,114,101,46,116,101,109,112,108,97,116,101,6,255,11,103,101,116,99,111,100,101,115,105,122,101,9,16,95,115,114,101,46,103,101,116,99,111,100,101,115,105,122,101,6,256,13,97,115,99,105,105,95,105,115,99,97,115,101,100,9,18,95,115,114,101,46,97,115,99,105,105,95,105,115,99,97,115,101,100,6,257,15,117,110,105,99,111,100,101,95,105,115,99,97,115,101,100,9,20,95,115,114,101,46,117,110,105,99,111,100,101,95,105,115,99,97,115,101,100,6,258,13,97,115,99,105,105,95,116,111,108,111,119,101,114,9,18,95,115,114,101,46,97,115,99,105,105,95,116,111,108,111,119,101,114,6,259,15,117,110,105,99,111,100,101,95,116,111,108,111,119,101,114,9,20,95,115,114,101,46,117,110,105,99,111,100,101,95,116,111,108,111,119,101,114,6,261,5,77,65,71,73,67,4,260,0,20230612,6,263,8,67,79,68,69,83,73,90,69,4,262,0,4,6,265,9,77,65,88,82,69,80,69,65,84,4,264,0,4294967295,6,267,9,77,65,88,71,82,79,85,80,83,4,266,0,1073741823,6,269,9,99,111,112,121,114,105,103,104,116,6,268,53,32,83,82,69,32,50,46,50,46,50,32,67,111,112,121,114,105,103,104,116,32,40,99,41,32,49,57,57,55,45,50,48,48,50,32,98,121,32,83,101,99,114,101,116,32,76,97,98,115,32,65,66,32]⟩ 0,.bool true,.bool false,vS "_sre" 271] 0,#[]⟩]
def lE (P:Params):List Obj:=lA P++[jf,
t4,
⟨.type "code",none,.fields #[vS "<module>" 277,vS "<module>" 278,vS "/claim/cut.py" 279,.int 1 0,.int 0 0,.int 0 0,.int 0 0,.int 0 0,.ref 28,.bool false,.int 276 0,.ref 29,.none,.none,.none,.none,.int 280 0,.int 1 0,vS "/claim/cut.py" 281],#[]⟩,
{cls:=.type "frame",dict:=none,data:=.plain,slots:=#[some (.ref 30),some (.ref 3),some (.ref 3),none,some (vS "__main__" 164),none,some (.ref 0)]}]
def tE (P:Params):BT:=bT 9 (lE P)
def lF (P:Params):List Obj:=(lE P).set 3 (⟨.type "dict",none,.dict #[eS P "__name__" 165 (vS "cpy313.stringprep" 282),eS P "__doc__" 166 .none,eS P "__package__" 167 .none,eS P "__loader__" 168 (.builtin "__main__.__loader__#opaque"),eS P "__spec__" 169 .none,eS P "__annotations__" 170 (.ref 6),eS P "__builtins__" 171 (.ref 4),eS P "__file__" 173 (vS "/claim/cut.py" 172),eS P "__cached__" 174 .none,eS P "_sre" 275 (.ref 12)] 10,#[]⟩)
def tF (P:Params):BT:=bT 9 (lF P)
def lB (P:Params):List Obj:=((lF P).set 3 (⟨.type "dict",none,.dict #[eS P "__name__" 165 (vS "cpy313.stringprep" 282),eS P "__doc__" 166 .none,eS P "__package__" 167 .none,eS P "__loader__" 168 (.builtin "__main__.__loader__#opaque"),eS P "__spec__" 169 .none,eS P "__annotations__" 170 (.ref 6),eS P "__builtins__" 171 (.ref 4),eS P "__file__" 173 (vS "/claim/cut.py" 172),eS P "__cached__" 174 .none,eS P "_sre" 275 (.ref 12),eS P "b1_set" 343 (.ref 39),eS P "in_table_b1" 350 (.ref 49)] 12,#[]⟩)).set 29 (⟨.none,none,.fields #[.int 4 0,.int 0 0,.ref 48],#[]⟩)++[⟨.type "list",none,.seq (iT 284 [173,847,6150,6155,6156,6157,8203,8204,8205,8288,65279]) 0,#[]⟩,
⟨.type "range",none,.fields (iT 295 [65024,65040,1]),#[]⟩,
⟨.type "list",none,.seq (iT 300 [65024,65025,65026,65027,65028,65029,65030,65031,65032,65033,65034,65035,65036,65037,65038,65039]) 18,#[]⟩,
⟨.type "range_iterator",none,.fields (iZ [65040,0,1]),#[]⟩,
jf,
⟨.type "StopIteration",none,.fields #[.ref 36,.none,.none,.none,.bool false,.none],#[]⟩,
⟨.type "list",none,.seq #[.int 173 284,.int 847 285,.int 6150 286,.int 6155 287,.int 6156 288,.int 6157 289,.int 8203 290,.int 8204 291,.int 8205 292,.int 8288 293,.int 65279 294,.int 65024 300,.int 65025 301,.int 65026 302,.int 65027 303,.int 65028 304,.int 65029 305,.int 65030 306,.int 65031 307,.int 65032 308,.int 65033 309,.int 65034 310,.int 65035 311,.int 65036 312,.int 65037 313,.int 65038 314,.int 65039 315] 0,#[]⟩,
GS P,
⟨.type "list_iterator",none,.fields #[.none,.int 27 0],#[]⟩,
jf,
⟨.type "StopIteration",none,.fields #[.ref 41,.none,.none,.none,.bool false,.none],#[]⟩,
jf,
t4,
tO 347 ["code"],
jf,
fO "in_table_b1" "in_table_b1" (cA 3),
JC P,
JD P]
def tB (P:Params):BT:=bT 9 (lB P)
def lC (P:Params):List Obj:=(lB P).set 3 (⟨.type "dict",none,.dict #[eS P "__name__" 165 (vS "cpy313.stringprep" 282),eS P "__doc__" 166 .none,eS P "__package__" 167 .none,eS P "__loader__" 168 (.builtin "__main__.__loader__#opaque"),eS P "__spec__" 169 .none,eS P "__annotations__" 170 (.ref 6),eS P "__builtins__" 171 (.ref 4),eS P "__file__" 173 (vS "/claim/cut.py" 172),eS P "__cached__" 174 .none,eS P "_sre" 275 (.ref 12),eS P "b1_set" 343 (.ref 39),eS P "in_table_b1" 350 (.ref 49),eS P "b3_exceptions" 2301 (.ref 50)] 13,#[]⟩)++GT P::(Oy 38).map λi=>GA (i+1)
def tC (P:Params):BT:=bT 9 (lC P)
def lD (P:Params):List Obj:=((lC P).set 3 (GR P)).set 29 (⟨.none,none,.fields #[.int 4 0,.int 0 0,.ref 48,.int 7 0,.int 0 0,.ref 94,.int 13 0,.int 0 0,.ref 101,.int 60 0,.int 0 0,.ref 153,.int 63 0,.int 0 0,.ref 160,.int 73 0,.int 0 0,.ref 167,.int 79 0,.int 0 0,.ref 172,.int 89 0,.int 0 0,.ref 177,.int 97 0,.int 0 0,.ref 182,.int 111 0,.int 0 0,.ref 187],#[]⟩)++[jf,
t4,
tO 2305 ["code","r"],
jf,
fO "map_table_b3" "map_table_b3" (cA 5),
JE P,
JF P,
jf,
⟨.type "builtin_function_or_method",none,.fields #[.builtin "type.__prepare__",.type "type"],#[]⟩,
⟨.type "dict",none,.dict #[eS P "__module__" 2319 (vS "cpy313.netrc" 2310),eS P "__qualname__" 2321 (vS "_netrclex" 2320),eS P "__firstlineno__" 2323 (.int 13 2322),eS P "__init__" 2331 (.ref 109),eS P "_read_char" 2339 (.ref 116),eS P "get_token" 2349 (.ref 123),eS P "push_token" 2357 (.ref 130),eS P "__static_attributes__" 2362 (.ref 131)] 8,#[]⟩,
jf,
⟨.none,none,.fields #[.int 15 0,.int 4 0,.ref 108,.int 21 0,.int 4 0,.ref 115,.int 27 0,.int 4 0,.ref 122,.int 54 0,.int 4 0,.ref 129],#[]⟩,
⟨.type "code",none,.fields #[vS "_netrclex" 2314,vS "_netrclex" 2315,vS "/claim/cut.py" 2316,.int 13 0,.int 0 0,.int 0 0,.int 0 0,.int 0 0,.ref 99,.bool false,.int 276 0,.ref 100,.none,.none,.none,.none,.int 2317 0,.int 13 0,vS "/claim/cut.py" 2318],#[]⟩,
{cls:=.type "frame",dict:=none,data:=.plain,slots:=#[some (.ref 101),some (.ref 3),some (.ref 98),none,some (vS "cpy313.netrc" 2310),none,some (.ref 0)]},
jf,
t4,
tO 2327 ["self","fp"],
jf,
fO "__init__" "_netrclex.__init__" (eH 7 0),
FF P,
FG P,
jf,
t4,
tO 2335 ["self","ch"],
jf,
fO "_read_char" "_netrclex._read_char" (eH 7 1),
FH P,
FJ P,
jf,
t4,
tO 2343 ["self","token","fiter","ch"],
jf,
fO "get_token" "_netrclex.get_token" (eH 7 2),
FK P,
FL P,
jf,
t4,
tO 2353 ["self","token"],
jf,
fO "push_token" "_netrclex.push_token" (eH 7 3),
FM P,
FO P,
tO 2358 ["instream","lineno","pushback","whitespace"],
FP P,
FQ P,
⟨.type "getset_descriptor",none,.fields #[vS "__dict__" 2363,.ref 133,.builtin "function.__dict__",.builtin "function.__dict__#set"],#[]⟩,
⟨.type "getset_descriptor",none,.fields #[vS "__weakref__" 2365,.ref 133,.builtin "ExceptionGroup.__weakref__",.none],#[]⟩,
⟨.type "super",none,.fields #[.ref 133,.ref 133,.ref 133],#[]⟩,
⟨.type "builtin_function_or_method",none,.fields #[.builtin "object.__init_subclass__",.ref 133],#[]⟩,
⟨.type "list",none,.seq (iT 2375 [14,4,0,1,1,6,1,16,46,1]) 0,#[]⟩,
Me,
GB,
xS P,
xQ P,
⟨.type "list",none,.seq (iT 2391 [14,9,4,1,2,16,10,16,13,0,7,7,16,13,16,10,15,18,5,16,10,15,13,11,16,13,5,5,0,16,10,1,15,2,0,1]) 0,#[]⟩,
Me,
GB,
xT P,
xR P,
jf,
t4,
tO 2435 ["data"],
jf,
fO "quotedata" "quotedata" (cA 12),
FR P,
FS P,
jf,
t4,
tO 2444 ["text","_law_read_on","stream"],
tO 2447 ["text","at"],
fO "_law_lexer" "_law_lexer" (cA 14),
pw P,
FT P,
jf,
t4,
tO 2455 ["text","kept","sign"],
jf,
fO "_law_prepared" "_law_prepared" (cA 15),
FU P,
FV P,
jf,
t4,
fO "_law_spelled" "_law_spelled" (cA 16),
FW P,
FX P,
jf,
t4,
fO "_law_texts_fewer" "_law_texts_fewer" (cA 17),
FY P,
FZ P,
jf,
t4,
fO "_law_least_short" "_law_least_short" (cA 18),
F3 P,
F4 P,
jf,
t4,
fO "law" "law" (cA 19),
F5 P,
F6 P]
def tD (P:Params):BT:=bT 9 (lD P)
end Mine

namespace Mine
open PySem PySem.W PySem.Calls PyProof.Rows
def hA (P:Params):Heap:=⟨(lA P).toArray,{}⟩
noncomputable abbrev KR (s:Shared):Heap×Array GenState×Drawn×Nat:=(s.heap,s.gens,s.drawn,s.toks)
theorem IU (w:World):(fencedOpening treeTable PW w 800).map KR=some (hA w.params,#[],{},276):=by
 unfold fencedOpening
 rw[Rh,Ri,Rj]
 kernel_rfl
theorem qY {tb:String->Option Builtin}{p:Program}{w:World}{n:Nat}{α:Type}{f:Shared->α}{x:α}(k:Nat)(h:(fencedOpening tb p w n).map f=some x):(fencedOpening tb p w (n+k)).map f=some x:=by
 unfold fencedOpening at h ⊢
 cases e:importEnds tb (opening p) w n (start (opening p)).1 (start (opening p)).2 with
 | none=>rw[e]at h;cases h
 | some s=>rw[e]at h;rw[importEnds_mono k _ _ _ _ e];exact h
def Bz:List Stmt:=behindTheImports PW
def BA:List Stmt:=(PW.main.body.drop 1).take 1
def t5:List Stmt:=(PW.main.body.drop 2).take 2
def IV:List Stmt:=(PW.main.body.drop 4).take 1
def t7:List Stmt:=PW.main.body.drop 5
def fT:Env:={scope:=PW.main.scope,locals:=mainNs,globals:=mainNs,cells:=[],code:=.ref 30,frame:=some 31}
def ca:Code:=.body Bz fT
noncomputable def ec:Pos:=default
noncomputable def IW:Pos:={line:=2,col:=0,endLine:=2,endCol:=8}
noncomputable def IX:Pos:={line:=4,col:=0,endLine:=5,endCol:=30}
noncomputable def BB:Pos:={line:=6,col:=0,endLine:=6,endCol:=13}
noncomputable def KS:Pos:={line:=111,col:=0,endLine:=179,endCol:=56}
noncomputable abbrev sT (T:Params->BT)(n k:Nat)(w:World)(os:OsState):SharedT:=⟨T w.params,n,{},#[],{},k,os⟩
noncomputable abbrev ja:Option Value:=some (.ref 6)
theorem Fp (w:World)(os:OsState):topGo treeTable PW w 28 ja 12 ⟨hA w.params,#[],{},276,os⟩ (topStub PW)=some ((sT tE 32 282 w os).abs,⟨denote treeTable ca,ca,ec,[topFrame ec]⟩):=by
 rw[Rk,Rl,Ri]
 kernel_rfl
theorem xr (w:World)(os:OsState):segRunT treeTable PW w 28 ja 1 2 (sT tE 32 282 w os) (blockOf Bz fT ca ec [topFrame ec])=some (.next,sT tE 32 282 w os,ca,ec):=by
 unfold blockOf
 rw[Rn,Ri,Ro]
 kernel_rfl
theorem IY (w:World)(os:OsState):segRunT treeTable PW w 28 ja 1 30 (sT tE 32 282 w os) (piecesOf BA fT ca ec [topFrame ec])=some (.next,sT tF 32 284 w os,ca,IW):=by
 unfold piecesOf
 rw[Rn,Ri,Rp]
 kernel_rfl
theorem IZ (b:Bool)(w:World)(os:OsState):segRunT treeTable PW (WB b w) 28 ja 1 1028 (sT tF 32 284 (WB b w) os) (piecesOf t5 fT ca IW [topFrame ec])=some (.next,sT tB 50 351 (WB b w) os,ca,IX):=by
 unfold piecesOf
 rw[Rn,Ri,Rp]
 cases b<;>kernel_rfl
noncomputable def KT:Int->Int->Bool
 | .ofNat m,.ofNat n=>Rd m n
 | .negSucc m,.negSucc n=>Rd m n
 | _,_=>false
theorem Ja (a b:Int):(a==b)=KT a b:=by
 have nb:∀m n:Nat,Rd m n=decide (m=n):=λm n=>by
  by_cases h:m=n
  ·subst h;simp
  ·rw[decide_eq_false h]
   cases q:Rd m n with
   | false=>rfl
   | true=>exact absurd (Nat.eq_of_beq_eq_true q) h
 have e:(a==b)=decide (a=b):=rfl
 rw[e]
 cases a<;>cases b<;>simp[KT,nb]<;>lia
def t9 (h:Int):List DictEntry->Nat->List Nat
 | [],_=>[]
 | e::r,i=>match KT e.hash h with
  | true=>i::t9 h r (i+1)
  | false=>t9 h r (i+1)
theorem lY (es:Array DictEntry)(h:Int):∀(l:List DictEntry) (k:Nat),es.toList.drop k=l ->
  (List.range' k l.length).filter (λi=>(es[i]?.map (·.hash))==some h)=t9 h l k
 | [],k,_=>rfl
 | e::r,k,hd=>by
  have h1:es[k]?=some e:=by
   rw[<-O4]
   have:=PX (xs:=es.toList) (i:=k) (j:=0)
   rw[hd]at this
   simpa using this.symm
  have h2:es.toList.drop (k+1)=r:=by rw[<-PJ,hd];rfl
  rw[NV,List.range'_succ,List.filter_cons,h1,lY es h r (k+1) h2]
  have e':(Q8 (λx=>x.hash) (some e)==some h)=(e.hash==h):=rfl
  have e2:t9 h (e::r) k=(match KT e.hash h with|true=>k::t9 h r (k+1)|false=>t9 h r (k+1)):=rfl
  rw[e',e2,Ja]
  cases KT e.hash h with
  | true=>rw[if_pos rfl]
  | false=>rw[if_neg Pr]
theorem qZ (es:Array DictEntry)(h:Int):Rq es.size (λi=>Q8 (λx=>x.hash) es[i]?) h=t9 h es.toList 0:=by
 have:Rq es.size (λi=>Q8 (λx=>x.hash) es[i]?) h=(Oy es.size).filter (λi=>(es[i]?.map (·.hash))==some h):=by
  delta Rq
  rw[<-W.R.filterR_eq]
 rw[this,List.range_eq_range',<-lY es h es.toList 0 rfl]
 simp
structure GC where
 F:Addr->Value->Int->Sem (Option Nat)
 h:Rr=F
noncomputable def GD:GC:=GC.mk _ (by
 delta Rr
 simp -zeta only[qZ]
 exact rfl)
structure KU where
 F:Addr->Int->Value->Value->Sem Unit
 h:Rs=F
noncomputable def Mf:KU:=KU.mk _ (by
 delta Rs
 rw[GD.h])
structure vF where
 F:Addr->Value->Int->Value->Sem Unit
 h:Rt=F
noncomputable def Fq:vF:=vF.mk _ (by
 delta Rt
 rw[GD.h])
noncomputable def BC (S:Setting)(b:Bool):Setting:=⟨S.program,{S.params with followText:=λr=>if r = "special-get-raises" then b else S.params.followText r}⟩
theorem xt (S:Setting):BC S (S.params.followText "special-get-raises")=S:=by
 obtain⟨pr,P⟩:=S
 have h:(λr=>if r = "special-get-raises" then P.followText "special-get-raises" else P.followText r)=P.followText:=by
  funext r
  by_cases e:r = "special-get-raises"
  ·subst e;simp
  ·simp[e]
 unfold BC
 dsimp only
 rw[h]
noncomputable def BD (i:Int)(t:Nat):Sem Int:=match Ru (.int i t)with
 | .ask k=>.ask λS=>k (BC S true)
 | x=>x
noncomputable def Jb:Sem Int->Setting->Sem Int
 | .ask k=>k
 | x=>λ_=>x
theorem Fr (i:Int)(t:Nat)(S:Setting)(b:Bool):Jb (Ru (.int i t)) (BC S b)=Jb (Ru (.int i t)) (BC S true):=by
 cases b<;>kernel_rfl
theorem xu (i:Int)(t:Nat):Ru (.int i t)=.ask (Jb (Ru (.int i t))):=by kernel_rfl
theorem BE (i:Int)(t:Nat):Ru (.int i t)=BD i t:=by
 unfold BD
 rw[xu]
 dsimp only
 congr 1
 funext S
 have:=Fr i t S (S.params.followText "special-get-raises")
 rw[xt]at this
 exact this
noncomputable def KV:Value->Sem Int
 | .int i t=>BD i t
 | v=>Ru v
theorem BF:Ru=KV:=by
 funext v
 cases v with
 | int i t=>exact BE i t
 | _=>rfl
structure KW where
 F:Addr->Value->Value->Sem Unit
 h:Rv=F
noncomputable def Mg:KW:=KW.mk _ (by
 delta Rv
 rw[Fq.h,BF])
structure KY where
 F:List (Sem Value×Sem Value)->Sem Addr
 h:Rw=F
noncomputable def Mh:KY:=KY.mk _ (by
 delta Rw
 rw[Mg.h])
structure BG where
 F:Addr->Value->Bool->Sem Unit
 h:Rx=F
noncomputable def Jc:BG:=BG.mk _ (by
 delta Rx
 rw[Mf.h])
abbrev DS:=Option Addr×List (Sem Value×Sem Value)
abbrev DI:=Option (Sem Value)×Sem Value
set_option warn.classDefReducibility false in
noncomputable def qM:Monad Sem:=Ry
theorem KZ:qM=Sem.instMonad:=Rz.symm
structure GE where
 f:DI->DS->Sem (ForInStep DS)
 k:DS->Sem Value
 h:∀items:List DI,RA items=(letI:=qM;forIn items ((none,[]):DS) f >>= k)
noncomputable def cD:GE:=GE.mk _ _ (λitems=>by delta RA;rw[Mh.h,Jc.h];exact rfl)
theorem Ft (items:List DI):dictDisplay items=(forIn items ((none,[]):DS) cD.f).bind cD.k:=by
 rw[RB,cD.h,KZ]
 rfl
noncomputable def ew (f:DI->DS->Sem (ForInStep DS)):List DI->DS->Sem (ForInStep DS)
 | [],s=>.pure (.yield s)
 | x::r,s=>W.R.bindR (f x s) λy=>match y with
  | .done s=>.pure (.done s)
  | .yield s=>ew f r s
theorem gt (f:DI->DS->Sem (ForInStep DS))(c:List DI):∀(a:List DI) (s:DS),forIn (a++c) s f=(ew f a s).bind λy=>match y with
  | .done s=>.pure s
  | .yield s=>forIn c s f
 | [],s=>rfl
 | x::r,s=>by
  rw[Oi,List.forIn_cons]
  show(f x s).bind _=(W.R.bindR (f x s) _).bind _
  rw[<-W.R.bindR_eq,Sem.bind_assoc]
  congr 1
  funext y
  cases y with
  | done s=>rfl
  | yield s=>exact gt f c r s
def ay:List Rg×(List (Option Rg)×List Rg×Pos)×Pos:=match IV with
 | [.Assign t (.Dict ks vs p) q]=>(t,(ks,vs,p),q)
 | _=>default
noncomputable abbrev Mi:Rg->Env->Sem Value:=RC
noncomputable def lZ (x:Option Rg×Rg):DI:=(match x.1 with|some k=>some (Mi k fT)|none=>none,W.R.bindR (Mi x.2 fT) λv=>W.R.bindR (standAt ay.2.1.2.2) λ_=>.pure v)
def o6:List (Option Rg×Rg):=ay.2.1.1.zip ay.2.1.2.1
noncomputable def q6 (m:Nat):List DI:=((o6.drop (17*m)).take 17).map lZ
theorem q7:∀(ks:List (Option Rg)) (vs:List Rg),(evalEachOpt ks fT).zip ((evalEach vs fT).map λv=>(do let x <-v;standAt ay.2.1.2.2;pure x:Sem Value))=(ks.zip vs).map lZ
 | [],_=>rfl
 | _::_,[]=>by cases ‹Option Rg›<;>rfl
 | k::ks,v::vs=>by
  have h:=q7 ks vs
  have e:lZ (k,v)=(k.map (eval · fT),(do let x <-eval v fT;standAt ay.2.1.2.2;pure x:Sem Value)):=by
   unfold lZ Mi
   rw[<-RD,<-W.R.bindR_eq]
   cases k<;>rfl
  rw[List.zip_cons_cons,Oa,e,<-h]
  cases k<;>rfl
noncomputable def ins (T:BT):Nat->List Obj->BT
 | _,[]=>T
 | n,o::r=>ins (T.ins n o) (n+1) r
def K8:List Obj:=(Oy 38).map λi=>GA (i+1)
def tm (m:Nat)(P:Params):BT:=ins ((tB P).ins 50 (IT m)) 51 (K8.take (m-1))
noncomputable def xv:ForInStep DS->Flow
 | .yield (some d,[])=>.ret (.ref d)
 | _=>.next
noncomputable def Mj (m:Nat)(s:DS):Thread:=⟨(ew cD.f (q6 m) s).wrap (λa=>doneF (xv a)) deadEnd id id,ca,ay.2.1.2.2,[topFrame ec]⟩
theorem Jd (w:World)(os:OsState):segRunT treeTable PW w 28 ja 1 224 (sT tB 50 351 w os) (Mj 0 (none,[]))=some (.ret (.ref 50),sT (tm 1) 51 402 w os,ca,ay.2.1.2.2):=by
 rw[Rn,Ri]
 kernel_rfl
abbrev RT (w:World)(os:OsState)(m:Nat):Prop:=segRunT treeTable PW w 28 ja 1 331 (sT (tm m) (50+m) (351+51*m) w os) (Mj m (some 50,[]))=some (.ret (.ref 50),sT (tm (m+1)) (51+m) (402+51*m) w os,ca,ay.2.1.2.2)
def Ly (w:World)(os:OsState):Nat->Prop
 | 0=>True
 | m+1=>Ly w os m/\RT w os (m+1)
theorem Ly.get {w:World}{os:OsState}:∀{n m:Nat},Ly w os n->m<n->RT w os (m+1)
 | _+1,_,h,hm=>(QD.mp hm).elim (λhm=>h.1.get hm) λe=>e▸h.2
structure RQ (w:World)(os:OsState)(m:Nat) where
 p:Prop
 h:p->RT w os m
noncomputable def rq (w:World)(os:OsState)(m:Nat):RQ w os m:=RQ.mk _ λh=>by
 unfold RT
 rw[Rn,Ri]
 exact h
theorem NA (w:World)(os:OsState):RT w os 1:=(rq w os 1).h (by show _=_;kernel_rfl)
theorem NB (w:World)(os:OsState):RT w os 2:=(rq w os 2).h (by show _=_;kernel_rfl)
theorem NC (w:World)(os:OsState):RT w os 3:=(rq w os 3).h (by show _=_;kernel_rfl)
theorem ND (w:World)(os:OsState):RT w os 4:=(rq w os 4).h (by show _=_;kernel_rfl)
theorem NE (w:World)(os:OsState):RT w os 5:=(rq w os 5).h (by show _=_;kernel_rfl)
theorem NF (w:World)(os:OsState):RT w os 6:=(rq w os 6).h (by show _=_;kernel_rfl)
theorem NG (w:World)(os:OsState):RT w os 7:=(rq w os 7).h (by show _=_;kernel_rfl)
theorem NH (w:World)(os:OsState):RT w os 8:=(rq w os 8).h (by show _=_;kernel_rfl)
theorem NI (w:World)(os:OsState):RT w os 9:=(rq w os 9).h (by show _=_;kernel_rfl)
theorem Mk (w:World)(os:OsState):RT w os 10:=(rq w os 10).h (by show _=_;kernel_rfl)
theorem Ml (w:World)(os:OsState):RT w os 11:=(rq w os 11).h (by show _=_;kernel_rfl)
theorem Mm (w:World)(os:OsState):RT w os 12:=(rq w os 12).h (by show _=_;kernel_rfl)
theorem Mn (w:World)(os:OsState):RT w os 13:=(rq w os 13).h (by show _=_;kernel_rfl)
theorem Mp (w:World)(os:OsState):RT w os 14:=(rq w os 14).h (by show _=_;kernel_rfl)
theorem Mq (w:World)(os:OsState):RT w os 15:=(rq w os 15).h (by show _=_;kernel_rfl)
theorem Mr (w:World)(os:OsState):RT w os 16:=(rq w os 16).h (by show _=_;kernel_rfl)
theorem Ms (w:World)(os:OsState):RT w os 17:=(rq w os 17).h (by show _=_;kernel_rfl)
theorem Mt (w:World)(os:OsState):RT w os 18:=(rq w os 18).h (by show _=_;kernel_rfl)
theorem Mu (w:World)(os:OsState):RT w os 19:=(rq w os 19).h (by show _=_;kernel_rfl)
theorem Mv (w:World)(os:OsState):RT w os 20:=(rq w os 20).h (by show _=_;kernel_rfl)
theorem Mw (w:World)(os:OsState):RT w os 21:=(rq w os 21).h (by show _=_;kernel_rfl)
theorem Mx (w:World)(os:OsState):RT w os 22:=(rq w os 22).h (by show _=_;kernel_rfl)
theorem My (w:World)(os:OsState):RT w os 23:=(rq w os 23).h (by show _=_;kernel_rfl)
theorem Mz (w:World)(os:OsState):RT w os 24:=(rq w os 24).h (by show _=_;kernel_rfl)
theorem MA (w:World)(os:OsState):RT w os 25:=(rq w os 25).h (by show _=_;kernel_rfl)
theorem MB (w:World)(os:OsState):RT w os 26:=(rq w os 26).h (by show _=_;kernel_rfl)
theorem MC (w:World)(os:OsState):RT w os 27:=(rq w os 27).h (by show _=_;kernel_rfl)
theorem MD (w:World)(os:OsState):RT w os 28:=(rq w os 28).h (by show _=_;kernel_rfl)
theorem ME (w:World)(os:OsState):RT w os 29:=(rq w os 29).h (by show _=_;kernel_rfl)
theorem MF (w:World)(os:OsState):RT w os 30:=(rq w os 30).h (by show _=_;kernel_rfl)
theorem MG (w:World)(os:OsState):RT w os 31:=(rq w os 31).h (by show _=_;kernel_rfl)
theorem MH (w:World)(os:OsState):RT w os 32:=(rq w os 32).h (by show _=_;kernel_rfl)
theorem MI (w:World)(os:OsState):RT w os 33:=(rq w os 33).h (by show _=_;kernel_rfl)
theorem MJ (w:World)(os:OsState):RT w os 34:=(rq w os 34).h (by show _=_;kernel_rfl)
theorem MK (w:World)(os:OsState):RT w os 35:=(rq w os 35).h (by show _=_;kernel_rfl)
theorem ML (w:World)(os:OsState):RT w os 36:=(rq w os 36).h (by show _=_;kernel_rfl)
theorem MM (w:World)(os:OsState):RT w os 37:=(rq w os 37).h (by show _=_;kernel_rfl)
theorem Je (w:World)(os:OsState):Ly w os 37:=⟨⟨⟨⟨⟨⟨⟨⟨⟨⟨⟨⟨⟨⟨⟨⟨⟨⟨⟨⟨⟨⟨⟨⟨⟨⟨⟨⟨⟨⟨⟨⟨⟨⟨⟨⟨⟨trivial,NA w os⟩,NB w os⟩,NC w os⟩,ND w os⟩,NE w os⟩,NF w os⟩,NG w os⟩,NH w os⟩,NI w os⟩,Mk w os⟩,Ml w os⟩,Mm w os⟩,Mn w os⟩,Mp w os⟩,Mq w os⟩,Mr w os⟩,Ms w os⟩,Mt w os⟩,Mu w os⟩,Mv w os⟩,Mw w os⟩,Mx w os⟩,My w os⟩,Mz w os⟩,MA w os⟩,MB w os⟩,MC w os⟩,MD w os⟩,ME w os⟩,MF w os⟩,MG w os⟩,MH w os⟩,MI w os⟩,MJ w os⟩,MK w os⟩,ML w os⟩,MM w os⟩
theorem Fu:swapsWithSole ay.1 (.Dict ay.2.1.1 ay.2.1.2.1 ay.2.1.2.2) ay.2.2.line fT=pure false:=by kernel_rfl
structure AQ (ts:List Rg)(ks:List (Option Rg))(vs:List Rg)(p q:Pos)(env:Env) where
 G:Value->Sem Flow
 h:swapsWithSole ts (.Dict ks vs p) q.line env=pure false->exec (.Assign ts (.Dict ks vs p) q) env=.at q λ_=>.at p λ_=>(dictDisplay ((evalEachOpt ks env).zip ((evalEach vs env).map λv=>(do let x <-v;standAt p;pure x:Sem Value)))).bind G
noncomputable def Lc (ts:List Rg)(ks:List (Option Rg))(vs:List Rg)(p q:Pos)(env:Env):AQ ts ks vs p q env:=AQ.mk _ (λh=>by
 show Sem.at q (λ_=>(swapsWithSole ts (.Dict ks vs p) q.line env).bind _)=_
 rw[h]
 exact rfl)
noncomputable def ua:Value->Sem Flow:=(Lc ay.1 ay.2.1.1 ay.2.1.2.1 ay.2.1.2.2 ay.2.2 fT).G
noncomputable def fQ (m:Nat):List DI:=(o6.drop (17*m)).map lZ
noncomputable def Jv (s:DS):Sem Flow:=(cD.k s).bind ua
theorem Fw:exec (.Assign ay.1 (.Dict ay.2.1.1 ay.2.1.2.1 ay.2.1.2.2) ay.2.2) fT=.at ay.2.2 λ_=>.at ay.2.1.2.2 λ_=>(forIn (fQ 0) ((none,[]):DS) cD.f).bind Jv:=by
 rw[(Lc ay.1 ay.2.1.1 ay.2.1.2.1 ay.2.1.2.2 ay.2.2 fT).h Fu,q7,Ft]
 congr 1;funext _;congr 1;funext _
 rw[Sem.bind_assoc]
 rfl
theorem q8 (m:Nat):fQ m=q6 m++fQ (m+1):=by
 unfold fQ q6
 rw[<-NO,Nat.mul_succ,<-PJ,Ot]
section
variable{p:Program}{w:World}{n₀:Nat}{ann:Option Value}{q:Pos}{tb:String->Option Builtin}
theorem m7 {α β:Type}(x:Sem α)(y:α->Sem β)(K:β->Sem Fin)(H:Value->Sem Fin):(x.bind y).wrap K H id id=x.wrap (λa=>(y a).wrap K H id id) H id id:=by
 rw[Sem.bind_eq_wrap,Sem.wrap_wrap];rfl
theorem BH {a:ForInStep DS}{d:Nat}(h:xv a=.ret (.ref d)):a=.yield (some d,[]):=by
 unfold xv at h
 split at h
 ·cases h;rfl
 ·cases h
theorem xw {n N d:Nat}{S S' r:Shared}{a rest:List DI}{ds:DS}{KG:DS->Sem Flow}{K:Flow->Sem Fin}{H:Value->Sem Fin}{c c':Code}{pos p':Pos}
  (h:segRun tb p w n₀ ann 1 n S ⟨(ew cD.f a ds).wrap (λy=>doneF (xv y)) deadEnd id id,c,pos,[topFrame q]⟩=some (.ret (.ref d),S',c',p'))
  (k:topRun tb p w n₀ ann N S' ⟨((forIn rest ((some d,[]):DS) cD.f).bind KG).wrap K H id id,c',p',[topFrame q]⟩=some r) :
  topRun tb p w n₀ ann (n+N) S ⟨((forIn (a++rest) ds cD.f).bind KG).wrap K H id id,c,pos,[topFrame q]⟩=some r:=by
 have e:((forIn (a++rest) ds cD.f).bind KG).wrap K H id id=(ew cD.f a ds).wrap (λy=>((match y with|.done s=>(.pure s:Sem DS)|.yield s=>forIn rest s cD.f).bind KG).wrap K H id id) H id id:=by
  rw[gt,Sem.bind_assoc,m7]
  all_goals rfl
 rw[e]
 obtain⟨y,hy,hN⟩:=seg_top (res:=xv) (K':=λy=>((match y with|.done s=>(.pure s:Sem DS)|.yield s=>forIn rest s cD.f).bind KG).wrap K H id id) (H':=H) (B:=[topFrame q]) rfl n S
  ⟨(ew cD.f a ds).wrap (λy=>doneF (xv y)) deadEnd id id,c,pos,[topFrame q]⟩ ⟨(ew cD.f a ds).wrap _ H id id,c,pos,[topFrame q]⟩ _ _ _ _ ⟨rfl,rfl,.inl ⟨rfl,rfl,_,rfl,rfl⟩⟩ h
 obtain rfl:=BH hy
 exact hN N r k
theorem vG {N:Nat}{S r:Shared}{t:Unit->Sem Fin}{q' pos:Pos}{c:Code}(k:topRun tb p w n₀ ann N S ⟨t (),c,q',[topFrame q]⟩=some r):topRun tb p w n₀ ann (N+1) S ⟨.at q' t,c,pos,[topFrame q]⟩=some r:=k
theorem ub {n N:Nat}{S S' r:Shared}{x:Sem Value}{v:Value}{y:Value->Sem Flow}{K:Flow->Sem Fin}{H:Value->Sem Fin}{c c':Code}{pos p':Pos}
  (h:segRun tb p w n₀ ann 1 n S ⟨x.wrap (λv=>doneF (.ret v)) deadEnd id id,c,pos,[topFrame q]⟩=some (.ret v,S',c',p'))
  (k:topRun tb p w n₀ ann N S' ⟨(y v).wrap K H id id,c',p',[topFrame q]⟩=some r) :
  topRun tb p w n₀ ann (n+N) S ⟨(x.bind y).wrap K H id id,c,pos,[topFrame q]⟩=some r:=by
 rw[m7]
 obtain⟨a,ha,hN⟩:=seg_top (res:=Flow.ret) (K':=λa=>(y a).wrap K H id id) (H':=H) (B:=[topFrame q]) rfl n S
  ⟨x.wrap (λv=>doneF (.ret v)) deadEnd id id,c,pos,[topFrame q]⟩ ⟨x.wrap (λa=>(y a).wrap K H id id) H id id,c,pos,[topFrame q]⟩ _ _ _ _ ⟨rfl,rfl,.inl ⟨rfl,rfl,_,rfl,rfl⟩⟩ h
 cases ha
 exact hN N r k
theorem xx {n N:Nat}{S S' r:Shared}{x:Sem Flow}{f:Flow}{K:Flow->Sem Fin}{H:Value->Sem Fin}{c c':Code}{pos p':Pos}
  (h:segRun tb p w n₀ ann 1 n S ⟨x.wrap doneF deadEnd id id,c,pos,[topFrame q]⟩=some (f,S',c',p'))
  (k:topRun tb p w n₀ ann N S' ⟨K f,c',p',[topFrame q]⟩=some r) :
  topRun tb p w n₀ ann (n+N) S ⟨x.wrap K H id id,c,pos,[topFrame q]⟩=some r:=by
 obtain⟨a,ha,hN⟩:=seg_top (res:=id) (K':=K) (H':=H) (B:=[topFrame q]) rfl n S
  ⟨x.wrap doneF deadEnd id id,c,pos,[topFrame q]⟩ ⟨x.wrap K H id id,c,pos,[topFrame q]⟩ _ _ _ _ ⟨rfl,rfl,.inl ⟨rfl,rfl,_,rfl,rfl⟩⟩ h
 cases ha
 exact hN N r k
end
noncomputable def BI:Sem Value:=W.R.bindR (ew cD.f (q6 38) (some 50,[])) λy=>match y with|.done s=>cD.k s|.yield s=>cD.k s
theorem Fy:(forIn (fQ 38) ((some 50,[]):DS) cD.f).bind Jv=BI.bind ua:=by
 have e:fQ 38=q6 38++[]:=by
  have h1:o6.drop (17*(38+1))=[]:=by kernel_rfl
  have h2:fQ (38+1)=[]:=by unfold fQ;rw[h1];rfl
  rw[q8,h2]
 rw[e,gt,Sem.bind_assoc]
 unfold BI
 rw[<-W.R.bindR_eq,Sem.bind_assoc]
 congr 1
 funext y
 cases y<;>rfl
theorem BJ (w:World)(os:OsState):segRunT treeTable PW w 28 ja 1 200 (sT (tm 38) 88 2289 w os) ⟨BI.wrap (λv=>doneF (.ret v)) deadEnd id id,ca,ay.2.1.2.2,[topFrame ec]⟩=some (.ret (.ref 50),sT (tm 39) 89 2301 w os,ca,ay.2.1.2.2):=by
 rw[Rn,Ri]
 kernel_rfl
theorem xy (w:World)(os:OsState):segRunT treeTable PW w 28 ja 1 100 (sT (tm 39) 89 2301 w os) ⟨(ua (.ref 50)).wrap doneF deadEnd id id,ca,ay.2.1.2.2,[topFrame ec]⟩=some (.next,sT tC 89 2302 w os,ca,BB):=by
 rw[Rn,Ri]
 kernel_rfl
theorem Jf (w:World)(os:OsState):segRunT treeTable PW w 28 ja 1 1000 (sT tC 89 2302 w os) (piecesOf t7 fT ca BB [topFrame ec])=some (.next,sT tD 189 2485 w os,ca,KS):=by
 unfold piecesOf
 rw[Rn,Ri,Rp]
 kernel_rfl
def hD (P:Params):Heap:=⟨(lD P).toArray,{}⟩
theorem Fz (w:World)(os:OsState):topRun treeTable PW w 28 ja 3 (sT tD 189 2485 w os).abs ⟨doneF .next,ca,KS,[topFrame ec]⟩=some ⟨hD w.params,#[],{},2485,os⟩:=by
 rw[RE,Ri]
 kernel_rfl
theorem BK:Bz=BA++(t5++([.Assign ay.1 (.Dict ay.2.1.1 ay.2.1.2.1 ay.2.1.2.2) ay.2.2]++(t7++[]))):=by kernel_rfl
theorem FA (w:World)(os:OsState):segRunT treeTable PW w 28 ja 1 1028 (sT tF 32 284 w os) (piecesOf t5 fT ca IW [topFrame ec])=some (.next,sT tB 50 351 w os,ca,IX):=by
 have:=IZ (w.params.followText "special-get-raises") w os
 unfold WB at this
 rw[World.withFollow_self]at this
 exact this
section
variable{w:World}{os:OsState}{r:Shared}
abbrev tR (w:World)(N:Nat)(s:Shared)(t:Thread)(r:Shared):Prop:=topRun treeTable PW w 28 ja N s t=some r
theorem GF (m:Nat){n N:Nat}{ds:DS}{S S':SharedT}{K:Flow->Sem Fin}{H:Value->Sem Fin}(h:segRunT treeTable PW w 28 ja 1 n S (Mj m ds)=some (.ret (.ref 50),S',ca,ay.2.1.2.2))
  (k:tR w N S'.abs ⟨((forIn (fQ (m+1)) ((some 50,[]):DS) cD.f).bind Jv).wrap K H id id,ca,ay.2.1.2.2,[topFrame ec]⟩ r) :
  tR w (n+N) S.abs ⟨((forIn (fQ m) ds cD.f).bind Jv).wrap K H id id,ca,ay.2.1.2.2,[topFrame ec]⟩ r:=by
 rw[q8 m]
 exact xw (segRun_of h) k
theorem Ld {N:Nat}{K:Flow->Sem Fin}{H:Value->Sem Fin}(k:tR w N (sT tC 89 2302 w os).abs ⟨K .next,ca,BB,[topFrame ec]⟩ r) :
  tR w (200+(100+N)) (sT (tm 38) 88 2289 w os).abs ⟨((forIn (fQ 38) ((some 50,[]):DS) cD.f).bind Jv).wrap K H id id,ca,ay.2.1.2.2,[topFrame ec]⟩ r:=by
 rw[Fy]
 exact ub (segRun_of (BJ w os)) (xx (segRun_of (xy w os)) k)
theorem GG {N:Nat}{K:Flow->Sem Fin}{H:Value->Sem Fin}(k:tR w N (sT tC 89 2302 w os).abs ⟨K .next,ca,BB,[topFrame ec]⟩ r):∀j m,m+j=38->1<=m ->
  tR w (331*j+(300+N)) (sT (tm m) (50+m) (351+51*m) w os).abs ⟨((forIn (fQ m) ((some 50,[]):DS) cD.f).bind Jv).wrap K H id id,ca,ay.2.1.2.2,[topFrame ec]⟩ r
 | 0,m,e,_=>by
  have e':m=38:=e
  subst e'
  have h:=Ld k (H:=H)
  rw[<-Q7]at h
  rw[Nat.mul_zero,OF]
  exact h
 | j+1,0,_,h=>nomatch h
 | j+1,m+1,e,_=>by
  have h:=GG k (H:=H) j (m+2) (by lia) (by lia)
  rw[show 50+(m+2)=51+(m+1) by lia,show 351+51*(m+2)=402+51*(m+1) by lia]at h
  have h2:=GF (m+1) ((Je w os).get (show m<37 by lia)) h
  rw[Nat.mul_succ,Nat.add_comm (331*j),Q7]
  exact h2
theorem Jg {N:Nat}{rest:List Stmt}(k:tR w N (sT tC 89 2302 w os).abs (restOf rest fT ca BB [topFrame ec]) r) :
  tR w (224+(331*37+(300+N))+1+1) (sT tB 50 351 w os).abs (restOf ([.Assign ay.1 (.Dict ay.2.1.1 ay.2.1.2.1 ay.2.1.2.2) ay.2.2]++rest) fT ca IX [topFrame ec]) r:=by
 unfold restOf
 rw[Oi,OU,execs_cons_wrap,Fw]
 refine vG (vG ?_)
 exact GF 0 (Jd w os) (GG k 37 1 rfl (NT 1))
theorem FB (w:World)(os:OsState):tR w (12+(2+(30+(1028+(224+(331*37+(300+(1000+3)))+1+1))))) ⟨hA w.params,#[],{},276,os⟩ (topStub PW) ⟨hD w.params,#[],{},2485,os⟩:=by
 refine go_top (Fp w os) (piece_block (segRun_of (xr w os)) ?_)
 rw[BK]
 refine piece_app (segRun_of (IY w os)) ?_
 refine piece_app (segRun_of (FA w os)) ?_
 refine Jg (N:=1000+3) (rest:=t7++[]) (w:=w) (os:=os) ?_
 refine piece_app (segRun_of (Jf w os)) ?_
 exact piece_nil (Fz w os)
end
noncomputable def vH:Program:={PW with main:={PW.main with body:=(PW.main.body.drop 19).take 1}}
noncomputable def o7:List Str:=[Rf "_sre",Rf "b1_set",Rf "in_table_b1",Rf "b3_exceptions",Rf "map_table_b3",Rf "_netrclex",Rf "_twin_re_1",Rf "_twin_re_2",Rf "CRLF",Rf "quotedata",Rf "_law_lexer",Rf "_law_prepared",Rf "_law_spelled",Rf "_law_texts_fewer",Rf "_law_least_short"]
abbrev MN (w:World)(os:OsState):Shared:=⟨hD w.params,#[],{},2485,os⟩
theorem xz (w:World):((hA w.params).isNs mainGlobals&&(#[]:Array GenState).size==0,(hA w.params).objs.size,(hA w.params).nsMap mainGlobals "__annotations__")=(true,28,ja):=by kernel_rfl
theorem Jh (w:World)(os:OsState):(staticsOk (importedModules PW.main.body) (hA w.params) (hD w.params)&&namesBound PW (hD w.params)&&gensDone (MN w os)&&laidKept (hA w.params) (hD w.params))=true:=by kernel_rfl
theorem Ji (w:World)(os:OsState):openSeen vH o7 (importedModules PW.main.body) (λ_=>true) true (MN w os)=openGood vH o7:=by
 rw[RF]
 kernel_rfl
def FC:List Nat:=156::gw
def KX (P:Params):List (Nat×Obj):=(156,⟨.none,none,.fields #[],#[]⟩)::KB P
theorem Jj (w:World)(os:OsState):X.obsZ FC (MN w os)=X.valZ KX kn ko w:=by kernel_rfl
theorem Jk:LeftO PW vH o7 (λ_=>true) (X.obsZ FC) (X.valZ KX kn ko) 20000:=by
 refine LeftO.of_pieces (H₀:=hA) (H₁:=hD) (gs₀:=#[]) (gs₁:=#[]) (d₀:={}) (d₁:={}) (k₀:=276) (k₁:=2485) (λw=>qY 19200 (IU w)) xz (λw os=>FB w os) (by rfl) λw=>funext λos=>?_
 have h1:=Jh w os
 have h2:=Ji w os
 have h3:=Jj w os
 rw[Prod.mk.injEq,Prod.mk.injEq]
 exact⟨h1,h2,h3⟩
theorem xA (P:Params):FC=(KX P).map (·.1):=by kernel_rfl
theorem fL:∀{l:List (Nat×Obj)} {a:Nat} {o:Obj},l.lookup a=some o->(a,o)∈l
 | [],_,_,h=>by simp at h
 | (x,y)::r,a,o,h=>by
  unfold List.lookup at h
  cases e:a==x with
  | true=>rw[e]at h;simp only[Oj.injEq]at h;rw[eq_of_beq e,h];exact .head _
  | false=>rw[e]at h;exact .tail _ (fL h)
theorem m8 {h:Heap}:∀{K:List (Nat×Obj)},X.AllIn h K->∀p∈K,h.get? p.1=some p.2
 | [],_,_,hp=>nomatch hp
 | q::r,A,p,hp=>by
  rcases N0.mp hp with rfl|hp
  ·exact A.1
  ·exact m8 A.2 p hp
structure o8 (s s':Shared):Prop where
 os:s'.os=s.os
 gens:s'.gens=s.gens
 old:∀c o,s.heap.get? c=some o->c≠156->s'.heap.get? c=some o
 tab:∃more:List Value,s'.heap.get? 156=some ⟨.none,none,.fields more.toArray,#[]⟩
theorem o8.oldK {P:Params}{s s':Shared}(k:o8 s s')(h156:s.heap.get? 156=some ⟨.none,none,.fields #[],#[]⟩)(h160:s.heap.get? 160=some (pw P)):OldK s.heap s'.heap:=by
 refine⟨λb o h=>?_,λb o h=>?_⟩
 ·by_cases e:b=156
  ·subst e
   rw[h156]at h
   cases h
   obtain⟨more,hm⟩:=k.tab
   refine .inr (.inl ⟨⟨160,_,_,h160,rfl,rfl,rfl⟩,rfl,#[],more.toArray,rfl,?_⟩)
   rw[hm];simp
  ·exact .inl (k.old b o h e)
 ·by_cases e:b=156
  ·subst e
   obtain⟨more,hm⟩:=k.tab
   exact⟨_,hm⟩
  ·exact⟨o,k.old b o h e⟩
theorem NJ (P:Params):KL P 3=some (GR P):=by kernel_rfl
theorem Le (P:Params):KL P 160=some (pw P):=by kernel_rfl
noncomputable def Jl (d:Data):Array DictEntry:=match d with|.dict es _=>es|_=>#[]
theorem Lf (P:Params):nsFind (Jl (GR P).data) (Rf "law")=some (.ref 188):=by kernel_rfl
theorem FD (H:∀(b:Bool) (w:World) (s:Shared) (ns:List Int) (vs:List Value),IntsAre vs ns->ns.length<=63->(∀a o,KL (WB b w).params a=some o->s.heap.get? a=some o)->s.heap.get? 156=some ⟨.none,none,.fields #[],#[]⟩ ->
   s.heap.get? 189=some ⟨.type "list",none,.seq vs.toArray 0,#[]⟩->s.heap.objs.size=190 ->
   codeAny (model PW (WB b w)) callerA (.call (.ref 188) ⟨[.ref 189],[]⟩) (λr s'=>r=.ok (.ret (.bool true))/\o8 s s') s):PySem.Challenge.rw_qu0046_02.Holds:=by
 refine holds_law (l:=PySem.Challenge.rw_qu0046_02) (by kernel_rfl) λsaid=>?_
 refine holds_openX (q:=vH) (loose:=o7) (Xt:=λ_=>true) (XP:=λ_ _=>True) (Yf:=X.obsZ FC) (Ya:=X.valZ KX kn ko) (N:=20000) Jk (λ_ _=>trivial) (λ_ _ _ _ _=>trivial) (by rfl) (by rfl) (by rfl) (λs _=>recFacts_nil rfl) (by rfl) (by first|assumption|decide +kernel) (by decide +kernel) ⟨rfl,rfl,rfl,rfl,rfl,by decide +kernel⟩ ?hw ?hc
 case hw=>w_witness2
 intro w s₀ s₁ mg mb G y fa o pm cd doc dV kV ho hd hcd hD hmg hg args vals as L hpre hlay hrd hwl hlo
 clear hd hcd hD ho
 wrow_args hpre hlay hrd hwl hlo
 rename_i ns _ _ _ _ _ a1 a2 a vs a3 hL ra w1 r0 hI hr hc63 _
 obtain⟨A,I,hn,ht⟩:=X.z_facts xA y
 obtain⟨hat,cQ⟩:=X.script_at L
 have hob:=X.script_obj L hL
 have g:∀p∈KX w.params,s₁.heap.get? p.1=some p.2:=λp hp=>L.keeps _ _ (m8 A p hp)
 rw[hn]at hat cQ
 subst hat
 have hfa:fa=188:=by
  have n1:=G.T.g
  obtain⟨o,es,ep,h1,h2,h3,h4⟩:=n1
  have h5:=g (3,GR w.params) (.tail _ (fL (NJ w.params)))
  have h6:some o=some (GR w.params):=h1.symm.trans h5
  cases h6
  have h7:=(h4 (Rf "law")).trans hmg
  have h8:=Lf w.params
  have h9:(GR w.params).data=.dict es ep:=h2
  rw[h9]at h8
  have h10:nsFind es (Rf "law")=some (.ref 188):=h8
  exact(Value.ref.inj (Oj.inj (h10.symm.trans h7))).symm
 subst hfa
 refine wpAny_call ?_
 have hw:=World.withFollow_self w "special-get-raises"
 have HH:=H (w.params.followText "special-get-raises") w s₁ ns vs hI (by lia) (by
  rw[show WB (w.params.followText "special-get-raises") w=w from hw]
  intro c o hc
  exact g (c,o) (.tail _ (fL hc))) (g (156,⟨.none,none,.fields #[],#[]⟩) (.head _)) hob cQ
 rw[show WB (w.params.followText "special-get-raises") w=w from hw]at HH
 refine codeAny_mono HH ?_
 rintro r s' ⟨rfl,k⟩
 refine⟨.inl ⟨_,.bool true,[],rfl,raisesW_false nM,.bool true,?_,unshared_nil⟩,k.oldK (P:=w.params) (g (156,⟨.none,none,.fields #[],#[]⟩) (.head _)) (g (160,pw w.params) (.tail _ (fL (Le w.params)))),k.os,.of_eq (k.gens.trans hg)⟩
 ·wrow_post
end Mine

namespace Mine
open PySem PyProof.Rows
theorem law_fin:PySem.Challenge.rw_qu0046_02.Holds:=by
 refine FD λb w s ns vs hI h63 hb h1 h2 hz=>?_
 have hl:vs.length<=63:=by rw[IntsAre.length hI];exact h63
 refine codeAny_mono (Bs (λC h=>tZ h) hI hl hb h1 h2 hz) ?_
 rintro r s' ⟨rfl,k,hk,T,hT⟩
 exact⟨rfl,k.os,k.gens,λc o hc hn=>hk c o hc hn,⟨_,hT⟩⟩
end Mine

end
theorem PySem.Challenge.cw_qu0046_02_holds : PySem.Challenge.rw_qu0046_02.Holds :=
  Mine.law_fin
