import PyProof.Rows.All
import Wide.All
import OpenK.AllK
import Wide.FinOn
import Lean
import PySem.Challenge.RW_mt0008_01
open PySem PySem.W PyProof.Rows
set_option Elab.async false
set_option maxRecDepth 100000
set_option maxHeartbeats 8000000
set_option linter.all false
set_option bootstrap.genMatcherCode false
set_option genSizeOf false
set_option tactic.hygienic false
set_option genInjectivity false
namespace Mine
abbrev aA:=@wpAny_bind
abbrev aB:=@List.length_map
abbrev aC:=@wpAny_pure
abbrev aE:=@Array.length_toList
abbrev aF:=@wpAny_mono
abbrev aG:=@Heap.get?_push_of_some
abbrev aH:=@Nat.le_refl
abbrev aK:=@List.getElem?_eq_getElem
abbrev aL:=@if_neg
abbrev aM:=@List.length_cons
abbrev aN:=@if_pos
abbrev aO:=@wpS_bind
abbrev aP:=@List.length_append
abbrev aQ:=@decide_eq_true_eq
abbrev aS:=@List.getElem?_map
abbrev aT:=@Heap.get?_push_size
abbrev aU:=@wpS_pure
abbrev aV:=@Nat.zero_le
abbrev aY:=@List.mem_append
abbrev aZ:=@List.length_nil
abbrev aa:=@List.mem_singleton
abbrev ab:=@Array.getElem?_toList
abbrev ad:=@Bool.and_eq_true
abbrev ae:=@Bool.false_eq_true
abbrev af:=@wpAny_items_cons
abbrev ag:=@List.map_append
abbrev ah:=@wpAny_holding
abbrev ak:=@List.mem_cons
abbrev am:=@Heap.lt_size
abbrev ao:=@List.take_of_length_le
abbrev aq:=@Int.toNat_natCast
abbrev ar:=@List.append_nil
abbrev au:=@codeAny_mono
abbrev av:=@List.append_assoc
abbrev aw:=@Heap.get?_update_self
abbrev ax:=@Heap.hide_ne
abbrev ay:=@List.mem_of_getElem?
abbrev az:=@decide_eq_false_iff_not
abbrev a0:=@wpAny_items_nil
abbrev a8:=@List.getD_eq_getElem?_getD
abbrev a9:=@Nat.lt_or_ge
abbrev bA:=@Nat.le_trans
abbrev bB:=@List.length_range
abbrev bC:=@List.length_take
abbrev bD:=@Array.toList_append
abbrev bE:=@wpAny_Call_Name_kw
abbrev bF:=@KeyOrd.kle_refl
abbrev bG:=@Heap.get?_update_other
abbrev bH:=@decide_eq_true
abbrev bI:=@Nat.add_sub_cancel_left
abbrev bJ:=@List.map_cons
abbrev bK:=@builtinLookup_eq_fast
abbrev bL:=@PySem.F.plain_extend_loop
abbrev bM:=@SeqAt.canLay_of_shaped
abbrev bN:=@Int.sub_nonneg_of_le
abbrev bO:=@wpAny_call
abbrev bP:=@List.take_append_drop
abbrev bQ:=@Nat.ne_of_lt
abbrev bR:=@List.length_drop
abbrev bT:=@callWith_method1
abbrev bU:=@List.mem_of_mem_take
abbrev bV:=@wpAny_truthy_bool
abbrev bW:=@wpAny_Name
abbrev bX:=@List.mem_cons_self
abbrev bY:=@wpAny_isTrue_Compare1
abbrev bZ:=@if_false
abbrev ba:=@List.getElem?_append_right
abbrev bf:=@List.drop_sublist
abbrev bh:=@wpS_forRange
abbrev bm:=@List.lookup_cons
abbrev bn:=@BindsTo.of_eq
abbrev bp:=@List.mem_append_right
abbrev bq:=@List.length_singleton
abbrev br:=@PySem.F.slot_tuple_iterator_next
abbrev bu:=@of_decide_eq_false
abbrev bv:=@List.mem_cons_of_mem
abbrev bx:=@typeLookup_type
abbrev b0:=@List.drop_of_length_le
abbrev b7:=@wpAny_call_entry
abbrev b8:=@KeyOrd.kle_of_klt
abbrev b9:=@isSubtype_type
abbrev cA:=@List.nil_append
abbrev cB:=@Nat.sub_zero
abbrev cC:=@List.getElem?_take
abbrev cD:=@List.getElem?_drop
abbrev cE:=@List.mem_append_left
abbrev cF:=@wpS_mono
abbrev cG:=@Calls.callWith_function
abbrev cH:=@Array.getD_eq_getD_getElem?
abbrev cI:=@List.take_add_one
abbrev cJ:=@wpAny_assign_Name
abbrev cK:=@List.map_map
abbrev cL:=@List.flatMap_append
abbrev cM:=@wpAny_Assign_stores
abbrev cN:=@Nat.min_eq_left
abbrev cO:=@Nat.add_sub_cancel
abbrev cP:=@wpAny_execs_cons
abbrev cQ:=@Nat.le_add_right
abbrev cR:=@getElem?_pos
abbrev cS:=@Nat.le_of_lt
abbrev cT:=@PySem.F.slot_list_extend
abbrev cU:=@Bool.or_false
abbrev cV:=@Nat.succ_pos
abbrev cW:=@Calls.evalArgs_plain
abbrev cX:=@Array.toList_push
abbrev cY:=@getMethod_list_of
abbrev cZ:=@wpAny_list_append_plain
abbrev ca:=@Nat.lt_succ_of_lt
abbrev cb:=@wpAny_callSpecial?_slot
abbrev ce:=@wpAny_rule
abbrev cf:=@wpAny_execs_nil
abbrev cg:=@wpAny_Expr
abbrev ch:=@Bool.or_eq_true
abbrev ci:=@List.reverse_append
abbrev cj:=@Heap.SameBut.update
abbrev ck:=@List.getElem?_range
abbrev cm:=@Nat.ne_of_gt
abbrev cp:=@List.flatMap_singleton
abbrev cq:=@Nat.lt_irrefl
abbrev cr:=@wpAny_standAt
abbrev ct:=@Bool.and_true
abbrev cu:=@KeyOrd.kle_trans
abbrev cv:=@Option.bind_some
abbrev cw:=@Array.toList_setIfInBounds
abbrev cx:=@Nat.eq_zero_or_pos
abbrev cy:=@List.getElem?_eq_none
abbrev dA:=@List.drop_eq_getElem_cons
abbrev dB:=@List.extract_eq_take_drop
abbrev dC:=@List.getElem?_append_left
abbrev dE:=@PySem.F.entry_extend_loop
abbrev dF:=@List.of_mem_zip
abbrev dG:=@List.range_succ
abbrev dH:=@wpAny_updateSeq
abbrev dI:=@Bool.not_eq_true'
abbrev dJ:=@List.mem_of_mem_drop
abbrev dK:=@Around.under_plainId
abbrev dL:=@Bool.not_true
abbrev dM:=@PySem.F.slot_list_append
abbrev dN:=@PySem.F.type_list_append
abbrev dO:=@Heap.get?_update_ne
abbrev dP:=@Nat.add_le_add_left
abbrev dQ:=@List.map_eq_flatMap
abbrev dR:=@List.pairwise_singleton
abbrev dS:=@List.drop_drop
abbrev dT:=@List.drop_zero
abbrev dU:=@Nat.lt_succ_self
abbrev dW:=@List.not_mem_nil
abbrev dX:=@List.drop_append_of_le_length
abbrev dY:=@List.eq_nil_of_length_eq_zero
abbrev dZ:=@PyProof.noPylong_small
abbrev dc:=@Array.size_push
abbrev de:=@decide_eq_false
abbrev dg:=@List.forIn_cons
abbrev dh:=@List.length_zip
abbrev di:=@List.length_filter_le
abbrev dj:=@Bool.and_eq_false_iff
abbrev dk:=@List.length_replicate
abbrev dm:=@Option.some.injEq
abbrev dn:=@wpAny_newObj_type
abbrev dp:=@List.flatMap_cons
abbrev dq:=@List.foldl_append
abbrev du:=@Array.toList_extract
abbrev dv:=@List.reverse_reverse
abbrev dw:=@Heap.size_push
abbrev dz:=@Nat.not_succ_le_self
abbrev d4:=@Int.zero_add
abbrev d5:=@Int.add_zero
abbrev d6:=@Nat.min_eq_right
abbrev d7:=@Nat.zero_add
abbrev d8:=@List.take_length
abbrev d9:=@List.flatMap_map
abbrev eA:=@Classical.byContradiction
abbrev eB:=@Array.getElem?_eq_getElem
abbrev eC:=@PySem.callWith_type
abbrev eD:=@plainId_quiet
abbrev eE:=@List.map_drop
abbrev eF:=@List.map_take
abbrev eG:=@List.foldl_cons
abbrev eH:=@codeAny_builtin
abbrev eI:=@List.zip_cons_cons
abbrev eJ:=@wpAny_BinOp
abbrev eK:=@Nat.lt_add_of_pos_right
abbrev eL:=@wpAny_field
abbrev eM:=@List.getElem?_cons_zero
abbrev eN:=@Nat.le_total
abbrev eO:=@Int.sub_self
abbrev eP:=@List.getElem_take
abbrev eQ:=@Nat.zero_max
abbrev eR:=@wpAny_Return_some
abbrev eS:=@Nat.add_zero
abbrev eT:=@looks_findIn
abbrev eU:=@Looks.ld
abbrev eV:=@bne_self_eq_false
abbrev eW:=@wpAny_seqItems
abbrev eX:=@Nat.lt_succ_of_le
abbrev eY:=@Nat.eq_of_beq_eq_true
abbrev eZ:=@wpS_modify
abbrev ea:=@beq_iff_eq
abbrev ef:=@wpAny_Assign_two
abbrev eh:=@wpAny_isInstance
abbrev ej:=@wpAny_attempt
abbrev ek:=@Looks.of_pure
abbrev el:=@Array.toList_reverse
abbrev er:=@wpAny_of_eq
abbrev et:=@codeAny_call_builtin
abbrev eu:=@List.nodup_cons
abbrev ew:=@Nat.not_lt_zero
abbrev ez:=@Nat.le_add_left
abbrev fA:=@wpS_get
abbrev fB:=@List.take_take
abbrev fF:=@wpAny_assign_Tuple
abbrev fG:=@Obj.putName_eq
abbrev fH:=@intKind_is
abbrev fJ:=@wpAny_tupleItemsOf
abbrev fK:=@List.mem_range
abbrev fL:=@List.getElem_idxOf
abbrev fM:=@Int.le_refl
abbrev fO:=@if_true
abbrev fP:=@List.reverse_perm
abbrev fQ:=@List.take_sublist
abbrev fR:=@sizeLine_eq
abbrev fS:=@List.ext_getElem?
abbrev fT:=@Bool.and_self
abbrev fU:=@wpS_lift
abbrev fV:=@List.cons_append
abbrev fW:=@entryFor_of_tree
abbrev fX:=@Heap.size_update
abbrev fY:=@pairsOf_size
abbrev fa:=@Nat.le_succ
def aR:Lean.Syntax:=Lean.Unhygienic.run `(Lean.Parser.Tactic.tacticSeq|rfl)
def aD:Lean.Syntax:=Lean.Unhygienic.run `(Lean.Parser.Tactic.tacticSeq|decide)
def aW:Lean.Syntax:=Lean.Unhygienic.run `(Lean.Parser.Tactic.tacticSeq|with_unfolding_all rfl)
def aI:Lean.Syntax:=Lean.Unhygienic.run `(Lean.Parser.Tactic.tacticSeq|intro _;rfl)
def aJ:Lean.Syntax:=Lean.Unhygienic.run `(Lean.Parser.Tactic.tacticSeq|intro _ _;with_unfolding_all rfl)
inductive Lx|v (i:Nat)|l (k:Nat)|a (x y:Lx)|m (k:Nat) (x:Lx)|r (k:Nat) (x:Lx)|c (x:Lx)|s (x y:Lx)|n (x:Lx)
inductive Lp|le (z:Bool) (x y:Lx)|lt (z:Bool) (x y:Lx)|eq (z:Bool) (x y:Lx)|no (f:Lp)|an (f g:Lp)|or (f g:Lp)|im (f g:Lp)|ff
inductive Lf|mk (k:Int) (n z:List Int)
inductive Lq|mk (t:List (Nat×Lx×Lx)) (h:List Lp) (g:Lp) (ms:List (List Int))
noncomputable abbrev Ld:=List (List (Bool×Lf))
noncomputable section
noncomputable abbrev mn{α:Type}(d:α)(l:List α):Nat->α:=List.rec (fun _=>d) (fun x _ ih i=>Nat.rec x (fun j _=>ih j) i) l
noncomputable abbrev B3{α:Type}(p:α->Bool)(l:List α):Bool:=List.rec true (fun x _ ih=>p x&&ih) l
section
variable(cn:List Nat)(cz:List Int)
noncomputable abbrev Lx.N(e:Lx):Nat:=Lx.rec (fun i=>mn 0 cn i) (fun k=>k) (fun _ _ a b=>a+b) (fun k _ a=>k*a) (fun k _ a=>a*k) (fun _ _=>0) (fun _ _ _ _=>0) (fun _ _=>0) e
noncomputable abbrev Lx.Z(e:Lx):Int:=Lx.rec (fun i=>mn 0 cz i) (fun k=>(k:Int)) (fun _ _ a b=>a+b) (fun k _ a=>(k:Int)*a) (fun k _ a=>a*(k:Int)) (fun x _=>(x.N cn:Int)) (fun _ _ a b=>a-b) (fun _ a=>-a) e
abbrev Lp.den(f:Lp):Prop:=Lp.rec (fun z x y=>Bool.rec (x.N cn<=y.N cn) (x.Z cn cz<=y.Z cn cz) z) (fun z x y=>Bool.rec (x.N cn<y.N cn) (x.Z cn cz<y.Z cn cz) z) (fun z x y=>Bool.rec (x.N cn=y.N cn) (x.Z cn cz=y.Z cn cz) z) (fun _ p=>¬p) (fun _ _ p q=>p/\q) (fun _ _ p q=>p\/q) (fun _ _ p q=>p->q) False f
abbrev CV(g:Prop)(hs:List Lp):Prop:=List.rec g (fun h _ p=>h.den cn cz->p) hs
end
noncomputable abbrev Cp(cn:List Nat)(cz:List Int)(t:Nat×Lx×Lx):Nat:=mn 0 [t.2.1.N cn-t.2.2.N cn,t.2.1.N cn-t.2.2.N cn,t.2.1.N cn/t.2.2.N cn,min (t.2.1.N cn) (t.2.2.N cn),max (t.2.1.N cn) (t.2.2.N cn),(t.2.1.Z cn cz).toNat] t.1
noncomputable abbrev u7(cz:List Int)(ts:List (Nat×Lx×Lx)):List Nat->List Nat:=List.rec (fun cn=>cn) (fun t _ ih cn=>ih (cn++[Cp cn cz t])) ts
abbrev Lq.den(cn:List Nat)(cz:List Int)(q:Lq):Prop:=Lq.rec (fun t h g _=>CV (u7 cz t cn) cz (g.den (u7 cz t cn) cz) h) q
noncomputable def rJ(a:List Int):List Int->List Int:=List.rec (fun b=>b) (fun x a ih b=>List.rec (x::a) (fun y b _=>(x+y)::ih b) b) a
noncomputable def Lf.add(p q:Lf):Lf:=Lf.rec (fun k n z=>Lf.rec (fun k' n' z'=>.mk (k+k') (rJ n n') (rJ z z')) q) p
noncomputable def Lf.mul(m:Int)(p:Lf):Lf:=Lf.rec (fun k n z=>.mk (m*k) (n.map (m*·)) (z.map (m*·))) p
noncomputable def Lf.sub(p q:Lf):Lf:=p.add (q.mul (-1))
noncomputable def Lf.up(p:Lf):Lf:=p.add (.mk (-1) [] [])
noncomputable def FQ(i:Nat):List Int:=Nat.rec [1] (fun _ ih=>0::ih) i
noncomputable def Lx.fN(e:Lx):Lf:=Lx.rec (fun i=>.mk 0 (FQ i) []) (fun k=>.mk k [] []) (fun _ _ a b=>a.add b) (fun k _ a=>a.mul k) (fun k _ a=>a.mul k) (fun _ _=>.mk 0 [] []) (fun _ _ _ _=>.mk 0 [] []) (fun _ _=>.mk 0 [] []) e
noncomputable def Lx.fZ(e:Lx):Lf:=Lx.rec (fun i=>.mk 0 [] (FQ i)) (fun k=>.mk k [] []) (fun _ _ a b=>a.add b) (fun k _ a=>a.mul k) (fun k _ a=>a.mul k) (fun x _=>x.fN) (fun _ _ a b=>a.sub b) (fun _ a=>a.mul (-1)) e
noncomputable def wW(A B:Ld):Ld:=A.flatMap fun a=>B.map (a++·)
noncomputable def yD(p:Lf):Ld:=[[(false,p)]]
noncomputable def lz(z:Bool)(x:Lx):Lf:=bif z then x.fZ else x.fN
noncomputable def ld(z:Bool)(x y:Lx):Lf:=(lz z y).sub (lz z x)
noncomputable def Lp.dnf(f:Lp):Bool->Ld:=Lp.rec (fun z x y b=>yD (bif b then ld z x y else(ld z y x).up)) (fun z x y b=>yD (bif b then(ld z x y).up else ld z y x))
 (fun z x y b=>bif b then[[(true,ld z y x)]]else yD (ld z y x).up++yD (ld z x y).up) (fun _ p b=>p (!b)) (fun _ _ p q b=>bif b then wW (p b) (q b)else p b++q b) (fun _ _ p q b=>bif b then p b++q b else wW (p b) (q b)) (fun _ _ p q b=>bif b then p (!b)++q b else wW (p (!b)) (q b)) (fun b=>bif b then[]else[[]]) f
noncomputable def Lp.parts(f:Lp):Bool->List (Lp×Bool):=Lp.rec (fun z x y b=>[(.le z x y,b)]) (fun z x y b=>[(.lt z x y,b)]) (fun z x y b=>[(.eq z x y,b)]) (fun _ p b=>p (!b)) (fun f g p q b=>bif b then p b++q b else[(.an f g,b)])
 (fun f g p q b=>bif b then[(.or f g,b)]else p b++q b) (fun f g p q b=>bif b then[(.im f g,b)]else p (!b)++q b) (fun b=>[(.ff,b)]) f
noncomputable def Lp.cnf(f:Lp)(b:Bool):List Ld:=(f.parts b).map fun p=>p.1.dnf p.2
noncomputable def FY(i:Nat)(t:Nat×Lx×Lx):Ld:=
 let x:=t.2.1.fN;let y:=t.2.2.fN;let v:=(Lx.v i).fN;let z:=t.2.1.fZ
 mn [] [[[(true,v),(false,y.sub x)],[(true,(v.add y).sub x)]],[[(false,x.sub v),(false,(v.add y).sub x)]],Lx.rec (fun _=>[]) (fun k=>[[(false,x.sub (v.mul k)),(false,((v.mul k).add (.mk ((k:Int)-1) [] [])).sub x)]]) (fun _ _ _ _=>[]) (fun _ _ _=>[]) (fun _ _ _=>[]) (fun _ _=>[]) (fun _ _ _ _=>[]) (fun _ _=>[]) t.2.2,[[(true,v.sub x),(false,y.sub x)],[(true,v.sub y),(false,x.sub y)]],[[(true,v.sub x),(false,x.sub y)],[(true,v.sub y),(false,y.sub x)]],[[(true,v.sub z)],[(true,v),(false,z.mul (-1))]]] t.1
noncomputable def Lx.ok(n:Nat)(e:Lx):Bool:=Lx.rec (fun i=>Nat.ble (i+1) n) (fun _=>true) (fun _ _ a b=>a&&b) (fun _ _ a=>a) (fun _ _ a=>a) (fun _ _=>true) (fun _ _ _ _=>true) (fun _ _=>true) e
noncomputable def Lx.okZ(n:Nat)(e:Lx):Bool:=Lx.rec (fun _=>true) (fun _=>true) (fun _ _ a b=>a&&b) (fun _ _ a=>a) (fun _ _ a=>a) (fun x _=>x.ok n) (fun _ _ a b=>a&&b) (fun _ a=>a) e
noncomputable def Lx.lit(e:Lx):Bool:=Lx.rec (fun _=>false) (fun k=>Nat.ble 1 k) (fun _ _ _ _=>false) (fun _ _ _=>false) (fun _ _ _=>false) (fun _ _=>false) (fun _ _ _ _=>false) (fun _ _=>false) e
noncomputable def Cz(n:Nat)(t:Nat×Lx×Lx):Bool:=mn false [t.2.1.ok n&&t.2.2.ok n,t.2.1.ok n&&t.2.2.ok n,t.2.1.ok n&&t.2.2.lit,t.2.1.ok n&&t.2.2.ok n,t.2.1.ok n&&t.2.2.ok n,t.2.1.okZ n] t.1
noncomputable def ph(cs:List (Bool×Lf)):List Int->Lf:=List.rec (fun _=>.mk 0 [] []) (fun c _ ih ms=>List.rec (.mk 0 [] []) (fun m ms _=>bif c.1||decide (0<=m)then(c.2.mul m).add (ih ms)else ih ms) ms) cs
noncomputable def Lf.bad(p:Lf):Bool:=Lf.rec (fun k n z=>decide (k<0)&&(B3 (fun x=>decide (x<=0)) n&&B3 (fun x=>decide (x=0)) z)) p
noncomputable abbrev DQ:=List (Bool×Lf)->List (List Int)->Option (List (List Int))
noncomputable def CP(f:DQ)(acc:List (Bool×Lf))(d:Ld):List (List Int)->Option (List (List Int)):=List.rec some (fun a _ ih ms=>(f (a++acc) ms).bind ih) d
noncomputable def FR(ds:List Ld):DQ:=List.rec (fun acc ms=>List.rec none (fun m ms _=>bif (ph acc m).bad then some ms else none) ms) (fun d _ ih acc ms=>List.rec none (fun m ms _=>List.rec (CP ih acc d ms) (fun _ _ _=>bif (ph acc m).bad then some ms else none) m) ms) ds
noncomputable def A5(ts:List (Nat×Lx×Lx)):Nat->List Ld:=List.rec (fun _=>[]) (fun t _ ih i=>FY i t::ih (i+1)) ts
noncomputable def FS(ts:List (Nat×Lx×Lx)):Nat->Bool:=List.rec (fun _=>true) (fun t _ ih i=>Cz i t&&ih (i+1)) ts
noncomputable def Co(d:Ld):Bool:=List.rec false (fun _ t _=>List.rec true (fun _ _ _=>false) t) d
noncomputable def Fg(ds:List Ld):List (Bool×Lf):=List.rec [] (fun d _ ih=>bif Co d then List.rec ih (fun a _ _=>a++ih) d else ih) ds
noncomputable def FZ(ds:List Ld):List Ld:=List.rec [] (fun d _ ih=>bif Co d then ih else d::ih) ds
noncomputable def Lq.chk(n:Nat)(q:Lq):Bool:=Lq.rec (fun t h g ms=>FS t n&&(FR (FZ (g.cnf false++(A5 t n++h.flatMap (·.cnf true)))) (Fg (g.cnf false++(A5 t n++h.flatMap (·.cnf true)))) ms).isSome) q
noncomputable def kO(a:List Int):List Int->Int:=List.rec (fun _=>0) (fun a _ ih x=>List.rec 0 (fun x xs _=>a*x+ih xs) x) a
theorem t6(a:List Int):∀b x:List Int,kO (rJ a b) x=kO a x+kO b x:=by
 induction a with
 |nil=>exact fun b x=>(d4 _).symm
 |cons a as ih=>intro b x;cases b with|nil=>exact(d5 _).symm|cons b bs=>cases x with|nil=>rfl|cons x xs=>show(a+b)*x+kO (rJ as bs) xs=a*x+kO as xs+(b*x+kO bs xs);rw[ih,Int.add_mul,Int.add_assoc,Int.add_assoc,Int.add_left_comm (b*x)]
theorem uF(m:Int)(a:List Int):∀x:List Int,kO (a.map (m*·)) x=m*kO a x:=by
 induction a with
 |nil=>exact fun x=>(Int.mul_zero m).symm
 |cons a as ih=>intro x;cases x with|nil=>exact(Int.mul_zero m).symm|cons x xs=>show m*a*x+kO (as.map (m*·)) xs=m*(a*x+kO as xs);rw[ih,Int.mul_add,Int.mul_assoc]
theorem wc(i:Nat):∀x:List Int,kO (FQ i) x=mn 0 x i:=by
 induction i with
 |zero=>intro x;cases x with|nil=>rfl|cons x xs=>exact(d5 _).trans (Int.one_mul x)
 |succ i ih=>intro x;cases x with|nil=>rfl|cons x xs=>exact(congrArg (·+_) (Int.zero_mul x)).trans ((d4 _).trans (ih xs))
theorem xM(l:List Nat):∀i,mn 0 (l.map fun x:Nat=>(x:Int)) i=((mn 0 l i:Nat):Int):=by
 induction l with
 |nil=>exact fun _=>rfl
 |cons x xs ih=>intro i;cases i with|zero=>rfl|succ i=>exact ih i
section
variable(cn:List Nat)(cz:List Int)
noncomputable def Lf.val(p:Lf):Int:=Lf.rec (fun k n z=>k+(kO n (cn.map fun x:Nat=>(x:Int))+kO z cz)) p
theorem Lf.val_add(p q:Lf):(p.add q).val cn cz=p.val cn cz+q.val cn cz:=by
 cases p;cases q;show _+(kO (rJ _ _) _+kO (rJ _ _) _)=_+_+(_+_);rw[t6,t6];lia
theorem Lf.val_mul(m:Int)(p:Lf):(p.mul m).val cn cz=m*p.val cn cz:=by
 cases p;show _+(kO (List.map _ _) _+kO (List.map _ _) _)=m*(_+(_+_));rw[uF,uF,Int.mul_add,Int.mul_add]
theorem Lf.val_sub(p q:Lf):(p.sub q).val cn cz=p.val cn cz-q.val cn cz:=by
 rw[Lf.sub,Lf.val_add,Lf.val_mul,Int.neg_one_mul];rfl
theorem Lf.val_up(p:Lf):p.up.val cn cz=p.val cn cz-1:=Lf.val_add cn cz p _
theorem Lx.val_N(e:Lx):(e.fN).val cn cz=(e.N cn:Int):=by
 induction e with
 |v i=>exact(d4 _).trans ((d5 _).trans ((wc i _).trans (xM cn i)))
 |l k=>exact d5 _
 |a x y p q=>exact(Lf.val_add cn cz x.fN y.fN).trans (congr (congrArg HAdd.hAdd p) q)
 |m k x p=>exact(Lf.val_mul cn cz _ x.fN).trans (congrArg _ p)
 |r k x p=>exact(Lf.val_mul cn cz _ x.fN).trans ((congrArg _ p).trans (Int.mul_comm _ _))
 |_=>rfl
theorem Lx.val_Z(e:Lx):(e.fZ).val cn cz=e.Z cn cz:=by
 induction e with
 |v i=>exact(d4 _).trans ((d4 _).trans (wc i _))
 |l k=>exact d5 _
 |a x y p q=>exact(Lf.val_add cn cz x.fZ y.fZ).trans (congr (congrArg HAdd.hAdd p) q)
 |m k x p=>exact(Lf.val_mul cn cz _ x.fZ).trans (congrArg _ p)
 |r k x p=>exact(Lf.val_mul cn cz _ x.fZ).trans ((congrArg _ p).trans (Int.mul_comm _ _))
 |c x=>exact x.val_N cn cz
 |s x y p q=>exact(Lf.val_sub cn cz x.fZ y.fZ).trans (congr (congrArg HSub.hSub p) q)
 |n x p=>exact(Lf.val_mul cn cz _ x.fZ).trans ((congrArg _ p).trans (Int.neg_one_mul _))
noncomputable def lv(z:Bool)(x:Lx):Int:=bif z then x.Z cn cz else(x.N cn:Int)
theorem vN(z:Bool)(x y:Lx):(ld z x y).val cn cz=lv cn cz z y-lv cn cz z x:=
 (Lf.val_sub cn cz _ _).trans (by
  cases z;·exact congr (congrArg HSub.hSub (y.val_N cn cz)) (x.val_N cn cz)
  ·exact congr (congrArg HSub.hSub (y.val_Z cn cz)) (x.val_Z cn cz))
def sr(c:Bool×Lf):Prop:=bif c.1 then c.2.val cn cz=0 else 0<=c.2.val cn cz
def lS(a:List (Bool×Lf)):Prop:=∀c∈a,sr cn cz c
def i0(d:Ld):Prop:=∃a∈d,lS cn cz a
variable{cn cz}
theorem jU{c:Bool×Lf}{a:List (Bool×Lf)}(h:sr cn cz c)(k:lS cn cz a):lS cn cz (c::a):=List.forall_mem_cons.mpr ⟨h,k⟩
theorem jV:lS cn cz []:=fun _ h=>nomatch h
theorem nj{a b:List (Bool×Lf)}(h:lS cn cz a)(k:lS cn cz b):lS cn cz (a++b):=fun c hc=>(aY.mp hc).elim (h c) (k c)
theorem j0{a:List (Bool×Lf)}{d:Ld}(h:lS cn cz a):i0 cn cz (a::d):=⟨a,.head _,h⟩
theorem oz{d e:Ld}(h:i0 cn cz d):i0 cn cz (d++e):=let⟨a,ha,h⟩:=h;⟨a,cE _ ha,h⟩
theorem kQ{d e:Ld}(h:i0 cn cz e):i0 cn cz (d++e):=let⟨a,ha,h⟩:=h;⟨a,bp _ ha,h⟩
theorem sT{d e:Ld}(h:i0 cn cz d)(h':i0 cn cz e):i0 cn cz (wW d e):=
 let⟨a,ha,h⟩:=h;let⟨b,hb,h'⟩:=h'
 ⟨a++b,List.mem_flatMap.mpr ⟨a,ha,List.mem_map.mpr ⟨b,hb,rfl⟩⟩,nj h h'⟩
theorem wB{z:Bool}{x y:Lx}(h:lv cn cz z x<=lv cn cz z y):i0 cn cz (yD (ld z x y)):=j0 (jU (show 0<=(ld z x y).val cn cz from(vN cn cz z x y).symm▸bN h) jV)
theorem o9{z:Bool}{x y:Lx}(h:lv cn cz z x<lv cn cz z y):i0 cn cz (yD (ld z x y).up):=j0 (jU (show 0<=(ld z x y).up.val cn cz by rw[Lf.val_up,vN];lia) jV)
theorem B8{z:Bool}{x y:Lx}(h:lv cn cz z x=lv cn cz z y):i0 cn cz [[(true,ld z y x)]]:=j0 (jU (show(ld z y x).val cn cz=0 from(vN cn cz z y x).trans (Int.sub_eq_zero_of_eq h)) jV)
theorem Fb{z:Bool}{x y:Lx}:(Lp.le z x y).den cn cz↔lv cn cz z x<=lv cn cz z y:=by
 cases z
 ·exact Int.ofNat_le.symm
 ·exact .rfl
theorem Ft{z:Bool}{x y:Lx}:(Lp.lt z x y).den cn cz↔lv cn cz z x<lv cn cz z y:=by
 cases z
 ·exact Int.ofNat_lt.symm
 ·exact .rfl
theorem Fq{z:Bool}{x y:Lx}:(Lp.eq z x y).den cn cz↔lv cn cz z x=lv cn cz z y:=by
 cases z
 ·exact Int.ofNat_inj.symm
 ·exact .rfl
theorem Lp.dnf_ok(f:Lp):(f.den cn cz->i0 cn cz (f.dnf true))/\(¬f.den cn cz->i0 cn cz (f.dnf false)):=by
 induction f with
 |le z x y=>exact⟨fun h=>wB (Fb.mp h),fun h=>o9 (Int.not_le.mp fun k=>h (Fb.mpr k))⟩
 |lt z x y=>exact⟨fun h=>o9 (Ft.mp h),fun h=>wB (Int.not_lt.mp fun k=>h (Ft.mpr k))⟩
 |eq z x y=>exact⟨fun h=>B8 (Fq.mp h),fun h=>(Int.lt_or_gt_of_ne fun k=>h (Fq.mpr k)).elim (fun h=>kQ (o9 h)) fun h=>oz (o9 h)⟩
 |no f p=>exact⟨p.2,fun h=>p.1 (Classical.not_not.mp h)⟩
 |an f g p q=>exact⟨fun h=>sT (p.1 h.1) (q.1 h.2),fun h=>(Classical.not_and_iff_not_or_not.mp h).elim (fun h=>oz (p.2 h)) fun h=>kQ (q.2 h)⟩
 |or f g p q=>exact⟨fun h=>h.elim (fun h=>oz (p.1 h)) fun h=>kQ (q.1 h),fun h=>sT (p.2 fun x=>h (.inl x)) (q.2 fun x=>h (.inr x))⟩
 |im f g p q=>exact⟨fun h=>(Classical.em (f.den cn cz)).elim (fun x=>kQ (q.1 (h x))) fun x=>oz (p.2 x),fun h=>sT (p.1 (eA fun x=>h fun y=>absurd y x)) (q.2 fun x=>h fun _=>x)⟩
 |ff=>exact⟨False.elim,fun _=>j0 jV⟩
def l5(cn:List Nat)(cz:List Int)(p:Lp×Bool):Prop:=bif p.2 then p.1.den cn cz else¬p.1.den cn cz
theorem Lp.parts_ok(f:Lp):∀b,l5 cn cz (f,b)->∀p∈f.parts b,l5 cn cz p:=by
 have one:∀{g:Lp}{b},l5 cn cz (g,b)->∀p∈[(g,b)],l5 cn cz p:=fun h p hp=>(aa.mp hp)▸h
 have two:∀{A B:List (Lp×Bool)},(∀p∈A,l5 cn cz p)->(∀p∈B,l5 cn cz p)->∀p∈A++B,l5 cn cz p:=fun h k p hp=>(aY.mp hp).elim (h p) (k p)
 induction f with
 |no f p=>intro b h;cases b with|false=>exact p true (Classical.not_not.mp h)|true=>exact p false h
 |an f g p q=>intro b h;cases b with|false=>exact one h|true=>exact two (p true h.1) (q true h.2)
 |or f g p q=>intro b h;cases b with|true=>exact one h|false=>exact two (p false fun x=>h (.inl x)) (q false fun x=>h (.inr x))
 |im f g p q=>intro b h;cases b with|true=>exact one h|false=>exact two (p true (eA fun x=>h fun y=>absurd y x)) (q false fun x=>h fun _=>x)
 |_=>exact fun b h=>one h
theorem Lp.cnf_ok(f:Lp)(b:Bool)(h:l5 cn cz (f,b)):∀d∈f.cnf b,i0 cn cz d:=fun d hd=>by
 obtain⟨⟨g,c⟩,hp,rfl⟩:=List.mem_map.mp hd
 have:=f.parts_ok b h _ hp
 cases c with
 |true=>exact g.dnf_ok.1 this
 |false=>exact g.dnf_ok.2 this
theorem AF(a:List (Bool×Lf)):∀ms:List Int,lS cn cz a->0<=(ph a ms).val cn cz:=by
 induction a with
 |nil=>exact fun _ _=>fM 0
 |cons c cs ih=>intro ms h;cases ms with|nil=>exact fM 0|cons m ms=>have h:=List.forall_mem_cons.mp h;have ih:=ih ms h.2;show 0<=(bif c.1||decide (0<=m)then(c.2.mul m).add (ph cs ms)else ph cs ms).val cn cz;cases e:c.1||decide (0<=m)with|false=>exact ih|true=>rw[cond_true,Lf.val_add,Lf.val_mul];refine Int.add_nonneg ?_ ih;have hc:=h.1;rw[sr]at hc;cases k:c.1 with|true=>rw[k]at hc;rw[show c.2.val cn cz=0 from hc,Int.mul_zero];exact fM 0|false=>rw[k]at hc e;exact Int.mul_nonneg (of_decide_eq_true e) hc
theorem yV(n:List Int):∀c:List Nat,B3 (fun x=>decide (x<=0)) n=true->kO n (c.map fun x:Nat=>(x:Int))<=0:=by
 induction n with
 |nil=>exact fun _ _=>fM 0
 |cons a as ih=>intro c h;cases c with|nil=>exact fM 0|cons x xs=>have h:=Bool.and_eq_true_iff.mp h;exact Int.add_nonpos (Int.mul_nonpos_of_nonpos_of_nonneg (of_decide_eq_true h.1) (Int.natCast_nonneg x)) (ih xs h.2)
theorem yq(n:List Int):∀c:List Int,B3 (fun x=>decide (x=0)) n=true->kO n c=0:=by
 induction n with
 |nil=>exact fun _ _=>rfl
 |cons a as ih=>intro c h;cases c with|nil=>rfl|cons x xs=>have h:=Bool.and_eq_true_iff.mp h;show a*x+kO as xs=0;rw[of_decide_eq_true h.1,Int.zero_mul,d4];exact ih xs h.2
theorem Lf.bad_ok(p:Lf)(h:p.bad=true):p.val cn cz<0:=by
 cases p with
 |mk k n z=>have h:=Bool.and_eq_true_iff.mp h;have h':=Bool.and_eq_true_iff.mp h.2;show k+(kO n _+kO z cz)<0;rw[yq z cz h'.2,d5];exact Int.add_neg_of_neg_of_nonpos (of_decide_eq_true h.1) (yV n cn h'.1)
theorem CA{f:DQ}{acc:List (Bool×Lf)}(d:Ld):∀ms:List (List Int),(CP f acc d ms).isSome=true->∀a∈d,∃r,(f (a++acc) r).isSome=true:=by
 induction d with
 |nil=>exact fun _ _ a ha=>nomatch ha
 |cons b d ih=>intro ms h;cases e:f (b++acc) ms with|none=>exact nomatch(congrArg (fun x=>(Option.bind x (CP f acc d)).isSome) e).symm.trans h|some r=>exact List.forall_mem_cons.mpr ⟨⟨ms,by rw[e];rfl⟩,ih r ((congrArg (fun x=>(Option.bind x (CP f acc d)).isSome) e).symm.trans h)⟩
theorem Dm(ds:List Ld):∀(acc:List (Bool×Lf)) (ms:List (List Int)),(FR ds acc ms).isSome=true->(∀d∈ds,i0 cn cz d)->lS cn cz acc->False:=by
 have leaf:∀{acc:List (Bool×Lf)}{m:List Int}{ms:List (List Int)},(bif (ph acc m).bad then some ms else none).isSome=true->lS cn cz acc->False:=fun{acc m ms}h q=>by cases e:(ph acc m).bad with|false=>exact nomatch(congrArg (fun b=>(bif b then some ms else none).isSome) e).symm.trans h|true=>exact absurd (AF acc m q) (Int.not_le.mpr (Lf.bad_ok _ e))
 induction ds with
 |nil=>intro acc ms h _ q;cases ms with|nil=>exact nomatch h|cons m ms=>exact leaf h q
 |cons d ds ih=>intro acc ms h hd q;cases ms with|nil=>exact nomatch h|cons m ms=>cases m with|cons k m=>exact leaf (m:=k::m) h q|nil=>have hd:=List.forall_mem_cons.mp hd;obtain⟨a,ha,qa⟩:=hd.1;obtain⟨r,hr⟩:=CA d ms h a ha;exact ih _ r hr hd.2 (nj qa q)
theorem DX(ds:List Ld):(∀d∈ds,i0 cn cz d)->lS cn cz (Fg ds)/\∀d∈FZ ds,i0 cn cz d:=by
 induction ds with
 |nil=>exact fun _=>⟨jV,fun _ h=>nomatch h⟩
 |cons d ds ih=>intro h;have h:=List.forall_mem_cons.mp h;have ih:=ih h.2;cases d with|nil=>exact⟨ih.1,List.forall_mem_cons.mpr ⟨h.1,ih.2⟩⟩|cons a d=>cases d with|nil=>obtain⟨b,hb,hs⟩:=h.1;rw[aa.mp hb]at hs;exact⟨nj hs ih.1,ih.2⟩|cons b d=>exact⟨ih.1,List.forall_mem_cons.mpr ⟨h.1,ih.2⟩⟩
end
theorem DH(cn:List Nat)(cz:List Int)(i:Nat)(t:Nat×Lx×Lx){n:Nat}(ht:Cz n t=true)(hx:(Lx.v i).N cn=Cp cn cz t):i0 cn cz (FY i t):=by
 obtain⟨k,x,y⟩:=t
 have hv:=(Lx.v i).val_N cn cz
 rw[hx]at hv
 have eq:∀{p:Lf}{z:Int},p.val cn cz=z->z=0->sr cn cz (true,p):=fun a b=>a.trans b
 have le:∀{p:Lf}{z:Int},p.val cn cz=z->0<=z->sr cn cz (false,p):=fun a b=>show 0<=_ from a▸b
 have one:∀{c:Bool×Lf}{d:Ld},sr cn cz c->i0 cn cz ([c]::d):=fun h=>j0 (jU h jV)
 have two:∀{c e:Bool×Lf}{d:Ld},sr cn cz c->sr cn cz e->i0 cn cz ([c,e]::d):=fun h k=>j0 (jU h (jU k jV))
 have sub:∀{p q:Lf}{a b:Int},p.val cn cz=a->q.val cn cz=b->(p.sub q).val cn cz=a-b:=fun h k=>by rw[Lf.val_sub,h,k]
 have add:∀{p q:Lf}{a b:Int},p.val cn cz=a->q.val cn cz=b->(p.add q).val cn cz=a+b:=fun h k=>by rw[Lf.val_add,h,k]
 have vx:=x.val_N cn cz
 have vy:=y.val_N cn cz
 have vz:=x.val_Z cn cz
 match k with
 |0=>
  have hv:((Lx.v i).fN).val cn cz=((x.N cn-y.N cn:Nat):Int):=hv;rcases eN (x.N cn) (y.N cn)with h|h;·exact two (eq hv (by rw[Nat.sub_eq_zero_of_le h];rfl)) (le (sub vy vx) (bN (Int.ofNat_le.mpr h)))
  ·exact kQ (d:=[_]) (one (eq (sub (add hv vy) vx) (by rw[Int.ofNat_sub h,Int.sub_add_cancel,eO])))
 |1=>have hv:((Lx.v i).fN).val cn cz=((x.N cn-y.N cn:Nat):Int):=hv;exact two (le (sub vx hv) (bN (Int.ofNat_le.mpr (Nat.sub_le _ _)))) (le (sub (add hv vy) vx) (bN (Int.ofNat_le.mpr (Nat.sub_le_iff_le_add.mp (aH _)))))
 |2=>have hv:((Lx.v i).fN).val cn cz=((x.N cn/y.N cn:Nat):Int):=hv;cases y with
  |l k=>have hk:1<=k:=Nat.le_of_ble_eq_true (Bool.and_eq_true_iff.mp ht).2;have h1:k*(x.N cn/k)<=x.N cn:=Nat.mul_div_le _ _;have h2:x.N cn<k*(x.N cn/k)+k:=Nat.lt_mul_div_succ (x.N cn) hk;have hm:(((Lx.v i).fN).mul k).val cn cz=((k*(x.N cn/k):Nat):Int):=(Lf.val_mul cn cz _ _).trans (congrArg _ hv);exact two (le (sub vx hm) (bN (Int.ofNat_le.mpr h1))) (le (sub (add hm (show(Lf.mk ((k:Int)-1) [] []).val cn cz=(k:Int)-1 from d5 _)) vx) (by lia))|_=>cases(Bool.and_eq_true_iff.mp ht).2
 |3=>
  have hv:((Lx.v i).fN).val cn cz=((min (x.N cn) (y.N cn):Nat):Int):=hv;rcases eN (x.N cn) (y.N cn)with h|h;·exact two (eq (sub hv vx) (by rw[cN h,eO])) (le (sub vy vx) (bN (Int.ofNat_le.mpr h)))
  ·exact kQ (d:=[_]) (two (eq (sub hv vy) (by rw[d6 h,eO])) (le (sub vx vy) (bN (Int.ofNat_le.mpr h))))
 |4=>
  have hv:((Lx.v i).fN).val cn cz=((max (x.N cn) (y.N cn):Nat):Int):=hv;rcases eN (y.N cn) (x.N cn)with h|h;·exact two (eq (sub hv vx) (by rw[Nat.max_eq_left h,eO])) (le (sub vx vy) (bN (Int.ofNat_le.mpr h)))
  ·exact kQ (d:=[_]) (two (eq (sub hv vy) (by rw[Nat.max_eq_right h,eO])) (le (sub vy vx) (bN (Int.ofNat_le.mpr h))))
 |5=>
  have hv:((Lx.v i).fN).val cn cz=(((x.Z cn cz).toNat:Nat):Int):=hv;rcases Int.le_total 0 (x.Z cn cz)with h|h;·exact one (eq (sub hv vz) (by rw[Int.toNat_of_nonneg h,eO]))
  ·exact kQ (d:=[_]) (two (eq hv (by rw[Int.toNat_of_nonpos h];rfl)) (le ((Lf.val_mul cn cz _ _).trans (congrArg _ vz)) (by lia)))
 |k+6=>cases ht
theorem zO(l w:List Nat):∀i,Nat.ble (i+1) l.length=true->mn 0 (l++w) i=mn 0 l i:=by
 induction l with
 |nil=>exact fun _ h=>nomatch h
 |cons x xs ih=>intro i h;cases i with|zero=>rfl|succ i=>exact ih i h
theorem zH(l w:List Nat)(x:Nat):mn 0 (l++x::w) l.length=x:=by
 induction l with
 |nil=>rfl
 |cons _ _ ih=>exact ih
theorem Lx.N_ext(cn w:List Nat)(e:Lx):e.ok cn.length=true->e.N (cn++w)=e.N cn:=by
 induction e with
 |v i=>exact zO cn w i
 |a x y p q=>intro h;have h:=Bool.and_eq_true_iff.mp h;show x.N (cn++w)+y.N (cn++w)=x.N cn+y.N cn;rw[p h.1,q h.2]
 |m k x p=>exact fun h=>congrArg (k*·) (p h)
 |r k x p=>exact fun h=>congrArg (·*k) (p h)
 |_=>exact fun _=>rfl
theorem xG{α β:Type}(f:α->α->β){a b c d:α}(p:a=c)(q:b=d):f a b=f c d:=p▸q▸rfl
theorem Lx.Z_ext(cn w:List Nat)(cz:List Int)(e:Lx):e.okZ cn.length=true->e.Z (cn++w) cz=e.Z cn cz:=by
 induction e with
 |a x y p q=>intro h;have h:=Bool.and_eq_true_iff.mp h;exact xG HAdd.hAdd (p h.1) (q h.2)
 |s x y p q=>intro h;have h:=Bool.and_eq_true_iff.mp h;exact xG HSub.hSub (p h.1) (q h.2)
 |m k x p=>exact fun h=>congrArg ((k:Int)*·) (p h)
 |r k x p=>exact fun h=>congrArg (·*(k:Int)) (p h)
 |n x p=>exact fun h=>congrArg Int.neg (p h)
 |c x _=>exact fun h=>congrArg _ (x.N_ext cn w h)
 |_=>exact fun _=>rfl
theorem Bm(cn w:List Nat)(cz:List Int)(t:Nat×Lx×Lx)(h:Cz cn.length t=true):Cp (cn++w) cz t=Cp cn cz t:=by
 obtain⟨k,x,y⟩:=t
 have N2:∀{x y:Lx},(x.ok cn.length&&y.ok cn.length)=true->x.N (cn++w)=x.N cn/\y.N (cn++w)=y.N cn:=fun h=>⟨Lx.N_ext _ _ _ (Bool.and_eq_true_iff.mp h).1,Lx.N_ext _ _ _ (Bool.and_eq_true_iff.mp h).2⟩
 match k with
 |0=>exact xG HSub.hSub (N2 h).1 (N2 h).2
 |1=>exact xG HSub.hSub (N2 h).1 (N2 h).2
 |2=>cases y with|l k=>exact congrArg (·/k) (x.N_ext cn w (Bool.and_eq_true_iff.mp h).1)|_=>cases(Bool.and_eq_true_iff.mp h).2
 |3=>exact xG min (N2 h).1 (N2 h).2
 |4=>exact xG max (N2 h).1 (N2 h).2
 |5=>exact congrArg Int.toNat (x.Z_ext cn w cz h)
 |k+6=>cases h
theorem AU(cz:List Int)(ts:List (Nat×Lx×Lx)):∀cn:List Nat,∃l,u7 cz ts cn=cn++l:=by
 induction ts with
 |nil=>exact fun cn=>⟨[],(ar cn).symm⟩
 |cons t ts ih=>intro cn;obtain⟨l,e⟩:=ih (cn++[_]);exact⟨_,e.trans (av _ _ _)⟩
theorem Ba(cz:List Int)(ts:List (Nat×Lx×Lx)):∀cn:List Nat,FS ts cn.length=true->∀d∈A5 ts cn.length,i0 (u7 cz ts cn) cz d:=by
 induction ts with
 |nil=>exact fun _ _ d hd=>nomatch hd
 |cons t ts ih=>
  intro cn h;have h:=Bool.and_eq_true_iff.mp h;have hl:(cn++[Cp cn cz t]).length=cn.length+1:=aP;refine List.forall_mem_cons.mpr ⟨DH _ cz _ t h.1 ?_,?_⟩
  ·obtain⟨l,e⟩:=AU cz ts (cn++[Cp cn cz t]);show mn 0 (u7 cz ts _) _=Cp (u7 cz ts _) cz t;rw[e,av,Bm _ _ _ _ h.1];exact zH _ _ _
  ·have:=ih (cn++[Cp cn cz t]);rw[hl]at this;exact this h.2
theorem BD(cn:List Nat)(cz:List Int)(g:Prop)(hs:List Lp):((∀h∈hs,h.den cn cz)->g)->CV cn cz g hs:=by
 induction hs with
 |nil=>exact fun h=>h fun _ x=>nomatch x
 |cons f hs ih=>exact fun h q=>ih fun k=>h (List.forall_mem_cons.mpr ⟨q,k⟩)
theorem Lq.sound(q:Lq)(cn:List Nat)(cz:List Int)(h:q.chk cn.length=true):q.den cn cz:=by
 cases q with
 |mk t hs g ms=>
  have h:=Bool.and_eq_true_iff.mp h;refine BD _ cz _ hs fun hh=>eA fun hg=>?_;have k:=DX (cn:=u7 cz t cn) (cz:=cz) (g.cnf false++(A5 t cn.length++hs.flatMap (·.cnf true))) fun d hd=>(aY.mp hd).elim (g.cnf_ok false hg d) fun hd=>(aY.mp hd).elim (Ba cz t cn h.1 d) fun hd=>?_;·exact Dm _ _ ms h.2 k.2 k.1
  ·obtain⟨f,hf,hd⟩:=List.mem_flatMap.mp hd;exact f.cnf_ok true (hh f hf) d hd
section
variable{α:Type}
noncomputable abbrev De(n:Nat)(k:Nat->Nat->α):α:=k (n%16) (n/16)
noncomputable abbrev FJ(e n:Nat)(k:Nat->Nat->α):α:=k (n%16^e) (n/16^e)
noncomputable abbrev Fs(f:Nat):Nat->(Lx->Nat->α)->α:=Nat.rec (fun n k=>k (.l 0) n) (fun _ ih n k=>De n fun d n=>bif Nat.ble d 6 then k (.v d) n else
 mn (FJ 2 n fun e n=>ih n fun x n=>k (.r e x) n) [De n fun e n=>k (.v (e+7)) n,De n fun e n=>k (.l (mn 0 [0,1,2,3,4,5,6,7,8,9,10,11,12,13,14,15] e)) n,De n fun e n=>FJ (e+2) n fun d n=>k (.l d) n,ih n fun x n=>ih n fun y n=>k (.a x y) n,FJ 2 n fun e n=>ih n fun x n=>k (.m e x) n,ih n fun x n=>k (.c x) n,ih n fun x n=>ih n fun y n=>k (.s x y) n,ih n fun x n=>k (.n x) n] (d-7)) f
noncomputable abbrev C9(n:Nat)(k:Lx->Lx->Nat->α):α:=Fs 9 n fun x n=>Fs 9 n fun y n=>k x y n
noncomputable abbrev Fo(f:Nat):Nat->(Lp->Nat->α)->(Nat->α)->α:=Nat.rec (fun n k _=>k .ff n) (fun _ ih n k z=>De n fun d n=>
 mn (z n) [C9 n fun x y n=>k (.le false x y) n,C9 n fun x y n=>k (.lt false x y) n,C9 n fun x y n=>k (.eq false x y) n,C9 n fun x y n=>k (.le true x y) n,C9 n fun x y n=>k (.lt true x y) n,C9 n fun x y n=>k (.eq true x y) n,ih n (fun x n=>k (.no x) n) z,ih n (fun x n=>ih n (fun y n=>k (.an x y) n) z) z,ih n (fun x n=>ih n (fun y n=>k (.or x y) n) z) z,k .ff n,ih n (fun x n=>ih n (fun y n=>k (.im x y) n) z) z] d) f
noncomputable abbrev FO(f:Nat):Nat->(List (Nat×Lx×Lx)->Nat->α)->α:=Nat.rec (fun n k=>k [] n) (fun _ ih n k=>De n fun d n=>bif Nat.ble d 5 then C9 n fun x y n=>ih n fun ts n=>k ((d,x,y)::ts) n else k [] n) f
noncomputable abbrev E6(f:Nat):Nat->(List Lp->Nat->α)->α:=Nat.rec (fun n k=>k [] n) (fun _ ih n k=>Fo 9 n (fun t n=>ih n fun ts n=>k (t::ts) n) fun n=>k [] n) f
noncomputable abbrev Fw(f:Nat):Nat->(List Int->Nat->α)->α:=Nat.rec (fun n k=>k [] n) (fun _ ih n k=>De n fun d n=>
 bif Nat.ble d 7 then ih n fun ms n=>k (Int.ofNat d::ms) n else bif Nat.ble d 13 then ih n fun ms n=>k (Int.negSucc (d-8)::ms) n else bif Nat.ble d 14 then ih (n/256) fun ms r=>k (Int.ofNat (n%256)::ms) r else k [] n) f
noncomputable abbrev FH(f:Nat):Nat->(List (List Int)->α)->α:=Nat.rec (fun _ k=>k []) (fun _ ih n k=>bif Nat.beq n 0 then k []else Fw 60 n fun m n=>ih n fun ms=>k (m::ms)) f
end
noncomputable abbrev lW(n:Nat):Lq:=FO 9 n fun t n=>E6 30 n fun h n=>Fo 9 n (fun g n=>FH 70 n fun ms=>.mk t h g ms) fun _=>.mk [] [] .ff []
theorem Lq.snd(cn:List Nat)(cz:List Int)(q:Lq):@Bool.rec (fun _=>Prop) True (q.den cn cz) (q.chk cn.length):=by
 cases e:q.chk cn.length with
 |false=>exact trivial
 |true=>exact Lq.sound _ _ _ e
theorem f5{a:Nat}(n:Nat):@Bool.rec (fun _=>Prop) True ((lW n).den [a] []) ((lW n).chk 1):=Lq.snd [a] [] _
theorem fk{a b:Nat}(n:Nat):@Bool.rec (fun _=>Prop) True ((lW n).den [a,b] []) ((lW n).chk 2):=Lq.snd [a,b] [] _
theorem fu{a b c:Nat}(n:Nat):@Bool.rec (fun _=>Prop) True ((lW n).den [a,b,c] []) ((lW n).chk 3):=Lq.snd [a,b,c] [] _
theorem gK{a b c d:Nat}(n:Nat):@Bool.rec (fun _=>Prop) True ((lW n).den [a,b,c,d] []) ((lW n).chk 4):=Lq.snd [a,b,c,d] [] _
theorem i8{a b c d e:Nat}(n:Nat):@Bool.rec (fun _=>Prop) True ((lW n).den [a,b,c,d,e] []) ((lW n).chk 5):=Lq.snd [a,b,c,d,e] [] _
theorem jr{a b c d e f:Nat}(n:Nat):@Bool.rec (fun _=>Prop) True ((lW n).den [a,b,c,d,e,f] []) ((lW n).chk 6):=Lq.snd [a,b,c,d,e,f] [] _
theorem uH{a b c d e f g:Nat}(n:Nat):@Bool.rec (fun _=>Prop) True ((lW n).den [a,b,c,d,e,f,g] []) ((lW n).chk 7):=Lq.snd [a,b,c,d,e,f,g] [] _
theorem Dx{a b c d e f g h:Nat}(n:Nat):@Bool.rec (fun _=>Prop) True ((lW n).den [a,b,c,d,e,f,g,h] []) ((lW n).chk 8):=Lq.snd [a,b,c,d,e,f,g,h] [] _
theorem iz(cn:List Nat)(cz:List Int)(n:Nat):@Bool.rec (fun _=>Prop) True ((lW n).den cn cz) ((lW n).chk cn.length):=Lq.snd cn cz _
end
theorem qd{p0 p1 p2:Prop}{G:Prop}(h:p0/\p1/\p2)(k:p0->p1->p2->G):G:=k h.1 h.2.1 h.2.2
theorem FA{p0 p1 p2 p3:Prop}{G:Prop}(h:p0/\p1/\p2/\p3)(k:p0->p1->p2->p3->G):G:=k h.1 h.2.1 h.2.2.1 h.2.2.2
theorem Bb{p0 p1 p2 p3 p4:Prop}{G:Prop}(h:p0/\p1/\p2/\p3/\p4)(k:p0->p1->p2->p3->p4->G):G:=k h.1 h.2.1 h.2.2.1 h.2.2.2.1 h.2.2.2.2
theorem Fm{p0 p1 p2 p3 p4 p5:Prop}{G:Prop}(h:p0/\p1/\p2/\p3/\p4/\p5)(k:p0->p1->p2->p3->p4->p5->G):G:=k h.1 h.2.1 h.2.2.1 h.2.2.2.1 h.2.2.2.2.1 h.2.2.2.2.2
theorem Fz{p0 p1 p2 p3 p4 p5 p6:Prop}{G:Prop}(h:p0/\p1/\p2/\p3/\p4/\p5/\p6)(k:p0->p1->p2->p3->p4->p5->p6->G):G:=k h.1 h.2.1 h.2.2.1 h.2.2.2.1 h.2.2.2.2.1 h.2.2.2.2.2.1 h.2.2.2.2.2.2
theorem Fu{p0 p1 p2 p3 p4 p5 p6 p7:Prop}{G:Prop}(h:p0/\p1/\p2/\p3/\p4/\p5/\p6/\p7)(k:p0->p1->p2->p3->p4->p5->p6->p7->G):G:=k h.1 h.2.1 h.2.2.1 h.2.2.2.1 h.2.2.2.2.1 h.2.2.2.2.2.1 h.2.2.2.2.2.2.1 h.2.2.2.2.2.2.2
theorem F6{p0 p1 p2 p3 p4 p5 p6 p7 p8 p9:Prop}{G:Prop}(h:p0/\p1/\p2/\p3/\p4/\p5/\p6/\p7/\p8/\p9)(k:p0->p1->p2->p3->p4->p5->p6->p7->p8->p9->G):G:=k h.1 h.2.1 h.2.2.1 h.2.2.2.1 h.2.2.2.2.1 h.2.2.2.2.2.1 h.2.2.2.2.2.2.1 h.2.2.2.2.2.2.2.1 h.2.2.2.2.2.2.2.2.1 h.2.2.2.2.2.2.2.2.2
theorem gR{α0:Sort _}{p0 p1:α0->Prop}{G:Prop}(h:∃a,p0 a/\p1 a)(k:∀a,p0 a->p1 a->G):G:=h.elim fun a h=>k a h.1 h.2
theorem qe{α0:Sort _}{p0 p1 p2:α0->Prop}{G:Prop}(h:∃a,p0 a/\p1 a/\p2 a)(k:∀a,p0 a->p1 a->p2 a->G):G:=h.elim fun a h=>k a h.1 h.2.1 h.2.2
theorem yQ{α0:Sort _}{p0 p1 p2 p3:α0->Prop}{G:Prop}(h:∃a,p0 a/\p1 a/\p2 a/\p3 a)(k:∀a,p0 a->p1 a->p2 a->p3 a->G):G:=h.elim fun a h=>k a h.1 h.2.1 h.2.2.1 h.2.2.2
theorem yT{α0 α1:Sort _}{p0 p1:α0->α1->Prop}{G:Prop}(h:∃a b,p0 a b/\p1 a b)(k:∀a b,p0 a b->p1 a b->G):G:=h.elim fun a h=>h.elim fun b h=>k a b h.1 h.2
theorem jq{α0 α1:Sort _}{p0 p1 p2:α0->α1->Prop}{G:Prop}(h:∃a b,p0 a b/\p1 a b/\p2 a b)(k:∀a b,p0 a b->p1 a b->p2 a b->G):G:=h.elim fun a h=>h.elim fun b h=>k a b h.1 h.2.1 h.2.2
theorem Fk{α0 α1:Sort _}{p0 p1 p2 p3:α0->α1->Prop}{G:Prop}(h:∃a b,p0 a b/\p1 a b/\p2 a b/\p3 a b)(k:∀a b,p0 a b->p1 a b->p2 a b->p3 a b->G):G:=h.elim fun a h=>h.elim fun b h=>k a b h.1 h.2.1 h.2.2.1 h.2.2.2
theorem Cf{α0 α1 α2:Sort _}{p0 p1:α0->α1->α2->Prop}{G:Prop}(h:∃a b c,p0 a b c/\p1 a b c)(k:∀a b c,p0 a b c->p1 a b c->G):G:=h.elim fun a h=>h.elim fun b h=>h.elim fun c h=>k a b c h.1 h.2
theorem FT{α0 α1 α2:Sort _}{p0 p1 p2:α0->α1->α2->Prop}{G:Prop}(h:∃a b c,p0 a b c/\p1 a b c/\p2 a b c)(k:∀a b c,p0 a b c->p1 a b c->p2 a b c->G):G:=h.elim fun a h=>h.elim fun b h=>h.elim fun c h=>k a b c h.1 h.2.1 h.2.2
theorem qY{α0 α1 α2:Sort _}{p0 p1 p2 p3:α0->α1->α2->Prop}{G:Prop}(h:∃a b c,p0 a b c/\p1 a b c/\p2 a b c/\p3 a b c)(k:∀a b c,p0 a b c->p1 a b c->p2 a b c->p3 a b c->G):G:=h.elim fun a h=>h.elim fun b h=>h.elim fun c h=>k a b c h.1 h.2.1 h.2.2.1 h.2.2.2
theorem FV{α0 α1 α2:Sort _}{p0 p1 p2 p3 p4:α0->α1->α2->Prop}{G:Prop}(h:∃a b c,p0 a b c/\p1 a b c/\p2 a b c/\p3 a b c/\p4 a b c)(k:∀a b c,p0 a b c->p1 a b c->p2 a b c->p3 a b c->p4 a b c->G):G:=h.elim fun a h=>h.elim fun b h=>h.elim fun c h=>k a b c h.1 h.2.1 h.2.2.1 h.2.2.2.1 h.2.2.2.2
theorem FU{α0 α1 α2 α3:Sort _}{p0 p1 p2 p3:α0->α1->α2->α3->Prop}{G:Prop}(h:∃a b c d,p0 a b c d/\p1 a b c d/\p2 a b c d/\p3 a b c d)(k:∀a b c d,p0 a b c d->p1 a b c d->p2 a b c d->p3 a b c d->G):G:=h.elim fun a h=>h.elim fun b h=>h.elim fun c h=>h.elim fun d h=>k a b c d h.1 h.2.1 h.2.2.1 h.2.2.2
theorem Ff{α0 α1 α2 α3 α4:Sort _}{p0 p1:α0->α1->α2->α3->α4->Prop}{G:Prop}(h:∃a b c d e,p0 a b c d e/\p1 a b c d e)(k:∀a b c d e,p0 a b c d e->p1 a b c d e->G):G:=h.elim fun a h=>h.elim fun b h=>h.elim fun c h=>h.elim fun d h=>h.elim fun e h=>k a b c d e h.1 h.2
theorem E9{α0 α1 α2 α3 α4:Sort _}{p0 p1 p2:α0->α1->α2->α3->α4->Prop}{G:Prop}(h:∃a b c d e,p0 a b c d e/\p1 a b c d e/\p2 a b c d e)(k:∀a b c d e,p0 a b c d e->p1 a b c d e->p2 a b c d e->G):G:=h.elim fun a h=>h.elim fun b h=>h.elim fun c h=>h.elim fun d h=>h.elim fun e h=>k a b c d e h.1 h.2.1 h.2.2
theorem Cy{α0 α1 α2 α3 α4:Sort _}{p0 p1 p2 p3 p4:α0->α1->α2->α3->α4->Prop}{G:Prop}(h:∃a b c d e,p0 a b c d e/\p1 a b c d e/\p2 a b c d e/\p3 a b c d e/\p4 a b c d e)(k:∀a b c d e,p0 a b c d e->p1 a b c d e->p2 a b c d e->p3 a b c d e->p4 a b c d e->G):G:=h.elim fun a h=>h.elim fun b h=>h.elim fun c h=>h.elim fun d h=>h.elim fun e h=>k a b c d e h.1 h.2.1 h.2.2.1 h.2.2.2.1 h.2.2.2.2
theorem Dq{α:Type _}{R:α->α->Prop}{f:Nat->α}{x:α}{lo a b i j:Nat}(ha:lo<=a)(hab:a<=b)(hi:lo<=i)(hij:i<j)(hj:j<=b)(rf:R x x)(lo':∀i,lo<=i->i<a->R (f i) x)(hi':∀i,a<=i->i<b->R x (f i))(hs:∀i j,lo<=i->i<=j->j<b->R (f i) (f j)):R (if i=a then x else if a<i/\i<=b then f (i-1)else f i) (if j=a then x else if a<j/\j<=b then f (j-1)else f j):=by
 rcases Nat.lt_trichotomy i a with h|rfl|h
 ·rw[aL (bQ h),aL (fun q=>Nat.lt_asymm h q.1)];rcases Nat.lt_trichotomy j a with g|rfl|g;·rw[aL (bQ g),aL (fun q=>Nat.lt_asymm g q.1)];exact hs _ _ hi (cS hij) (Nat.lt_of_lt_of_le g hab)
  ·rw[aN rfl];exact lo' _ hi h
  ·rw[aL (cm g),aN ⟨g,hj⟩];exact hs _ _ hi (Nat.le_sub_one_of_lt hij) (Nat.lt_of_lt_of_le (Nat.sub_one_lt_of_lt g) hj)
 ·rw[aN rfl,aL (cm hij),aN ⟨hij,hj⟩];exact hi' _ (Nat.le_sub_one_of_lt hij) (Nat.lt_of_lt_of_le (Nat.sub_one_lt_of_lt hij) hj)
 ·have g:=Nat.lt_trans h hij;rw[aL (cm h),aN ⟨h,bA (cS hij) hj⟩,aL (cm g),aN ⟨g,hj⟩];exact hs _ _ (bA ha (Nat.le_sub_one_of_lt h)) (Nat.sub_le_sub_right (cS hij) 1) (Nat.lt_of_lt_of_le (Nat.sub_one_lt_of_lt g) hj)
section
variable{O:KeyOrd}(ky:Keyed->O.α)
noncomputable def kk(xs:Array Keyed)(i:Nat):O.α:=ky (xs.getD i (.none,.none))
def jC(xs:Array Keyed)(lo n:Nat):Prop:=∀i j,lo<=i->i<=j->j<lo+n->O.kle (kk ky xs i) (kk ky xs j)
def x9(xs:Array Keyed)(lo n:Nat):Prop:=∀i j,lo<=i->i<=j->j<lo+n->O.kle (kk ky xs j) (kk ky xs i)
def jh(xs ys:Array Keyed)(lo n:Nat):Prop:=∀i,i<lo\/lo+n<=i->ys[i]?=xs[i]?
theorem jh.refl(xs:Array Keyed)(lo n:Nat):jh xs xs lo n:=fun _ _=>rfl
theorem jh.trans{xs ys zs:Array Keyed}{lo n:Nat}(h:jh xs ys lo n)(g:jh ys zs lo n):jh xs zs lo n:=fun i hi=>(g i hi).trans (h i hi)
variable{ky}
theorem kH{xs ys:Array Keyed}{i j:Nat}(h:xs[i]?=ys[j]?):kk ky xs i=kk ky ys j:=by delta kk;rw[cH,cH,h]
theorem rN{xs:Array Keyed}{src d:Nat}(hs:src<xs.size)(hd:d<=src)(k:Nat):kk ky (bubble xs src d) k=if k=src-d then kk ky xs src else if src-d<k/\k<=src then kk ky xs (k-1)else kk ky xs k:=by
 have e:=getElem?_bubble hs d hd k
 by_cases h1:k=src-d
 ·rw[aN h1]at e|-;exact kH e
 ·rw[aL h1]at e|-;by_cases h2:src-d<k/\k<=src;·rw[aN h2]at e|-;exact kH e
  ·rw[aL h2]at e|-;exact kH e
theorem oD{xs:Array Keyed}{i j:Nat}(hj:j<=xs.size)(k:Nat):kk ky (mirror xs i j ((j-i)/2)) k=if i<=k/\k<j then kk ky xs (i+j-1-k)else kk ky xs k:=by
 have e:=getElem?_mirror_all (i:=i) hj k
 by_cases h1:i<=k/\k<j
 ·rw[aN h1]at e|-;exact kH e
 ·rw[aL h1]at e|-;exact kH e
theorem iS{xs:Array Keyed}{i j:Nat}(hj:j<=xs.size)(heq:∀k,i<=k->k<j->kk ky xs k=kk ky xs (j-1))(k:Nat):kk ky (mirror xs i j ((j-i)/2)) k=kk ky xs k:=by
 rw[oD hj]
 split
 ·rename_i h;obtain⟨h1,h2⟩:=h;rw[heq _ (by exact fu 0xf110101420f101f0311812a1 h2) (by exact fu 0xf1188f101008ff101088f1010008ff241f211100f1301820a0 h1 h2),heq k h1 h2]
 ·rfl
theorem kR{xs:Array Keyed}{i j lo n:Nat}(hj:j<=xs.size)(h1:lo<=i)(h2:j<=lo+n):jh xs (mirror xs i j ((j-i)/2)) lo n:=fun k hk=>by
 rw[getElem?_mirror_all hj,aL (by exact i8 0xf10101f1011f24141076f430a0041830a20100f h1 h2 hk)]
theorem tH{xs:Array Keyed}{src d lo n:Nat}(hs:src<xs.size)(hd:d<=src)(h1:lo<=src-d)(h2:src<lo+n):jh xs (bubble xs src d) lo n:=fun k hk=>by
 rw[getElem?_bubble hs d hd,aL (by exact i8 0xf100181f10011f5426f430a0041830a11500f211 h1 h2 hk),aL (by exact i8 0xf1000101f100011f14045176f430a0041830a11500f211 h1 h2 hk)]
structure SB(a₀:Array Keyed)(κ:SortKind)(st:SortSt):Prop where
 perm:(arrOf st).Perm a₀
 kind:kindOf st=κ
 failed:failedOf st=none
theorem SB.size{a₀:Array Keyed}{κ:SortKind}{st:SortSt}(h:SB a₀ κ st):(arrOf st).size=a₀.size:=h.perm.size_eq
theorem SB.set{a₀:Array Keyed}{κ:SortKind}{st:SortSt}(h:SB a₀ κ st){xs:Array Keyed}(hp:xs.Perm (arrOf st)):SB a₀ κ (setArr st xs):=⟨hp.trans h.perm,h.kind,h.failed⟩
def nh(M:Model)(A:Around)(s:Shared)(ky:Keyed->O.α)(a₀:Array Keyed)(κ:SortKind):Prop:=∀x y,x∈a₀.toList->y∈a₀.toList->∀(Q:Bool->Shared->Prop) (E:Value->Shared->Prop),Q (O.blt (ky x) (ky y)) s->wpAny M A (keyLt' κ x.1 y.1) Q E s
variable{M:Model}{A:Around}{E:Value->Shared->Prop}{s:Shared}{a₀:Array Keyed}{κ:SortKind}
theorem tx{st:SortSt}{x y:Keyed}{Q:Option Bool->SortSt->Prop}(hC:nh M A s ky a₀ κ)(hk:kindOf st=κ)(hx:x∈a₀.toList)(hy:y∈a₀.toList)(h:Q (some (O.blt (ky x) (ky y))) st):wpS M A E s (lt' x y) Q st:=by
 rw[lt'_eq]
 refine aO (fA ?_)
 rw[hk]
 refine aO (fU (ej (hC x y hx hy _ _ ⟨rfl,?_⟩)))
 exact aU h
theorem SB.mem{st:SortSt}(hB:SB a₀ κ st){i:Nat}(hi:i<a₀.size):∃x,(arrOf st)[i]?=some x/\x∈a₀.toList/\kk ky (arrOf st) i=ky x:=by
 have hi':i<(arrOf st).size:=by rw[hB.size];exact hi
 refine⟨(arrOf st)[i],cR _ i hi',(Array.perm_iff_toList_perm.mp hB.perm).mem_iff.mp (by simp),?_⟩
 delta kk
 rw[cH,cR _ i hi']
 rfl
theorem si{st:SortSt}{i j:Nat}{Q:Option Bool->SortSt->Prop}(hC:nh M A s ky a₀ κ)(hB:SB a₀ κ st)(hi:i<a₀.size)(hj:j<a₀.size)(h:Q (some (O.blt (kk ky (arrOf st) i) (kk ky (arrOf st) j))) st):wpS M A E s (ltAt' i j) Q st:=by
 refine qe (hB.mem (ky:=ky) hi) fun x e1 m1 k1=>?_
 refine qe (hB.mem (ky:=ky) hj) fun y e2 m2 k2=>?_
 rw[k1,k2]at h
 rw[ltAt'_eq]
 refine aO (fA ?_)
 show wpS _ _ _ _ (do let x<-elem' (arrOf st) i;let y<-elem' (arrOf st) j;lt' x y) Q st
 rw[elem'_eq,elem'_eq,e1,e2]
 exact aO (aU (aO (aU (tx hC hB.kind m1 m2 h))))
theorem rx{st:SortSt}{i j:Nat}{Q:Unit->SortSt->Prop}(h:Q () (setArr st (mirror (arrOf st) i j ((j-i)/2)))):wpS M A E s (reverseSlice' i j) Q st:=by
 rw[reverseSlice'_eq];exact eZ h
noncomputable def z9(lo a nrem:Nat):StateT SortSt Sem (Option (Option Nat)×Nat):=
 forIn [a:nrem] ((none,a):Option (Option Nat)×Nat) fun _ r=>do let x<-ltAt' (lo+r.2) (lo+r.2-1)match x with|some smaller=>if smaller=true then pure (ForInStep.done (none,r.2))else pure (ForInStep.yield (none,r.2+1))|_=>pure (ForInStep.done (some none,r.2))
noncomputable def tD(lo n nrem:Nat):StateT SortSt Sem (Option Nat):=do
 reverseSlice' lo (lo+n)
 let r<-z9 lo n nrem
 match r.1 with
 |some x=>pure x
 |none=>pure (some r.2)
noncomputable def vj(lo n nrem:Nat):StateT SortSt Sem (Option (Option Nat)×Nat×Nat):=
 forIn [n:nrem] ((none,n,0):Option (Option Nat)×Nat×Nat) fun _ r=>do let x<-ltAt' (lo+r.2.1) (lo+r.2.1-1)match x with
  |some smaller=>
   if smaller=true then if r.2.2>0 then do reverseSlice' (lo+r.2.1-(r.2.2+1)) (lo+r.2.1)pure (ForInStep.yield (none,r.2.1+1,0))else pure (ForInStep.yield (none,r.2.1+1,0))else do
    let x<-ltAt' (lo+r.2.1-1) (lo+r.2.1)match x with
    |some larger=>if larger=true then pure (ForInStep.done (none,r.2.1,r.2.2))else pure (ForInStep.yield (none,r.2.1+1,r.2.2+1))|_=>pure (ForInStep.done (some none,r.2.1,r.2.2))
  |_=>pure (ForInStep.done (some none,r.2.1,r.2.2))
noncomputable def tY(lo n nrem:Nat):StateT SortSt Sem (Option Nat):=do
 liftM (rule "list.sort.descending-run")
 let r<-vj lo (n+1) nrem
 match r.1 with
 |some x=>pure x
 |none=>if r.2.2>0 then do reverseSlice' (lo+r.2.1-(r.2.2+1)) (lo+r.2.1)tD lo r.2.1 nrem else tD lo r.2.1 nrem
theorem pJ(lo nrem:Nat):countRun' lo nrem=(do
  let r<-z9 lo 1 nrem match r.1 with
  |some x=>pure x|none=>
   if(r.2==nrem)=true then pure (some r.2)else if r.2>1 then do
    let x<-ltAt' lo (lo+r.2-1)match x with
    |some rose=>if rose=true then pure (some r.2)else do reverseSlice' lo (lo+r.2)tY lo r.2 nrem|_=>pure none else tY lo r.2 nrem):=by
 rw[countRun'_eq]
 delta tY tD vj z9
 dsimp only
 congr 1
 funext r
 obtain⟨r,n⟩:=r
 have t3:∀{α:Type}{f g:Option (Option Nat)×Nat->StateT SortSt Sem α}(m:StateT SortSt Sem (Option (Option Nat)×Nat)),(∀a b,f (a,b)=g (a,b))->(m>>=f)=(m>>=g):=fun m h=>by congr 1;funext x;obtain⟨a,b⟩:=x;exact h a b
 cases r with
 |some r=>rfl
 |none=>
  dsimp only;split;·rfl
  ·split
   ·congr 1;funext x;cases x with|none=>rfl|some rose=>
     dsimp only;split;·rfl
     ·congr 1;funext _u;congr 1;funext _v;congr 1;funext y;obtain⟨r2,n2,q2⟩:=y;cases r2 with|some r2=>rfl|none=>
       dsimp only;split
       ·congr 1;funext _w;congr 1;funext _z;exact t3 _ fun a b=>by cases a<;>rfl
       ·congr 1;funext _w;exact t3 _ fun a b=>by cases a<;>rfl
   ·congr 1;funext _v;congr 1;funext y;obtain⟨r2,n2,q2⟩:=y;cases r2 with|some r2=>rfl|none=>
     dsimp only;split;·congr 1;funext _w;congr 1;funext _z;exact t3 _ fun a b=>by cases a<;>rfl
     ·congr 1;funext _w;exact t3 _ fun a b=>by cases a<;>rfl
theorem zR{st:SortSt}{lo a nrem:Nat}{Q:Option (Option Nat)×Nat->SortSt->Prop}(hC:nh M A s ky a₀ κ)(hn:lo+nrem<=a₀.size)(ha:1<=a)(han:a<=nrem)(hB:SB a₀ κ st)(hs:jC ky (arrOf st) lo a)(h:∀n,a<=n->n<=nrem->jC ky (arrOf st) lo n->(n=nrem\/O.klt (kk ky (arrOf st) (lo+n)) (kk ky (arrOf st) (lo+n-1)))->Q (none,n) st):wpS M A E s (z9 lo a nrem) Q st:=by
 delta z9
 refine bh (I:=fun x c st'=>st'=st/\c=(none,x)/\jC ky (arrOf st) lo x) ?step ?fin ⟨rfl,rfl,hs⟩
 case fin=>rintro c st' ⟨rfl,rfl,hs'⟩;rw[show max a nrem=nrem by exact fk 0xf101f111ff108f1108ff122f100f104 han]at hs'|-;exact h nrem han (aH _) hs' (.inl rfl)
 case step=>rintro x c st' hax hxn ⟨rfl,rfl,hs'⟩;dsimp only;refine aO (si hC hB (by exact gK 0xf111230a1f131210a0f hn hxn) (by exact gK 0xf11011241f131210a0f1830a1 hn hxn) ?_);cases hl:O.blt (kk ky (arrOf st') (lo+x)) (kk ky (arrOf st') (lo+x-1))with
  |true=>exact aU (h x hax (by exact fk 0xf11100f101f hxn) hs' (.inr hl))|false=>
   refine aU ⟨rfl,rfl,fun i j hi hij hj=>?_⟩;by_cases hjx:j<lo+x;·exact hs' i j hi hij hjx
   ·have hj':j=lo+x:=by exact fu 0xf101f11f21a02f21a016182a1a01f hj hjx
    subst hj';by_cases hi':i=lo+x;·subst hi';exact bF _
    ·exact cu (hs' i (lo+x-1) hi (by exact fu 0xf1011f10001f300f21a02621a00f1821a1 hij hi') (by exact fu 0xf18f11108f12a31f1000180f1812a0 ha hax)) hl
theorem wh{st:SortSt}{lo n nrem:Nat}{Q:Option Nat->SortSt->Prop}(hC:nh M A s ky a₀ κ)(hn:lo+nrem<=a₀.size)(h1:1<=n)(hnn:n<=nrem)(hB:SB a₀ κ st)(hs:x9 ky (arrOf st) lo n)(h:∀m st',SB a₀ κ st'->1<=m->m<=nrem->jC ky (arrOf st') lo m->jh (arrOf st) (arrOf st') lo nrem->pendingOf st'=pendingOf st->gallopOf st'=gallopOf st->Q (some m) st'):wpS M A E s (tD lo n nrem) Q st:=by
 delta tD
 have hsz:lo+n<=(arrOf st).size:=by rw[hB.size];exact gK 0xf111230a0f130210a0f hn hnn
 refine aO (rx ?_)
 have hB':SB a₀ κ (setArr st (mirror (arrOf st) lo (lo+n) ((lo+n-lo)/2))):=hB.set (mirror_perm _ _ _ _)
 refine aO (zR hC hn h1 hnn hB' ?_ fun m hm1 hm2 hsm _=>aU (h m _ hB' (by exact fk 0xf1111180f1000180f h1 hm1) hm2 hsm (kR hsz (aH _) (by exact fu 0xf1112a02a0f100f hnn)) rfl rfl))
 intro i j hi hij hj
 show O.kle (kk ky (mirror (arrOf st) lo (lo+n) ((lo+n-lo)/2)) i) (kk ky (mirror (arrOf st) lo (lo+n) ((lo+n-lo)/2)) j)
 rw[oD hsz,oD hsz,aN (by exact gK 0xf1101f11f30a111007f30a21210100f hi hij hj),aN (by exact gK 0xf1001f111f30a212007f30a21210100f hi hij hj)]
 exact hs _ _ (by exact fu 0xf110101410f21a01f0311821a1a1 hj) (by exact gK 0xf1100018f108f650f100f0411401832a2a1 hij) (by exact fu 0xf10188f11008ff11088f110008ff01a41f2100180f2301801a1a0 h1 hi)
theorem CF{st:SortSt}{lo n nrem:Nat}{Q:Option (Option Nat)×Nat×Nat->SortSt->Prop}(hC:nh M A s ky a₀ κ)(hn:lo+nrem<=a₀.size)(h1:1<=n)(hnn:n<=nrem)(hB:SB a₀ κ st)(hs:x9 ky (arrOf st) lo n)(h:∀m neq st',SB a₀ κ st'->n<=m->m<=nrem->x9 ky (arrOf st') lo m->neq+1<=m->(∀i,lo+m-(neq+1)<=i->i<lo+m->kk ky (arrOf st') i=kk ky (arrOf st') (lo+m-1))->jh (arrOf st) (arrOf st') lo nrem->pendingOf st'=pendingOf st->gallopOf st'=gallopOf st->Q (none,m,neq) st'):wpS M A E s (vj lo n nrem) Q st:=by
 delta vj
 refine bh (I:=fun x c st'=>∃neq,c=(none,x,neq)/\SB a₀ κ st'/\x9 ky (arrOf st') lo x/\neq+1<=x/\(∀i,lo+x-(neq+1)<=i->i<lo+x->kk ky (arrOf st') i=kk ky (arrOf st') (lo+x-1))/\jh (arrOf st) (arrOf st') lo nrem/\pendingOf st'=pendingOf st/\gallopOf st'=gallopOf st) ?step ?fin ⟨0,rfl,hB,hs,by exact f5 0xf1101808a0f0180f h1,fun i h1 h2=>by congr 1;exact fu 0xf11018f108ff100011f1000110ff322f10a21240f1808a10a11810a0 h1 h2,jh.refl _ _ _,rfl,rfl⟩
 case fin=>rintro c st' ⟨neq,rfl,hB',hs',hq,he,hS,hp,hg⟩;rw[show max n nrem=nrem by exact fk 0xf101f111ff108f1108ff122f100f104 hnn]at hs' hq he|-;exact h nrem neq st' hB' hnn (aH _) hs' hq he hS hp hg
 case step=>
  rintro x c st' hax hxn ⟨neq,rfl,hB',hs',hq,he,hS,hp,hg⟩;dsimp only;have hsz:lo+x<(arrOf st').size:=by rw[hB'.size];exact gK 0xf111230a1f131210a0f hn hxn
  refine aO (si hC hB' (by exact gK 0xf111230a1f131210a0f hn hxn) (by exact gK 0xf11011241f131210a0f1830a1 hn hxn) ?_);have ext:∀(st2:SortSt),(∀i,kk ky (arrOf st2) i=kk ky (arrOf st') i)->O.kle (kk ky (arrOf st') (lo+x)) (kk ky (arrOf st') (lo+x-1))->x9 ky (arrOf st2) lo (x+1):=fun st2 hk hle i j hi hij hj=>by
   rw[hk,hk];by_cases hjx:j<lo+x;·exact hs' i j hi hij hjx
   ·have hj':j=lo+x:=by exact fu 0xf101f11f21a02f21a016182a1a01f hj hjx
    subst hj';by_cases hi':i=lo+x;·subst hi';exact bF _
    ·exact cu hle (hs' i (lo+x-1) hi (by exact fu 0xf1011f10001f300f21a02621a00f1821a1 hij hi') (by exact fu 0xf18f1108f12a31f1180a0f1812a0 hq))
  cases hl:O.blt (kk ky (arrOf st') (lo+x)) (kk ky (arrOf st') (lo+x-1))with
  |true=>
   dsimp only;rw[aN rfl];by_cases hneq:neq>0
   ·rw[aN hneq];refine aO (rx (aU ⟨0,rfl,hB'.set (mirror_perm _ _ _ _),?_,by exact f5 0xf1180a1808a0ff,fun i h1 h2=>by congr 1;exact fu 0xf11018f108ff100011f1000110ff322f181a0a21240f1808a181a0a118181a0a0 h1 h2,hS.trans (kR (by exact fu 0xf11210a0f210a1f hsz) (by exact fu 0xf1101320f1180a0f180a12a1 hq) (by exact fu 0xf1112a02a0f101f hxn)),hp,hg⟩));exact ext _ (fun i=>iS (by exact fu 0xf11210a0f210a1f hsz) (fun k h1 h2=>he k h1 h2) i) (b8 hl)
   ·rw[aL hneq];exact aU ⟨0,rfl,hB',ext st' (fun _=>rfl) (b8 hl),by exact f5 0xf1180a1808a0ff,fun i h1 h2=>by congr 1;exact fu 0xf11018f108ff100011f1000110ff322f181a0a21240f1808a181a0a118181a0a0 h1 h2,hS,hp,hg⟩|false=>dsimp only;rw[aL (by simp)];refine aO (si hC hB' (by exact gK 0xf11011241f131210a0f1830a1 hn hxn) (by exact gK 0xf111230a1f131210a0f hn hxn) ?_);cases hl2:O.blt (kk ky (arrOf st') (lo+x-1)) (kk ky (arrOf st') (lo+x))with
   |true=>exact aU (h x neq st' hB' hax (by exact fk 0xf11100f101f hxn) hs' hq he hS hp hg)|false=>
    have heq:kk ky (arrOf st') (lo+x)=kk ky (arrOf st') (lo+x-1):=O.total _ _ hl hl2;refine aU ⟨neq+1,rfl,hB',ext st' (fun _=>rfl) (by rw[heq];exact bF _),by exact fk 0xf11181a18180aa0f1180a0f hq,fun i h1 h2=>?_,hS,hp,hg⟩;rw[show lo+(x+1)-1=lo+x by exact fk 0xf11f110ff18f108ff10a22ff18181a0a0];by_cases hix:i=lo+x;·subst hix;rfl
    ·rw[heq];exact he i (by exact gK 0xf11018f108f340f350f18182aa181a0a1182a10a0 h1) (by exact fu 0xf11f101f21a01f21a026182a1a01f h2 hix)
theorem tw{st:SortSt}{lo n nrem:Nat}{Q:Option Nat->SortSt->Prop}(hC:nh M A s ky a₀ κ)(hn:lo+nrem<=a₀.size)(hnn:n+1<=nrem)(hB:SB a₀ κ st)(hs:x9 ky (arrOf st) lo (n+1))(h:∀m st',SB a₀ κ st'->1<=m->m<=nrem->jC ky (arrOf st') lo m->jh (arrOf st) (arrOf st') lo nrem->pendingOf st'=pendingOf st->gallopOf st'=gallopOf st->Q (some m) st'):wpS M A E s (tY lo n nrem) Q st:=by
 delta tY
 refine aO (fU (ce ⟨rfl,?_⟩))
 refine aO (CF hC hn (by exact f5 0xf1180a180ff) hnn hB hs fun m neq st' hB' hm1 hm2 hs' hq he hS hp hg=>?_)
 dsimp only
 have hsz:lo+m<=(arrOf st').size:=by rw[hB'.size];exact gK 0xf111230a0f130210a0f hn hm2
 by_cases hneq:neq>0
 ·rw[aN hneq];refine aO (rx (wh hC hn (by exact fk 0xf111180f1180a0f hq) hm2 (hB'.set (mirror_perm _ _ _ _)) ?_ fun m' st2 a1 a2 a3 a4 a5 a6 a7=>h m' st2 a1 a2 a3 a4 (hS.trans ((kR hsz (by exact fu 0xf1101320f1180a0f180a12a1 hq) (by exact fu 0xf1112a02a0f100f hm2)).trans a5)) (a6.trans hp) (a7.trans hg)));intro i j hi hij hj;show O.kle (kk ky (mirror (arrOf st') _ _ _) j) (kk ky (mirror (arrOf st') _ _ _) i);rw[iS hsz (fun k h1 h2=>he k h1 h2),iS hsz (fun k h1 h2=>he k h1 h2)];exact hs' i j hi hij hj
 ·rw[aL hneq];exact wh hC hn (by exact fk 0xf111180f1180a0f hm1) hm2 hB' hs' fun m' st2 a1 a2 a3 a4 a5 a6 a7=>h m' st2 a1 a2 a3 a4 (hS.trans a5) (a6.trans hp) (a7.trans hg)
theorem yy{st:SortSt}{lo nrem:Nat}{Q:Option Nat->SortSt->Prop}(hC:nh M A s ky a₀ κ)(hn:lo+nrem<=a₀.size)(h1:1<=nrem)(hB:SB a₀ κ st)(h:∀m st',SB a₀ κ st'->1<=m->m<=nrem->jC ky (arrOf st') lo m->jh (arrOf st) (arrOf st') lo nrem->pendingOf st'=pendingOf st->gallopOf st'=gallopOf st->Q (some m) st'):wpS M A E s (countRun' lo nrem) Q st:=by
 rw[pJ]
 refine aO (zR hC hn (aH 1) h1 hB (fun i j hi hij hj=>by have:i=j:=(by exact fu 0xf1011f101f212f180a21210100f hi hij hj);subst this;exact bF _) fun n hn1 hn2 hsn hor=>?_)
 dsimp only
 by_cases hnn:n=nrem
 ·rw[aN (by simpa using hnn)];exact aU (h n st hB hn1 hn2 hsn (jh.refl _ _ _) rfl rfl)
 ·rw[aL (by simpa using hnn)];have hlt:=hor.resolve_left hnn;by_cases hgt:n>1
  ·rw[aN hgt];refine aO (si hC hB (by exact gK 0xf1111201f3181130210a0f hn hn2 hgt) (by exact gK 0xf1118f100010f241f3181130210a0f1830a0 hn hn2 hgt) ?_);cases hrose:O.blt (kk ky (arrOf st) lo) (kk ky (arrOf st) (lo+n-1))with
   |true=>dsimp only;rw[aN rfl];exact aU (h n st hB hn1 hn2 hsn (jh.refl _ _ _) rfl rfl)|false=>
    dsimp only;rw[aL (by simp)];have hsz:lo+n<=(arrOf st).size:=by rw[hB.size];exact gK 0xf111230a0f130210a0f hn hn2
    have hall:∀k,lo<=k->k<lo+n->kk ky (arrOf st) k=kk ky (arrOf st) (lo+n-1):=by intro k hk1 hk;exact KeyOrd.kle_antisymm (hsn k (lo+n-1) hk1 (by exact fu 0xf1101300f21a01f1821a1 hk) (by exact fk 0xf18f1108f01a21f0181f1801a0 hgt)) (cu hrose (hsn lo k (aH _) hk1 hk))
    refine aO (rx (tw hC hn (by exact fk 0xf11f101f1180a0f1026100f hn2 hnn) (hB.set (mirror_perm _ _ _ _)) ?_ fun m' st2 a1 a2 a3 a4 a5 a6 a7=>h m' st2 a1 a2 a3 a4 ((kR hsz (aH _) (by exact fu 0xf1112a02a0f100f hn2)).trans a5) a6 a7));intro i j hi hij hj;show O.kle (kk ky (mirror (arrOf st) _ _ _) j) (kk ky (mirror (arrOf st) _ _ _) i);rw[iS hsz hall,iS hsz hall];by_cases hjn:j<lo+n;·rw[hall i hi (by exact gK 0xf11132a01f32a11100f hij hjn),hall j (by exact fu 0xf111200f210100f hi hij) hjn];exact bF _
    ·have hj':j=lo+n:=by exact fu 0xf101f11f21a02f21a016182a1a01f hj hjn
     subst hj';by_cases hi':i=lo+n;·subst hi';exact bF _
     ·rw[hall i hi (by exact fu 0xf11f101f21a01f21a02621a00f hij hi')];exact b8 hlt
  ·rw[aL hgt];have hn1':n=1:=by exact f5 0xf11f101f1802f018160180f hn1 hgt
   subst hn1';refine tw hC hn (by exact f5 0xf11f101f01818a0f018260180f h1 hnn) hB ?_ h;intro i j hi hij hj;by_cases hi':i=j;·subst hi';exact bF _
   ·have e1:i=lo:=by exact fu 0xf11f10011f1001ff012f21261818a0a21210100f hi hij hj hi'
    have e2:j=lo+1:=by exact fu 0xf111f1001ff1001f180a22f21261818a0a21210100f hi hij hj hi'
    subst e1 e2;exact b8 hlt
theorem Cr{st:SortSt}{lo n ok:Nat}{Q:Bool->SortSt->Prop}(hC:nh M A s ky a₀ κ)(hn:lo+n<=a₀.size)(hok:ok<=n)(hB:SB a₀ κ st)(hs:jC ky (arrOf st) lo ok)(h:∀st',SB a₀ κ st'->jC ky (arrOf st') lo n->jh (arrOf st) (arrOf st') lo n->pendingOf st'=pendingOf st->gallopOf st'=gallopOf st->Q true st'):wpS M A E s (binarySort' lo n ok) Q st:=by
 rw[binarySort'_eq]
 refine aO (cF (bh (I:=fun k c st'=>c=(none,())/\SB a₀ κ st'/\jC ky (arrOf st') lo (min k n)/\jh (arrOf st) (arrOf st') lo n/\pendingOf st'=pendingOf st/\gallopOf st'=gallopOf st) (Q:=fun c st'=>c=(none,())/\SB a₀ κ st'/\jC ky (arrOf st') lo n/\jh (arrOf st) (arrOf st') lo n/\pendingOf st'=pendingOf st/\gallopOf st'=gallopOf st) ?step ?fin ?init) ?post)
 case post=>rintro c st' ⟨rfl,hB',hs',a1,a2,a3⟩;exact aU (h st' hB' hs' a1 a2 a3)
 case init=>
  refine⟨rfl,hB,fun i j hi hij hj=>?_,jh.refl _ _ _,rfl,rfl⟩;by_cases h1:ok=0
  ·have:i=j:=by exact i8 0xf10110818f10110808ff8000010ff101f212f083260a21210100f4531834 hi hij hj h1
   subst this;exact bF _
  ·exact hs i j hi hij (by exact gK 0xf1f1108181ff1f1108081fff110818f110808ff21a01f0822651a01f3431824 hj h1)
 case fin=>rintro c st' ⟨hc,hB',hs',a⟩;refine⟨hc,hB',?_,a⟩;rwa [show min (max (max ok 1) n) n=n by exact fk 0xf1000001f1000101ff1000001f1001101fff1000001f1000101ff1000001f1001101ffff1000008f1000018ff1000008f1000018fff1000008f1000018ff1000008f1000018ffff142ff1331241804]at hs'
 case step=>
  rintro k c st' hak hkn ⟨rfl,hB',hs',a1,a2,a3⟩;rw[show min k n=k by exact fk 0xf1101f101ff1010f108ff022f101f103 hkn]at hs';have hk:lo+k<a₀.size:=by exact gK 0xf111230a1f131210a0f hn hkn
  refine aO (cF (bh (I:=fun x c st''=>st''=st'/\∃l r,c=(none,l,r)/\l<=r/\r<=k/\r-l<=k-x/\(∀i,i<l->O.kle (kk ky (arrOf st') (lo+i)) (kk ky (arrOf st') (lo+k)))/\(∀i,r<=i->i<k->O.klt (kk ky (arrOf st') (lo+k)) (kk ky (arrOf st') (lo+i)))) (Q:=fun c st''=>st''=st'/\∃l r,c=(none,l,r)/\l<=k/\(∀i,i<l->O.kle (kk ky (arrOf st') (lo+i)) (kk ky (arrOf st') (lo+k)))/\(∀i,l<=i->i<k->O.klt (kk ky (arrOf st') (lo+k)) (kk ky (arrOf st') (lo+i)))) ?istep ?ifin ?iinit) ?ipost);case iinit=>exact⟨rfl,0,k,rfl,by exact f5 0xf10080ff,by exact f5 0xf1000ff,by exact f5 0xf1110ff0801,fun i hi=>by exact(f5 0xf19f0801f hi).elim,fun i h1 h2=>by exact(fk 0xf119f011100f h1 h2).elim⟩
  case ifin=>
   rintro c st'' ⟨rfl,l,r,rfl,hlr,hrk,hm,hlo,hhi⟩;have:l=r:=by exact fu 0xf100101018f1001010008ff1000110ff1001f102f530210100f4202084011 hlr hrk hm
   subst this;exact⟨rfl,l,l,rfl,hrk,hlo,hhi⟩
  case istep=>
   rintro x c st'' _ hxk ⟨rfl,l,r,rfl,hlr,hrk,hm,hlo,hhi⟩;dsimp only;by_cases hge:l>=r
   ·rw[aN hge];have:l=r:=by exact fk 0xf101f11f102f010100f hlr hge
    subst this;exact aU ⟨rfl,l,l,rfl,hrk,hlo,hhi⟩
   ·rw[aL hge];refine aO (si hC hB' hk (by exact i8 0xf122012250a1f4306130210a1f2834a2 hk hrk hge) ?_);cases hless:O.blt (kk ky (arrOf st'') (lo+k)) (kk ky (arrOf st'') (lo+(l+r)/2))with
    |true=>simp only[fO];refine aU ⟨rfl,l,(l+r)/2,rfl,by exact fk 0xf1102210f1006f2801a2 hge,by exact fu 0xf12012130f2006100f2802a2 hrk hge,by exact gK 0xf1101001298f11000012908ff108f650f17070f320101183a211402801a2 hm,hlo,fun i h1 h2=>?_⟩;exact KeyOrd.klt_of_klt_of_kle hless (hs' _ _ (by exact fu 0xf130a00ff2821a2) (by exact gK 0xf100123a43a0f240f2810a2 h1) (by exact fu 0xf1112a02a1f101f h2))|false=>simp only[ae,bZ];refine aU ⟨rfl,(l+r)/2+1,r,rfl,by exact fk 0xf10120182a0f1006f2801a2 hge,by exact fk 0xf11100f100f hrk,by exact gK 0xf1101010298f11000102908ff108f650f17070f320101183a21184a002801a2 hm,fun i h1=>?_,hhi⟩;exact cu (hs' (lo+i) (lo+(l+r)/2) (by exact fk 0xf110a00ff) (by exact gK 0xf100143a03a0f184a01f2821a2 h1) (by exact gK 0xf1201213a43a1f2006100f2802a2 hrk hge)) hless
  case ipost=>
   rintro c st'' ⟨rfl,l,r,rfl,hlk,hlo,hhi⟩;show wpS _ _ _ _ (do moveDown' (lo+k) (lo+l);pure (ForInStep.yield (none,()))) _ _;rw[moveDown'_eq];have hks:lo+k<(arrOf st'').size:=by rw[hB'.size];exact hk
   have ed:lo+k-(lo+l)=k-l:=by exact fu 0xf118f1008ff1108f10008fff181f1810ff108ff432ff21020a10a0
   rw[ed];refine aO (eZ (aU ⟨rfl,hB'.set (bubble_perm _ _ _),?_,a1.trans (tH hks (by exact fu 0xf1102a30ff101) (by exact fu 0xf10011400ff310a1211) (by exact fu 0xf1112a02a1f101f hkn)),a2,a3⟩));rw[show min (k+1) n=k+1 by exact fk 0xf1101f101ff118f108ff180a22f101f1180a3 hkn];intro i j hi hij hj;show O.kle (kk ky (bubble (arrOf st'') (lo+k) (k-l)) i) (kk ky (bubble (arrOf st'') (lo+k) (k-l)) j);rw[rN hks (by exact fu 0xf1102a30ff101),rN hks (by exact fu 0xf1102a30ff101),show lo+k-(k-l)=lo+l by exact fu 0xf1000118f11001108ff10001108f110011008fff1018f108ff02a42f352100f02a12a0312a0011 hlk ed];have lo':∀i,lo<=i->i<lo+l->O.kle (kk ky (arrOf st'') i) (kk ky (arrOf st'') (lo+k)):=fun i h1 h2=>by have:=hlo (i-lo) (by exact fu 0xf1018f11108f231f20a11100f010 h1 h2);rwa [show lo+(i-lo)=i by exact fk 0xf11f110ff18f1108ff120a2f100f010 h1]at this
   have hi':∀i,lo+l<=i->i<lo+k->O.klt (kk ky (arrOf st'') (lo+k)) (kk ky (arrOf st'') i):=fun i h1 h2=>by have:=hhi (i-lo) (by exact fu 0xf1101310f210a0f021 h1) (by exact gK 0xf1018f11108f341f30a21210a0f020 h1 h2);rwa [show lo+(i-lo)=i by exact fu 0xf11f110ff18f1108ff230a2f210a0f020 h1]at this
   rcases Nat.eq_or_lt_of_le hij with rfl|hij;·exact bF _
   exact Dq (R:=O.kle) (f:=kk ky (arrOf st'')) (cQ lo l) (dP hlk lo) hi hij (Nat.le_of_lt_succ hj) (bF _) lo' (fun i h1 h2=>b8 (hi' i h1 h2)) hs'
end
noncomputable def ic:Bool->Keyed->Array Keyed->Nat->Nat->Nat->StateT SortSt Sem (Option Nat):=sortPriv%PySem.Builtin.gallop
noncomputable def yS(left:Bool)(key:Keyed)(arr:Array Keyed)(base i:Nat):StateT SortSt Sem (Option Bool):=do
 let x<-elem' arr (base+i)
 if left then lt' x key else return(<-lt' key x).map (!·)
noncomputable def Da(left:Bool)(key:Keyed)(arr:Array Keyed)(base n hint:Nat):StateT SortSt Sem (Option (Option Nat)×Nat×Nat):=
 forIn [0:n] ((none,0,1):Option (Option Nat)×Nat×Nat) fun _ r=>if r.2.2>=n-hint then pure (.done (none,r.2.1,r.2.2))else do let x<-yS left key arr base (hint+r.2.2)match x with|some more=>if(!more)=true then pure (.done (none,r.2.1,r.2.2))else pure (.yield (none,r.2.2,2*r.2.2+1))|_=>pure (.done (some none,r.2.1,r.2.2))
noncomputable def Dd(left:Bool)(key:Keyed)(arr:Array Keyed)(base n hint:Nat):StateT SortSt Sem (Option (Option Nat)×Nat×Nat):=
 forIn [0:n] ((none,0,1):Option (Option Nat)×Nat×Nat) fun _ r=>if r.2.2>=hint+1 then pure (.done (none,r.2.1,r.2.2))else do let x<-yS left key arr base (hint-r.2.2)match x with|some found=>if found=true then pure (.done (none,r.2.1,r.2.2))else pure (.yield (none,r.2.2,2*r.2.2+1))|_=>pure (.done (some none,r.2.1,r.2.2))
noncomputable def zk(left:Bool)(key:Keyed)(arr:Array Keyed)(base n lo hi:Nat):StateT SortSt Sem (Option Nat):=do
 let r<-forIn [0:n] ((none,lo,hi):Option (Option Nat)×Nat×Nat) fun _ r=>if r.2.1>=r.2.2 then pure (.done (none,r.2.1,r.2.2))else do let x<-yS left key arr base (r.2.1+(r.2.2-r.2.1)/2)match x with|some more=>if more=true then pure (.yield (none,r.2.1+(r.2.2-r.2.1)/2+1,r.2.2))else pure (.yield (none,r.2.1,r.2.1+(r.2.2-r.2.1)/2))|_=>pure (.done (some none,r.2.1,r.2.2))
 match r.1 with
 |some x=>pure x
 |none=>pure (some r.2.2)
theorem ul(left:Bool)(key:Keyed)(arr:Array Keyed)(base n hint:Nat):ic left key arr base n hint=(do
 let mut lastofs:=0
 let mut ofs:=1
 let mut lo:=0
 let mut hi:=0
 let some right<-yS left key arr base hint|return none
 if right then
  let maxofs:=n-hint
  for _ in[0:n]do
   if ofs>=maxofs then break
   let some more<-yS left key arr base (hint+ofs)|return none
   if !more then break
   lastofs:=ofs
   ofs:=2*ofs+1
  lo:=hint+lastofs+1
  hi:=hint+min ofs maxofs
 else
  let maxofs:=hint+1
  for _ in[0:n]do
   if ofs>=maxofs then break
   let some found<-yS left key arr base (hint-ofs)|return none
   if found then break
   lastofs:=ofs
   ofs:=2*ofs+1
  lo:=hint+1-min ofs maxofs
  hi:=hint-lastofs
 for _ in[0:n]do
  if lo>=hi then break
  let m:=lo+(hi-lo)/2
  let some more<-yS left key arr base m|return none
  if more then lo:=m+1 else hi:=m
 return some hi):=rfl
noncomputable def yt(left:Bool)(key:Keyed)(arr:Array Keyed)(base n hint:Nat):StateT SortSt Sem (Option Nat):=do
 let r<-Da left key arr base n hint
 match r.1 with
 |some x=>pure x
 |none=>zk left key arr base n (hint+r.2.1+1) (hint+min r.2.2 (n-hint))
noncomputable def yZ(left:Bool)(key:Keyed)(arr:Array Keyed)(base n hint:Nat):StateT SortSt Sem (Option Nat):=do
 let r<-Dd left key arr base n hint
 match r.1 with
 |some x=>pure x
 |none=>zk left key arr base n (hint+1-min r.2.2 (hint+1)) (hint-r.2.1)
theorem sP(left:Bool)(key:Keyed)(arr:Array Keyed)(base n hint:Nat):ic left key arr base n hint=(do
  let x<-yS left key arr base hint match x with
  |some right=>if right=true then yt left key arr base n hint else yZ left key arr base n hint|_=>pure none):=by
 rw[ul]
 delta yt yZ Da Dd zk
 dsimp only
 congr 1;funext x
 cases x with
 |none=>rfl
 |some right=>
  dsimp only;split;·congr 1;funext r;obtain⟨r,a,b⟩:=r;cases r with
   |some r=>rfl|none=>dsimp only;congr 1;funext r;obtain⟨r,a,b⟩:=r;cases r<;>rfl
  ·congr 1;funext r;obtain⟨r,a,b⟩:=r;cases r with|some r=>rfl|none=>dsimp only;congr 1;funext r;obtain⟨r,a,b⟩:=r;cases r<;>rfl
section
variable{O:KeyOrd}{ky:Keyed->O.α}{M:Model}{A:Around}{E:Value->Shared->Prop}{s:Shared}{a₀:Array Keyed}{κ:SortKind}
noncomputable def pb(ky:Keyed->O.α)(left:Bool)(key x:Keyed):Bool:=if left then O.blt (ky x) (ky key)else !O.blt (ky key) (ky x)
theorem C5{st:SortSt}{left:Bool}{key:Keyed}{arr:Array Keyed}{base i:Nat}{x:Keyed}{Q:Option Bool->SortSt->Prop}(hC:nh M A s ky a₀ κ)(hk:kindOf st=κ)(hkey:key∈a₀.toList)(hx:arr[base+i]?=some x)(hx':x∈a₀.toList)(h:Q (some (pb ky left key x)) st):wpS M A E s (yS left key arr base i) Q st:=by
 delta yS
 rw[elem'_eq,hx]
 refine aO (aU ?_)
 delta pb at h
 cases left with
 |true=>exact tx hC hk hx' hkey h
 |false=>exact aO (tx hC hk hkey hx' (aU h))
def Fh(P:Nat->Bool)(n k:Nat):Prop:=k<=n/\(∀i,i<k->P i=true)/\∀i,k<=i->i<n->P i=false
def BN(P:Nat->Bool)(n:Nat):Prop:=∀i j,i<=j->j<n->P j=true->P i=true
theorem BN.up{P:Nat->Bool}{n:Nat}(h:BN P n){i j:Nat}(hij:i<=j)(hj:j<n)(hi:P i=false):P j=false:=by
 cases hp:P j with
 |false=>rfl
 |true=>rw[h i j hij hj hp]at hi;cases hi
theorem vw{st:SortSt}{left:Bool}{key:Keyed}{arr:Array Keyed}{base n lo hi:Nat}{P:Nat->Bool}{Q:Option Nat->SortSt->Prop}(hP:∀i,i<n->∀Q':Option Bool->SortSt->Prop,Q' (some (P i)) st->wpS M A E s (yS left key arr base i) Q' st)(hD:BN P n)(h1:lo<=hi)(h2:hi<=n)(h3:∀i,i<lo->P i=true)(h4:∀i,hi<=i->i<n->P i=false)(h:∀k,Fh P n k->Q (some k) st):wpS M A E s (zk left key arr base n lo hi) Q st:=by
 delta zk
 refine aO (cF (bh (I:=fun x c st'=>st'=st/\∃l r,c=(none,l,r)/\l<=r/\r<=n/\r-l<=n-x/\(∀i,i<l->P i=true)/\∀i,r<=i->i<n->P i=false) (Q:=fun c st'=>st'=st/\∃l r,c=(none,l,r)/\l=r/\r<=n/\(∀i,i<l->P i=true)/\∀i,r<=i->i<n->P i=false) ?step ?fin ⟨rfl,lo,hi,rfl,h1,h2,by exact fu 0xf110011430f100f0811201 h2,h3,h4⟩) ?post)
 case fin=>rintro c st' ⟨rfl,l,r,rfl,a1,a2,a3,a4,a5⟩;exact⟨rfl,l,r,rfl,by exact fu 0xf100101018f1001010008ff1000110ff1001f102f530210100f4202084011 a1 a2 a3,a2,a4,a5⟩
 case step=>
  rintro x c st' _ hxn ⟨rfl,l,r,rfl,a1,a2,a3,a4,a5⟩;dsimp only;by_cases hge:l>=r
  ·rw[aN hge];exact aU ⟨rfl,l,r,rfl,by exact fk 0xf101f11f102f010100f a1 hge,a2,a4,a5⟩
  ·rw[aL hge];have hm:l+(r-l)/2<r:=by exact fk 0xf10128f100010f031a1f1006f2822100 hge
   refine aO (hP _ (by exact fu 0xf1100001142a1f042a1100f2832201 a2 hm) _ ?_);dsimp only;cases hp:P (l+(r-l)/2)with
   |true=>rw[aN rfl];exact aU ⟨rfl,_,r,rfl,by exact fk 0xf10000111830aa0f130a1f2822011 hm,a2,by exact gK 0xf1101020298f10000101808ff108f0760f1740f320183a211851aa002842101 a3,fun i hi=>hD i _ (by exact fu 0xf10000141a00f1841aa01f2832121 hi) (by exact fu 0xf1100001142a1f042a1100f2832201 a2 hm) hp,a5⟩|false=>rw[aL (by decide)];exact aU ⟨rfl,l,_,rfl,by exact fk 0xf130a00ff2822011,by exact fu 0xf1100001142a0f042a1100f2832201 a2 hm,by exact gK 0xf1100100298f10001002908ff108f0760f1740f320183a21151a02842101 a3,a4,fun i hi hin=>hD.up hi hin hp⟩
 case post=>rintro c st' ⟨rfl,l,r,rfl,rfl,a2,a4,a5⟩;exact aU (h l ⟨a2,a4,a5⟩)
theorem yG{st:SortSt}{left:Bool}{key:Keyed}{arr:Array Keyed}{base n hint:Nat}{P:Nat->Bool}{Q:Option Nat->SortSt->Prop}(hP:∀i,i<n->∀Q':Option Bool->SortSt->Prop,Q' (some (P i)) st->wpS M A E s (yS left key arr base i) Q' st)(hD:BN P n)(hh:hint<n)(h:∀k,Fh P n k->Q (some k) st):wpS M A E s (ic left key arr base n hint) Q st:=by
 rw[sP]
 refine aO (hP hint hh _ ?_)
 dsimp only
 cases hp:P hint with
 |true=>
  rw[aN rfl];delta yt Da;refine aO (cF (bh (I:=fun x c st'=>st'=st/\∃l o,c=(none,l,o)/\l<o/\x<o/\hint+l<n/\P (hint+l)=true) (Q:=fun c st'=>st'=st/\∃l o,c=(none,l,o)/\l<o/\hint+l<n/\P (hint+l)=true/\(n-hint<=o\/(hint+o<n/\P (hint+o)=false))) ?step ?fin ⟨rfl,0,1,rfl,by exact iz [] [] 0xf118081ff,by exact iz [] [] 0xf118081ff,by exact fk 0xf111080a1f101f hh,hp⟩) ?post);case fin=>rintro c st' ⟨rfl,l,o,rfl,a1,a2,a3,a4⟩;exact⟨rfl,l,o,rfl,a1,a3,a4,.inl (by exact fu 0xf101101f101110f130f141f0084201 a2)⟩
  case step=>
   rintro x c st' _ hxn ⟨rfl,l,o,rfl,a1,a2,a3,a4⟩;dsimp only;by_cases hge:o>=n-hint
   ·rw[aN hge];exact aU ⟨rfl,l,o,rfl,a1,a3,a4,.inl hge⟩
   ·rw[aL hge];refine aO (hP _ (by exact fu 0xf118f1008f021a1f2306f100 hge) _ ?_);dsimp only;cases hq:P (hint+o)with
    |false=>rw[aN (by decide)];exact aU ⟨rfl,l,o,rfl,a1,a3,a4,.inr ⟨by exact fu 0xf118f1008f021a1f2306f100 hge,hq⟩⟩|true=>rw[aL (by decide)];exact aU ⟨rfl,o,_,rfl,by exact f5 0xf118002ba01ff,by exact fk 0xf2118102ba180a1f101f a2,by exact fu 0xf118f1008f021a1f2306f100 hge,hq⟩
  case post=>
   rintro c st' ⟨rfl,l,o,rfl,a1,a3,a4,a5⟩;dsimp only;refine vw hP hD (by exact gK 0xf1010101f100101f52a1802aa0f302a1101f413231 a1 a3) (by exact fu 0xf1808f1818ff1010f140a0f101f323010 hh) (fun i hi=>hD i (hint+l) (by exact fu 0xf1121a00f1821aa01f hi) (by exact fu 0xf11210a1f210a1f a3) a4) (fun i hi hin=>?_) h;rcases a5 with a5|⟨a5,a6⟩;·exact(gK 0xf111001f1111001f9f140231350a0f413021 hi hin a5).elim
   ·exact hD.up (by exact gK 0xf1110101f100101f310a0f210a1350a0f413021 hi a5) hin a6
 |false=>
  rw[aL (by decide)];delta yZ Dd;refine aO (cF (bh (I:=fun x c st'=>st'=st/\∃l o,c=(none,l,o)/\l<o/\x<o/\l<=hint/\P (hint-l)=false) (Q:=fun c st'=>st'=st/\∃l o,c=(none,l,o)/\l<o/\l<=hint/\P (hint-l)=false/\(hint+1<=o\/(o<=hint/\P (hint-o)=true))) ?step ?fin ⟨rfl,0,1,rfl,by exact iz [] [] 0xf118081ff,by exact iz [] [] 0xf118081ff,by exact f5 0xf10080ff,hp⟩) ?post);case fin=>rintro c st' ⟨rfl,l,o,rfl,a1,a2,a3,a4⟩;exact⟨rfl,l,o,rfl,a1,a3,a4,.inl (by exact fu 0xf11101f11110f2180a0f231101f1084 hh a2)⟩
  case step=>
   rintro x c st' _ hxn ⟨rfl,l,o,rfl,a1,a2,a3,a4⟩;dsimp only;by_cases hge:o>=hint+1
   ·rw[aN hge];exact aU ⟨rfl,l,o,rfl,a1,a3,a4,.inl hge⟩
   ·rw[aL hge];refine aO (hP _ (by exact fu 0xf1011131f101f201 hh) _ ?_);dsimp only;cases hq:P (hint-o)with
    |true=>rw[aN rfl];exact aU ⟨rfl,l,o,rfl,a1,a3,a4,.inr ⟨by exact fk 0xf11010f1180a06f hge,hq⟩⟩|false=>rw[aL (by decide)];exact aU ⟨rfl,o,_,rfl,by exact f5 0xf118002ba01ff,by exact fk 0xf2118102ba180a1f101f a2,by exact fk 0xf11010f1180a06f hge,hq⟩
  case post=>
   rintro c st' ⟨rfl,l,o,rfl,a1,a3,a4,a5⟩;dsimp only;refine vw hP hD (by exact fu 0xf1018f10008ff1101018f10008ff540f101f0213182a0182a13 a1) (by exact fu 0xf1011130f101f201 hh) (fun i hi=>?_) (fun i hi hin=>hD.up (by exact fu 0xf1001230f230f101 hi) hin a4) h;rcases a5 with a5|⟨a5,a6⟩;·exact(fu 0xf1018f10008ff11018f10008ff9f2181a0401f3181a0181a23 hi a5).elim
   ·exact hD i _ (by exact fu 0xf1000010f1101018f10010008ff300f120501f4181a0181a23211 hi a5) (by exact fu 0xf1011131f101f201 hh) a6
end
section
variable{α:Type}{le:α->α->Prop}
structure MI(le:α->α->Prop)(all ra rb out:List α):Prop where
 srt:out.Pairwise le
 perm:(out++(ra++rb)).Perm all
 le:∀x∈out,∀y∈ra++rb,le x y
theorem MI.swap{all ra rb out:List α}(h:MI le all ra rb out):MI le all rb ra out:=
 ⟨h.srt,(List.Perm.append_left _ List.perm_append_comm).trans h.perm,fun x hx y hy=>h.le x hx y (List.perm_append_comm.mem_iff.mp hy)⟩
theorem MI.push{all ra rb out:List α}{x:α}(h:MI le all (x::ra) rb out)(h1:∀y∈ra,le x y)(h2:∀y∈rb,le x y):MI le all ra rb (out++[x])where
 srt:=List.pairwise_append.mpr ⟨h.srt,dR _ _,fun y hy z hz=>by rw[aa.mp hz];exact h.le y hy x (.head _)⟩
 perm:=by rw[av];exact h.perm
 le z hz y hy:=by
  rcases aY.mp hz with hz|hz;·exact h.le z hz y (.tail _ hy)
  ·rw[aa.mp hz];rcases aY.mp hy with hy|hy;·exact h1 y hy
   ·exact h2 y hy
theorem MI.ext{all rb:List α}:∀{xs ra out:List α},MI le all (xs++ra) rb out->(xs++ra).Pairwise le->(∀x∈xs,∀y∈rb,le x y)->MI le all ra rb (out++xs)
 |[],ra,out,h,_,_=>by rw[ar];exact h
 |x::xs,ra,out,h,hs,hl=>by have hs:=List.pairwise_cons.mp hs;have h':=MI.ext (h.push hs.1 (hl x (.head _))) hs.2 fun y hy=>hl y (.tail _ hy);rw[av]at h';exact h'
def sR(le:α->α->Prop)(all xs:List α):Prop:=xs.Pairwise le/\xs.Perm all
theorem MI.done{all ra rb out:List α}(h:MI le all ra rb out)(hs:(ra++rb).Pairwise le):sR le all (out++(ra++rb)):=⟨List.pairwise_append.mpr ⟨h.srt,hs,h.le⟩,h.perm⟩
theorem sR.rev{all xs:List α}(h:sR (fun x y=>le y x) all xs):sR le all xs.reverse:=⟨List.pairwise_reverse.mpr h.1,(fP _).trans h.2⟩
end
section
variable{O:KeyOrd}{ky:Keyed->O.α}{M:Model}{A:Around}{E:Value->Shared->Prop}{s:Shared}{a₀:Array Keyed}{κ:SortKind}
def jw(ky:Keyed->O.α)(x y:Keyed):Prop:=O.kle (ky x) (ky y)
theorem iC{x y z:Keyed}(h:jw ky x y)(g:jw ky y z):jw ky x z:=cu h g
theorem qp{arr:Array Keyed}{base n i:Nat}(hb:base+n<=arr.size)(hi:i<n):∃x,arr[base+i]?=some x/\((arr.toList.drop base).take n)[i]?=some x/\x∈arr.toList:=by
 have h:base+i<arr.size:=by exact gK 0xf111230a1f131210a0f hb hi
 refine⟨arr[base+i],cR arr (base+i) h,?_,by simp⟩
 rw[cC,aN hi,cD,ab,cR arr (base+i) h]
theorem nt{st:SortSt}{left:Bool}{key:Keyed}{arr:Array Keyed}{base n hint:Nat}{L:List Keyed}{Q:Option Nat->SortSt->Prop}(hC:nh M A s ky a₀ κ)(hk:kindOf st=κ)(hkey:key∈a₀.toList)(hmem:∀x∈arr.toList,x∈a₀.toList)(hb:base+n<=arr.size)(hL:(arr.toList.drop base).take n=L)(hs:L.Pairwise (jw ky))(hh:hint<n)(h:∀k,k<=n->(∀x∈L.take k,jw ky x key)->(∀y∈L.drop k,jw ky key y)->Q (some k) st):wpS M A E s (ic left key arr base n hint) Q st:=by
 subst hL
 have hlen:((arr.toList.drop base).take n).length=n:=by rw[bC,bR,aE];exact fu 0xf110101f101ff118f108ff142f210a0f313021 hb
 have get:∀i (hi:i<n),((arr.toList.drop base).take n)[i]?=some (((arr.toList.drop base).take n)[i]'(fu 0xf111021f121102f hlen hi)):=fun i hi=>aK _
 generalize hP:(fun i=>pb ky left key (((arr.toList.drop base).take n).getD i (.none,.none)))=P
 have hPi:∀i x,((arr.toList.drop base).take n)[i]?=some x->P i=pb ky left key x:=fun i x e=>by rw[<-hP];show pb ky left key (List.getD _ i _)=_;rw[a8,e];rfl
 refine yG (P:=P) (fun i hi Q' h'=>?_) (fun i j hij hj hp=>?_) hh fun k hc=>?_
 ·refine qe (qp (arr:=arr) hb hi) fun x e1 e2 e3=>?_;rw[hPi i x e2]at h';exact C5 hC hk hkey e1 (hmem x e3) h'
 ·rw[hPi j _ (get j hj)]at hp;rw[hPi i _ (get i (by exact fu 0xf111201f211100f hij hj))];rcases a9 i j with hlt|hge
  ·have hle:jw ky _ _:=List.pairwise_iff_getElem.mp hs i j (gK 0xf1111031f231121102f hlen hj hlt) (fu 0xf111021f121102f hlen hj) hlt;delta pb at hp|-;cases left with|true=>exact KeyOrd.klt_of_kle_of_klt hle hp|false=>simp only[ae,bZ,dI]at hp|-;exact cu hle hp
  ·obtain rfl:i=j:=by exact fk 0xf101f11f102f010100f hij hge
   exact hp
 ·obtain⟨hk1,hk2,hk3⟩:=hc;refine h k hk1 (fun x hx=>?_) fun y hy=>?_
  ·obtain⟨i,hi,e⟩:=List.getElem_of_mem hx;have hi':i<k:=by rw[bC]at hi;exact fu 0xf1118f1108f101f301f213 hi
   rw[eP]at e;have e':((arr.toList.drop base).take n)[i]?=some x:=by rw[get i (by exact fu 0xf111121f021100f hk1 hi'),e]
   have:=hk2 i hi';rw[hPi i x e']at this;delta pb at this;cases left with
   |true=>exact b8 this|false=>simp only[ae,bZ,dI]at this;exact this
  ·obtain⟨i,hi,e⟩:=List.getElem_of_mem hy;have hi':k+i<n:=by rw[bR,hlen]at hi;exact fu 0xf118f1008f102a1f301f210 hi
   rw[List.getElem_drop]at e;have e':((arr.toList.drop base).take n)[k+i]?=some y:=by rw[get (k+i) hi',e]
   have:=hk3 (k+i) (fk 0xf110a00ff) hi';rw[hPi (k+i) y e']at this;delta pb at this;cases left with|true=>exact this|false=>simp only[ae,bZ,Bool.not_eq_false']at this;exact b8 this
end
noncomputable def gp:Nat->StateT SortSt Sem Unit:=sortPriv%PySem.Builtin.setMinGallop
noncomputable def nH:Array Keyed->Array Keyed->StateT SortSt Sem (Array Keyed):=sortPriv%PySem.Builtin.mergeLo
noncomputable def ko(a b out:Array Keyed)(ia ib:Nat):Array Keyed:=out++a.extract ia a.size++b.extract ib b.size
noncomputable def n7(a b out:Array Keyed)(ia ib:Nat):Array Keyed:=out++b.extract ib b.size++a.extract ia a.size
noncomputable abbrev C1:=Option (Array Keyed)×Array Keyed×Nat×Nat×Nat×Nat
noncomputable abbrev C2:=Option (Array Keyed)×Array Keyed×Nat×Nat×Nat×Nat×Nat
noncomputable abbrev C3:=Option (Array Keyed)×Array Keyed×Nat×Nat×Nat
noncomputable def E5(a b:Array Keyed)(mg:Nat)(out:Array Keyed)(ia ib ac bc:Nat):StateT SortSt Sem (ForInStep C1):=do
 let y<-elem' b ib
 let z<-elem' a ia
 let x<-lt' y z
 match x with
 |some bWins=>if bWins=true then do let y<-elem' b ib if(ib+1==b.size)=true then pure (.done (some (ko a b (out.push y) ia (ib+1)),out.push y,ia,ib+1,0,bc+1))else if bc+1>=mg then pure (.done (none,out.push y,ia,ib+1,0,bc+1))else pure (.yield (none,out.push y,ia,ib+1,0,bc+1))else do let z<-elem' a ia if(ia+1+1==a.size)=true then pure (.done (some (n7 a b (out.push z) (ia+1) ib),out.push z,ia+1,ib,ac+1,0))else if ac+1>=mg then pure (.done (none,out.push z,ia+1,ib,ac+1,0))else pure (.yield (none,out.push z,ia+1,ib,ac+1,0))
 |_=>pure (.done (some (ko a b out ia ib),out,ia,ib,ac,bc))
noncomputable def En(a b out:Array Keyed)(ia ib mg ac bc:Nat):StateT SortSt Sem (ForInStep C2):=do
 let z<-elem' a ia
 if(ia+1+1==a.size)=true then pure (.done (some (n7 a b (out.push z) (ia+1) ib),out.push z,ia+1,ib,mg,ac,bc))
 else if(decide (ac<7)&&decide (bc<7))=true then pure (.done (none,out.push z,ia+1,ib,mg,ac,bc))else pure (.yield (none,out.push z,ia+1,ib,mg,ac,bc))
noncomputable def Eo(a b out:Array Keyed)(ia ib mg ac bc:Nat):StateT SortSt Sem (ForInStep C2):=do
 let y<-elem' b ib
 if(ib+1==b.size)=true then pure (.done (some (ko a b (out.push y) ia (ib+1)),out.push y,ia,ib+1,mg,ac,bc))
 else do let z<-elem' a ia let x<-ic true z b (ib+1) (b.size-(ib+1)) 0 match x with|some k=>if k>0 then if(ib+1+k==b.size)=true then pure (.done (some (ko a b (out.push y++b.extract (ib+1) (ib+1+k)) ia (ib+1+k)),out.push y++b.extract (ib+1) (ib+1+k),ia,ib+1+k,mg,ac,k))else En a b (out.push y++b.extract (ib+1) (ib+1+k)) ia (ib+1+k) mg ac k else En a b (out.push y) ia (ib+1) mg ac k|_=>pure (.done (some (ko a b (out.push y) ia (ib+1)),out.push y,ia,ib+1,mg,ac,bc))
noncomputable def E4(a b out:Array Keyed)(ia ib mg ac bc:Nat):StateT SortSt Sem (ForInStep C2):=do
 gp mg
 let y<-elem' b ib
 let x<-ic false y a ia (a.size-ia) 0
 match x with
 |some k=>if k>0 then if(ia+k+1==a.size)=true then pure (.done (some (n7 a b (out++a.extract ia (ia+k)) (ia+k) ib),out++a.extract ia (ia+k),ia+k,ib,mg,k,bc))else if(ia+k==a.size)=true then pure (.done (some (ko a b (out++a.extract ia (ia+k)) (ia+k) ib),out++a.extract ia (ia+k),ia+k,ib,mg,k,bc))else Eo a b (out++a.extract ia (ia+k)) (ia+k) ib mg k bc else Eo a b out ia ib mg k bc
 |_=>pure (.done (some (ko a b out ia ib),out,ia,ib,mg,ac,bc))
noncomputable def Et(a b:Array Keyed)(c:C3):StateT SortSt Sem (ForInStep C3):=do
 let r<-forIn [0:a.size+b.size] ((none,c.2.1,c.2.2.1,c.2.2.2.1,0,0):C1) fun _ r=>E5 a b c.2.2.2.2 r.2.1 r.2.2.1 r.2.2.2.1 r.2.2.2.2.1 r.2.2.2.2.2
 match r.1 with
 |some x=>pure (.done (some x,r.2.1,r.2.2.1,r.2.2.2.1,c.2.2.2.2))
 |none=>do liftM (rule "list.sort.gallop")let r<-forIn [0:a.size+b.size] ((none,r.2.1,r.2.2.1,r.2.2.2.1,c.2.2.2.2+1,r.2.2.2.2.1,r.2.2.2.2.2):C2) fun _ r=>if r.2.2.2.2.1>1 then E4 a b r.2.1 r.2.2.1 r.2.2.2.1 (r.2.2.2.2.1-1) r.2.2.2.2.2.1 r.2.2.2.2.2.2 else E4 a b r.2.1 r.2.2.1 r.2.2.2.1 r.2.2.2.2.1 r.2.2.2.2.2.1 r.2.2.2.2.2.2 match r.1 with|some x=>pure (.done (some x,r.2.1,r.2.2.1,r.2.2.2.1,r.2.2.2.2.1))|none=>do gp (r.2.2.2.2.1+1)pure (.yield (none,r.2.1,r.2.2.1,r.2.2.2.1,r.2.2.2.2.1+1))
theorem xp{α β:Type}{m:StateT SortSt Sem α}{f g:α->StateT SortSt Sem β}(h:∀x,f x=g x):(m>>=f)=(m>>=g):=congrArg _ (funext h)
theorem tq{α β:Type}{m m':StateT SortSt Sem α}{f g:α->StateT SortSt Sem β}(hm:m=m')(h:∀x,f x=g x):(m>>=f)=(m'>>=g):=by rw[hm];exact xp h
theorem Ep{p:Prop}[Decidable p]{α:Type}{a b c d:α}(h1:a=c)(h2:b=d):(if p then a else b)=(if p then c else d):=by rw[h1,h2]
theorem Ce{β:Type}{n:Nat}{c:β}{f g:Nat->β->StateT SortSt Sem (ForInStep β)}(h:∀i x,f i x=g i x):(forIn [0:n] c f:StateT SortSt Sem β)=forIn [0:n] c g:=by rw[show f=g from funext fun i=>funext fun x=>h i x]
theorem sQ(a b:Array Keyed):nH a b=(do
 rule "list.sort.merge-lo"
 let total:=a.size+b.size
 let done (out:Array Keyed) (ia ib:Nat):=out++a.extract ia a.size++b.extract ib b.size
 let lastOfA (out:Array Keyed) (ia ib:Nat):=out++b.extract ib b.size++a.extract ia a.size
 let mut out:Array Keyed:=#[<-elem' b 0]
 let mut ia:=0
 let mut ib:=1
 if ib==b.size then return done out ia ib
 if ia+1==a.size then return lastOfA out ia ib
 let mut minGallop:=gallopOf (<-get)
 for _ in[0:total]do
  let mut acount:=0 let mut bcount:=0
  for _ in[0:total]do
   let some bWins<-lt' (<-elem' b ib) (<-elem' a ia)|return done out ia ib
   if bWins then
    out:=out.push (<-elem' b ib);ib:=ib+1;bcount:=bcount+1;acount:=0 if ib==b.size then return done out ia ib
    if bcount>=minGallop then break
   else
    out:=out.push (<-elem' a ia);ia:=ia+1;acount:=acount+1;bcount:=0 if ia+1==a.size then return lastOfA out ia ib
    if acount>=minGallop then break
  rule "list.sort.gallop"minGallop:=minGallop+1
  for _ in[0:total]do
   if minGallop>1 then minGallop:=minGallop-1
   gp minGallop
   let some k<-ic false (<-elem' b ib) a ia (a.size-ia) 0|return done out ia ib
   acount:=k if k>0 then
    out:=out++a.extract ia (ia+k);ia:=ia+k if ia+1==a.size then return lastOfA out ia ib
    if ia==a.size then return done out ia ib
   out:=out.push (<-elem' b ib);ib:=ib+1 if ib==b.size then return done out ia ib
   let some k<-ic true (<-elem' a ia) b ib (b.size-ib) 0|return done out ia ib
   bcount:=k if k>0 then out:=out++b.extract ib (ib+k);ib:=ib+k if ib==b.size then return done out ia ib
   out:=out.push (<-elem' a ia);ia:=ia+1 if ia+1==a.size then return lastOfA out ia ib
   if acount<7&&bcount<7 then break
  minGallop:=minGallop+1
  gp minGallop
 unsupported "internal:list.sort.merge-bound"):=rfl
theorem tN(a b:Array Keyed):nH a b=(do
 liftM (rule "list.sort.merge-lo")
 let y<-elem' b 0
 if(1==b.size)=true then pure (ko a b #[y] 0 1)
 else if(0+1==a.size)=true then pure (n7 a b #[y] 0 1)
 else do let st<-get let r<-forIn [0:a.size+b.size] ((none,#[y],0,1,gallopOf st):C3) fun _ c=>Et a b c match r.1 with|some x=>pure x|none=>liftM (unsupported "internal:list.sort.merge-bound":Sem (Array Keyed))):=by
 rw[sQ]
 refine xp fun _u=>xp fun y=>Ep rfl (Ep rfl (xp fun st=>tq (Ce fun _i c=>?_) fun r=>?_))
 ·delta Et;refine tq (Ce fun _i r=>?_) fun r=>?_;·rfl
  ·obtain⟨r,out,ia,ib,ac,bc⟩:=r;cases r with
   |some r=>rfl|none=>
    refine xp fun _w=>tq (Ce fun _i r=>?_) fun r=>?_;·rfl
    ·obtain⟨r,out,ia,ib,mg,ac,bc⟩:=r;cases r<;>rfl
 ·obtain⟨r,out,ia,ib,mg⟩:=r;cases r<;>rfl
section
variable{O:KeyOrd}{ky:Keyed->O.α}{M:Model}{A:Around}{E:Value->Shared->Prop}{s:Shared}{a₀:Array Keyed}{κ:SortKind}
structure GS(st st':SortSt):Prop where
 arr:arrOf st'=arrOf st
 kind:kindOf st'=kindOf st
 pend:pendingOf st'=pendingOf st
 failed:failedOf st'=failedOf st
theorem GS.refl(st:SortSt):GS st st:=⟨rfl,rfl,rfl,rfl⟩
theorem sF{st st':SortSt}{g:Nat}{Q:Unit->SortSt->Prop}(G:GS st st')(h:∀st2,GS st st2->Q () st2):wpS M A E s (gp g) Q st':=by
 show wpS M A E s (modify _) Q st'
 exact eZ (h _ ⟨G.arr,G.kind,G.pend,G.failed⟩)
theorem gx{st:SortSt}{arr:Array Keyed}{i:Nat}{Q:Keyed->SortSt->Prop}(hi:i<arr.size)(h:∀x,arr[i]?=some x->Q x st):wpS M A E s (elem' arr i) Q st:=by
 have e:arr[i]?=some arr[i]:=cR arr i hi
 rw[elem'_eq,e]
 exact aU (h _ e)
theorem jj{arr:Array Keyed}{i:Nat}{x:Keyed}(h:arr[i]?=some x):arr.toList.drop i=x::arr.toList.drop (i+1):=by
 rw[<-ab]at h
 obtain⟨hi,e⟩:=List.getElem?_eq_some_iff.mp h
 rw[dA hi,e]
theorem jd{arr:Array Keyed}{i:Nat}{x:Keyed}(h:arr[i]?=some x):x∈arr.toList:=by
 rw[<-ab]at h
 exact ay h
theorem nG(arr:Array Keyed)(i:Nat):(arr.extract i arr.size).toList=arr.toList.drop i:=by
 rw[du,dB,ao]
 rw[bR,aE];exact aH _
theorem qP(arr:Array Keyed)(i k:Nat):(arr.extract i (i+k)).toList=(arr.toList.drop i).take k:=by
 rw[du,dB,bI]
structure MH(ky:Keyed->O.α)(a₀ a b:Array Keyed):Prop where
 sa:a.toList.Pairwise (jw ky)
 sb:b.toList.Pairwise (jw ky)
 ma:∀x∈a.toList,x∈a₀.toList
 mb:∀x∈b.toList,x∈a₀.toList
 first:∀x,b[0]?=some x->∀y∈a.toList,jw ky x y
 last:∀x,a[a.size-1]?=some x->∀y∈b.toList,jw ky y x
 na:0<a.size
 nb:0<b.size
variable{a b:Array Keyed}
abbrev tg(ky:Keyed->O.α)(a b out:Array Keyed)(ia ib:Nat):Prop:=MI (jw ky) (a.toList++b.toList) (a.toList.drop ia) (b.toList.drop ib) out.toList
abbrev ls(ky:Keyed->O.α)(a b r:Array Keyed):Prop:=sR (jw ky) (a.toList++b.toList) r.toList
theorem mA(H:MH ky a₀ a b){out:Array Keyed}{ia ib:Nat}(h:tg ky a b out ia ib)(he:b.size<=ib\/a.size<=ia):ls ky a b (ko a b out ia ib):=by
 have:=h.done (by
  rcases he with he|he;·rw[b0 (l:=b.toList) (by rw[aE];exact he),ar];exact H.sa.sublist (bf _ _)
  ·rw[b0 (l:=a.toList) (by rw[aE];exact he),cA];exact H.sb.sublist (bf _ _))
 delta ko ls
 rw[bD,bD,nG,nG,av]
 exact this
theorem nM(H:MH ky a₀ a b){out:Array Keyed}{ia ib:Nat}(h:tg ky a b out ia ib)(he:ia+1=a.size):ls ky a b (n7 a b out ia ib):=by
 have ex:a[ia]?=some a[ia]:=cR a ia (fk 0xf81101f1180a2f he)
 have hd:a.toList.drop ia=[a[ia]]:=by rw[jj ex,b0 (by rw[aE];exact fk 0xf11180a10f1180a2f he)]
 have:=h.swap.done (by rw[hd];exact List.pairwise_append.mpr ⟨H.sb.sublist (bf _ _),dR _ _,fun y hy z hz=>by rw[aa.mp hz];exact H.last _ (by rw[show a.size-1=ia by exact fk 0xf811f8110ff118f108ff022f1180a2f1810 he];exact ex) y (dJ hy)⟩)
 delta n7 ls
 rw[bD,bD,nG,nG,av]
 exact this
theorem uv(H:MH ky a₀ a b){out:Array Keyed}{ia ib:Nat}{y:Keyed}(h:tg ky a b out ia ib)(hy:b[ib]?=some y)(hl:∀z∈a.toList.drop ia,jw ky y z):tg ky a b (out.push y) ia (ib+1):=by
 delta tg at h|-
 rw[jj hy]at h
 rw[cX]
 refine(h.swap.push (fun z hz=>?_) hl).swap
 have:=H.sb.sublist (bf ib _)
 rw[jj hy]at this
 exact(List.pairwise_cons.mp this).1 z hz
theorem zq(H:MH ky a₀ a b){out:Array Keyed}{ia ib:Nat}{y:Keyed}(h:tg ky a b out ia ib)(hy:a[ia]?=some y)(hl:∀z∈b.toList.drop ib,jw ky y z):tg ky a b (out.push y) (ia+1) ib:=by
 delta tg at h|-
 rw[jj hy]at h
 rw[cX]
 refine h.push (fun z hz=>?_) hl
 have:=H.sa.sublist (bf ia _)
 rw[jj hy]at this
 exact(List.pairwise_cons.mp this).1 z hz
theorem Eb(H:MH ky a₀ a b){out:Array Keyed}{ia ib k:Nat}(h:tg ky a b out ia ib)(hl:∀x∈(a.toList.drop ia).take k,∀z∈b.toList.drop ib,jw ky x z):tg ky a b (out++a.extract ia (ia+k)) (ia+k) ib:=by
 delta tg at h|-
 rw[bD,qP,<-dS]
 rw[<-bP k (a.toList.drop ia)]at h
 refine h.ext ?_ hl
 rw[bP]
 exact H.sa.sublist (bf _ _)
theorem Eg(H:MH ky a₀ a b){out:Array Keyed}{ia ib k:Nat}(h:tg ky a b out ia ib)(hl:∀x∈(b.toList.drop ib).take k,∀z∈a.toList.drop ia,jw ky x z):tg ky a b (out++b.extract ib (ib+k)) ia (ib+k):=by
 delta tg at h|-
 rw[bD,qP,<-dS]
 rw[<-bP k (b.toList.drop ib)]at h
 refine(h.swap.ext ?_ hl).swap
 rw[bP]
 exact H.sb.sublist (bf _ _)
theorem zC(H:MH ky a₀ a b){ia:Nat}{y:Keyed}(hy:a[ia]?=some y):∀z∈a.toList.drop ia,jw ky y z:=fun z hz=>by
 have:=H.sa.sublist (bf ia _)
 rw[jj hy]at this hz
 rcases ak.mp hz with rfl|hz
 ·exact bF _
 ·exact(List.pairwise_cons.mp this).1 z hz
theorem zr(H:MH ky a₀ a b){ib:Nat}{y:Keyed}(hy:b[ib]?=some y):∀z∈b.toList.drop ib,jw ky y z:=fun z hz=>by
 have:=H.sb.sublist (bf ib _)
 rw[jj hy]at this hz
 rcases ak.mp hz with rfl|hz
 ·exact bF _
 ·exact(List.pairwise_cons.mp this).1 z hz
structure LI(ky:Keyed->O.α)(a b out:Array Keyed)(ia ib p:Nat):Prop where
 mi:tg ky a b out ia ib
 la:ia+1<a.size
 lb:ib<b.size
 pr:p<=ia+ib
inductive D1(ky:Keyed->O.α)(a b:Array Keyed)(p:Nat):C1->Prop
 |fin {r out:Array Keyed}{ia ib ac bc:Nat}:ls ky a b r->D1 ky a b p (some r,out,ia,ib,ac,bc)
 |go {out:Array Keyed}{ia ib ac bc:Nat}:LI ky a b out ia ib p->D1 ky a b p (none,out,ia,ib,ac,bc)
inductive Y1(ky:Keyed->O.α)(a b:Array Keyed)(p:Nat):C1->Prop
 |go {out:Array Keyed}{ia ib ac bc:Nat}:LI ky a b out ia ib p->Y1 ky a b p (none,out,ia,ib,ac,bc)
inductive D2(ky:Keyed->O.α)(a b:Array Keyed)(p:Nat):C2->Prop
 |fin {r out:Array Keyed}{ia ib mg ac bc:Nat}:ls ky a b r->D2 ky a b p (some r,out,ia,ib,mg,ac,bc)
 |go {out:Array Keyed}{ia ib mg ac bc:Nat}:LI ky a b out ia ib p->D2 ky a b p (none,out,ia,ib,mg,ac,bc)
inductive Y2(ky:Keyed->O.α)(a b:Array Keyed)(p:Nat):C2->Prop
 |go {out:Array Keyed}{ia ib mg ac bc:Nat}:LI ky a b out ia ib p->Y2 ky a b p (none,out,ia,ib,mg,ac,bc)
def P1(ky:Keyed->O.α)(a b:Array Keyed)(st:SortSt)(p:Nat)(r:ForInStep C1)(st':SortSt):Prop:=GS st st'/\match r with|.done c=>D1 ky a b p c|.yield c=>Y1 ky a b p c
def P2(ky:Keyed->O.α)(a b:Array Keyed)(st:SortSt)(p:Nat)(r:ForInStep C2)(st':SortSt):Prop:=GS st st'/\match r with|.done c=>D2 ky a b p c|.yield c=>Y2 ky a b p c
theorem Df{st st':SortSt}{mg ia ib ac bc p:Nat}{out:Array Keyed}(hC:nh M A s ky a₀ κ)(hk:kindOf st=κ)(H:MH ky a₀ a b)(G:GS st st')(h:LI ky a b out ia ib p):wpS M A E s (E5 a b mg out ia ib ac bc) (P1 ky a b st (p+1)) st':=by
 obtain⟨h1,h2,h3,h4⟩:=h
 delta E5
 refine aO (gx h3 fun y hy=>aO (gx (fk 0xf11101f1180a1f h2) fun z hz=>aO (tx hC (G.kind.trans hk) (H.mb _ (jd hy)) (H.ma _ (jd hz)) ?_)))
 dsimp only
 cases hl:O.blt (ky y) (ky z)with
 |true=>
  rw[aN rfl];refine aO (gx h3 fun y' hy'=>?_);rw[hy]at hy';cases hy';have hm:=uv H h1 hy fun u hu=>iC (b8 hl) (zC H hz u hu);by_cases e:ib+1=b.size
  ·rw[aN (by simpa using e)];exact aU ⟨G,.fin (mA H hm (.inl (fk 0xf11180a10f1180a2f e)))⟩
  ·rw[aL (by simpa using e)];split;·exact aU ⟨G,.go ⟨hm,h2,by exact fk 0xf11f101f1180a1f1180a26101f h3 e,by exact fu 0xf11182a1a180a0f21a00f h4⟩⟩
   ·exact aU ⟨G,.go ⟨hm,h2,by exact fk 0xf11f101f1180a1f1180a26101f h3 e,by exact fu 0xf11182a1a180a0f21a00f h4⟩⟩
 |false=>
  rw[aL (by decide)];refine aO (gx (fk 0xf11101f1180a1f h2) fun z' hz'=>?_);rw[hz]at hz';cases hz';have hm:=zq H h1 hz fun u hu=>iC (y:=y) hl (zr H hy u hu);by_cases e:ia+1+1=a.size
  ·rw[aN (by simpa using e)];exact aU ⟨G,.fin (nM H hm e)⟩
  ·rw[aL (by simpa using e)];split;·exact aU ⟨G,.go ⟨hm,by exact fk 0xf11f101f118180aa1f118180aa261180a1f h2 e,h3,by exact fu 0xf112181aa180a0f21a00f h4⟩⟩
   ·exact aU ⟨G,.go ⟨hm,by exact fk 0xf11f101f118180aa1f118180aa261180a1f h2 e,h3,by exact fu 0xf112181aa180a0f21a00f h4⟩⟩
theorem yx{st st':SortSt}{mg ia ib ac bc p:Nat}{out:Array Keyed}{z:Keyed}(H:MH ky a₀ a b)(G:GS st st')(h:LI ky a b out ia ib p)(hz:a[ia]?=some z)(hl:∀u∈b.toList.drop ib,jw ky z u):wpS M A E s (En a b out ia ib mg ac bc) (P2 ky a b st (p+1)) st':=by
 obtain⟨h1,h2,h3,h4⟩:=h
 delta En
 refine aO (gx (fk 0xf11101f1180a1f h2) fun z' hz'=>?_)
 rw[hz]at hz';cases hz'
 have hm:=zq H h1 hz hl
 by_cases e:ia+1+1=a.size
 ·rw[aN (by simpa using e)];exact aU ⟨G,.fin (nM H hm e)⟩
 ·rw[aL (by simpa using e)];split;·exact aU ⟨G,.go ⟨hm,by exact fk 0xf11f101f118180aa1f118180aa261180a1f h2 e,h3,by exact fu 0xf112181aa180a0f21a00f h4⟩⟩
  ·exact aU ⟨G,.go ⟨hm,by exact fk 0xf11f101f118180aa1f118180aa261180a1f h2 e,h3,by exact fu 0xf112181aa180a0f21a00f h4⟩⟩
theorem y8{st st':SortSt}{mg ia ib ac bc p:Nat}{out:Array Keyed}{y:Keyed}(hC:nh M A s ky a₀ κ)(hk:kindOf st=κ)(H:MH ky a₀ a b)(G:GS st st')(h:LI ky a b out ia ib p)(hy:b[ib]?=some y)(hl:∀u∈a.toList.drop ia,jw ky y u):wpS M A E s (Eo a b out ia ib mg ac bc) (P2 ky a b st (p+1)) st':=by
 obtain⟨h1,h2,h3,h4⟩:=h
 delta Eo
 refine aO (gx h3 fun y' hy'=>?_)
 rw[hy]at hy';cases hy'
 have hm:=uv H h1 hy hl
 by_cases e:ib+1=b.size
 ·rw[aN (by simpa using e)];exact aU ⟨G,.fin (mA H hm (.inl (fk 0xf11180a10f1180a2f e)))⟩
 ·rw[aL (by simpa using e)];refine aO (gx (fk 0xf11101f1180a1f h2) fun z hz=>?_);refine aO (nt (ky:=ky) (L:=b.toList.drop (ib+1)) hC (G.kind.trans hk) (H.ma _ (jd hz)) H.mb (fk 0xf18f1108f12180aa0f101f180a10 h3) (by rw[ao];rw[bR,aE];exact fk 0xf1220ff181a01) (H.sb.sublist (bf _ _)) (fk 0xf1011f10001f2081f1180a26101f180a11 h3 e) fun k k1 k2 k3=>?_);dsimp only;by_cases k0:k>0
  ·rw[aN k0];have hm2:=Eg H hm fun x hx u hu=>iC (k2 x hx) (zC H hz u hu);rw[dS]at k3;by_cases e2:ib+1+k=b.size
   ·rw[aN (by simpa using e2)];exact aU ⟨G,.fin (mA H hm2 (.inl (fu 0xf111180aa20f21180aa2f e2)))⟩
   ·rw[aL (by simpa using e2)];exact cF (yx H G ⟨hm2,h2,by exact fu 0xf101f1081ff11008f10182aa1f10182aa260081300f182a10 k1 k0 e2,by exact gK 0xf113182aa1a00f21a00f h4⟩ hz k3) fun r st2 h=>h
  ·rw[aL k0];obtain rfl:k=0:=by exact f5 0xf1f11f0802f00816f k0
   exact yx H G ⟨hm,h2,by exact fk 0xf11f101f1180a1f1180a26101f h3 e,by exact fu 0xf11182a1a00f21a00f h4⟩ hz k3
theorem Dp{st st':SortSt}{mg ia ib ac bc p:Nat}{out:Array Keyed}(hC:nh M A s ky a₀ κ)(hk:kindOf st=κ)(H:MH ky a₀ a b)(G:GS st st')(h:LI ky a b out ia ib p):wpS M A E s (E4 a b out ia ib mg ac bc) (P2 ky a b st (p+1)) st':=by
 obtain⟨h1,h2,h3,h4⟩:=h
 delta E4
 refine aO (sF G fun st2 G2=>aO (gx h3 fun y hy=>?_))
 refine aO (nt (ky:=ky) (L:=a.toList.drop ia) hC (G2.kind.trans hk) (H.mb _ (jd hy)) H.ma (fk 0xf18f1108f120a0f1180a1f010 h2) (by rw[ao];rw[bR,aE];exact fk 0xf1220ff101) (H.sa.sublist (bf _ _)) (fk 0xf11012081f1180a1f011 h2) fun k k1 k2 k3=>?_)
 dsimp only
 by_cases k0:k>0
 ·rw[aN k0];have hm2:=Eb H h1 fun x hx u hu=>iC (k2 x hx) (zr H hy u hu);rw[dS]at k3;by_cases e1:ia+k+1=a.size
  ·rw[aN (by simpa using e1)];exact aU ⟨G2,.fin (nM H hm2 e1)⟩
  ·rw[aL (by simpa using e1)];by_cases e2:ia+k=a.size;·rw[aN (by simpa using e2)];exact aU ⟨G2,.fin (mA H hm2 (.inr (fu 0xf1110a20f210a2f e2)))⟩
   ·rw[aL (by simpa using e2)];exact y8 hC hk H G2 ⟨hm2,by exact fu 0xf101f11f100801fff1010f11820aa1f120a2611820aa263201180a1f010 h2 k1 e1 e2,h3,by exact gK 0xf11231aa00f21a00f h4⟩ hy k3
 ·rw[aL k0];obtain rfl:k=0:=by exact f5 0xf1f11f0802f00816f k0
  exact y8 hC hk H G2 ⟨h1,h2,h3,h4⟩ hy k3
inductive D3(ky:Keyed->O.α)(a b:Array Keyed)(p:Nat):C3->Prop
 |fin {r out:Array Keyed}{ia ib mg:Nat}:ls ky a b r->D3 ky a b p (some r,out,ia,ib,mg)
inductive Y3(ky:Keyed->O.α)(a b:Array Keyed)(p:Nat):C3->Prop
 |go {out:Array Keyed}{ia ib mg:Nat}:LI ky a b out ia ib p->Y3 ky a b p (none,out,ia,ib,mg)
theorem DW{st st':SortSt}{mg ia ib p:Nat}{out:Array Keyed}(hC:nh M A s ky a₀ κ)(hk:kindOf st=κ)(H:MH ky a₀ a b)(G:GS st st')(h:LI ky a b out ia ib p):wpS M A E s (Et a b (none,out,ia,ib,mg)) (fun r st2=>GS st st2/\match r with|.done c=>D3 ky a b p c|.yield c=>Y3 ky a b (p+1) c) st':=by
 have hna:=H.na
 delta Et
 dsimp only
 refine aO (cF (bh (I:=fun x c st2=>GS st st2/\Y1 ky a b (p+x) c) (Q:=fun c st2=>GS st st2/\D1 ky a b (p+1) c) ?step ?fin ⟨G,.go h⟩) ?post)
 case step=>rintro x c st2 _ hx ⟨G2,⟨h2⟩⟩;refine cF (Df hC hk H G2 h2) fun r st3 h3=>?_;obtain⟨G3,h3⟩:=h3;cases r with
  |done c=>cases h3 with
   |fin h=>exact⟨G3,.fin h⟩|go h=>exact⟨G3,.go ⟨h.mi,h.la,h.lb,by have:=h.pr;exact gK 0xf1132a180a0f32a1810aa0f this⟩⟩
  |yield c=>exact⟨G3,h3⟩
 case fin=>rintro c st2 ⟨G2,⟨h2⟩⟩;exact⟨G2,.go ⟨h2.mi,h2.la,h2.lb,by have:=h2.pr;have:max 0 (a.size+b.size)=a.size+b.size:=eQ _;exact i8 0xf111143a181a0f20a5243a51a00081f20a084 hna (by assumption) this⟩⟩
 case post=>rintro c st2 ⟨G2,h2⟩;cases h2 with
  |fin h=>exact aU ⟨G2,.fin h⟩|go h2=>
   dsimp only;refine aO (fU (ce ⟨rfl,?_⟩));refine aO (cF (bh (I:=fun x c st3=>GS st st3/\Y2 ky a b (p+1) c) (Q:=fun c st3=>GS st st3/\D2 ky a b (p+1) c) ?step2 ?fin2 ⟨G2,.go h2⟩) ?post2);case step2=>rintro x c st3 _ hx ⟨G3,⟨h3⟩⟩;dsimp only;split;all_goals refine cF (Dp hC hk H G3 h3) fun r st4 h4=>?_;obtain⟨G4,h4⟩:=h4;cases r with
     |done c=>cases h4 with
      |fin h=>exact⟨G4,.fin h⟩|go h=>exact⟨G4,.go ⟨h.mi,h.la,h.lb,by have:=h.pr;exact fu 0xf1121a180a0f21a18180aa0f this⟩⟩
     |yield c=>cases h4 with|go h=>exact⟨G4,.go ⟨h.mi,h.la,h.lb,by have:=h.pr;exact fu 0xf1121a180a0f21a18180aa0f this⟩⟩
   case fin2=>rintro c st3 ⟨G3,⟨h3⟩⟩;exact⟨G3,.go h3⟩
   case post2=>rintro c st3 ⟨G3,h3⟩;cases h3 with|fin h=>exact aU ⟨G3,.fin h⟩|go h3=>dsimp only;exact aO (sF G3 fun st4 G4=>aU ⟨G4,.go h3⟩)
theorem uk{st:SortSt}{Q:Array Keyed->SortSt->Prop}(hC:nh M A s ky a₀ κ)(hk:kindOf st=κ)(H:MH ky a₀ a b)(h:∀r st',GS st st'->ls ky a b r->Q r st'):wpS M A E s (nH a b) Q st:=by
 have hna:=H.na
 have hnb:=H.nb
 rw[tN]
 refine aO (fU (ce ⟨rfl,?_⟩))
 refine aO (gx hnb fun y hy=>?_)
 have h0:tg ky a b #[] 0 0:=⟨.nil,List.Perm.refl _,fun x hx=>by cases hx⟩
 have h1:tg ky a b #[y] 0 1:=uv H h0 hy fun z hz=>H.first y hy z hz
 by_cases e1:1=b.size
 ·rw[aN (by simpa using e1)];exact aU (h _ _ (GS.refl _) (mA H h1 (.inl (f5 0xf111800f0182f e1))))
 ·rw[aL (by simpa using e1)];by_cases e2:0+1=a.size
  ·rw[aN (by simpa using e2)];exact aU (h _ _ (GS.refl _) (nM H h1 e2))
  ·rw[aL (by simpa using e2)];refine aO (fA ?_);refine aO (cF (bh (I:=fun x c st2=>GS st st2/\Y3 ky a b x c) (Q:=fun c st2=>GS st st2/\D3 ky a b 0 c) ?step ?fin ⟨GS.refl _,.go ⟨h1,by exact f5 0xf11f101f01808a1f01808a260081f hna e2,by exact f5 0xf11f101f0181f018260081f hnb e1,by exact iz [] [] 0xf11808a080ff⟩⟩) ?post);case step=>rintro x c st2 _ hx ⟨G2,⟨h2⟩⟩;refine cF (DW hC hk H G2 h2) fun r st3 h3=>?_;obtain⟨G3,h3⟩:=h3;cases r with
    |done c=>cases h3 with|fin h=>exact⟨G3,.fin h⟩
    |yield c=>exact⟨G3,h3⟩
   case fin=>rintro c st2 ⟨G2,⟨h2⟩⟩;have p1:=h2.pr;have p2:=h2.la;have p3:=h2.lb;have e:max 0 (a.size+b.size)=a.size+b.size:=eQ _;exact(gK 0xf11119f10a421310182a132a40f10a084 p1 p2 p3 e).elim
   case post=>rintro c st2 ⟨G2,⟨h2⟩⟩;exact aU (h _ _ G2 h2)
end
noncomputable def nK:Array Keyed->Array Keyed->StateT SortSt Sem (Array Keyed):=sortPriv%PySem.Builtin.mergeHi
noncomputable abbrev H1:=Option (Array Keyed)×Nat×Nat×Array Keyed×Nat×Nat
noncomputable abbrev H2:=Option (Array Keyed)×Nat×Nat×Array Keyed×Nat×Nat×Nat
noncomputable abbrev H3:=Option (Array Keyed)×Nat×Nat×Array Keyed×Nat
noncomputable def ks(a b out:Array Keyed)(na nb:Nat):Array Keyed:=a.extract 0 na++b.extract 0 nb++out.reverse
noncomputable def mH(a b out:Array Keyed)(na nb:Nat):Array Keyed:=b.extract 0 nb++a.extract 0 na++out.reverse
noncomputable def FL(a b:Array Keyed)(mg:Nat)(out:Array Keyed)(na nb ac bc:Nat):StateT SortSt Sem (ForInStep H1):=do
 let y<-elem' b (nb-1)
 let z<-elem' a (na-1)
 let x<-lt' y z
 match x with
 |some aWins=>if aWins=true then do let z<-elem' a (na-1)if(na-1==0)=true then pure (.done (some (ks a b (out.push z) (na-1) nb),na-1,nb,out.push z,ac+1,0))else if ac+1>=mg then pure (.done (none,na-1,nb,out.push z,ac+1,0))else pure (.yield (none,na-1,nb,out.push z,ac+1,0))else do let y<-elem' b (nb-1)if(nb-1==1)=true then pure (.done (some (mH a b (out.push y) na (nb-1)),na,nb-1,out.push y,0,bc+1))else if bc+1>=mg then pure (.done (none,na,nb-1,out.push y,0,bc+1))else pure (.yield (none,na,nb-1,out.push y,0,bc+1))
 |_=>pure (.done (some (ks a b out na nb),na,nb,out,ac,bc))
noncomputable def E0(a b out:Array Keyed)(na nb mg ac bc:Nat):StateT SortSt Sem (ForInStep H2):=do
 let z<-elem' a (na-1)
 if(na-1==0)=true then pure (.done (some (ks a b (out.push z) (na-1) nb),na-1,nb,out.push z,mg,ac,bc))
 else if(decide (ac<7)&&decide (bc<7))=true then pure (.done (none,na-1,nb,out.push z,mg,ac,bc))else pure (.yield (none,na-1,nb,out.push z,mg,ac,bc))
noncomputable def Ez(a b out:Array Keyed)(na nb mg ac bc:Nat):StateT SortSt Sem (ForInStep H2):=do
 let y<-elem' b (nb-1)
 if(nb-1==1)=true then pure (.done (some (mH a b (out.push y) na (nb-1)),na,nb-1,out.push y,mg,ac,bc))
 else do let z<-elem' a (na-1)let x<-ic true z b 0 (nb-1) (nb-1-1)match x with|some k=>if nb-1-k>0 then if(k==1)=true then pure (.done (some (mH a b (out.push y++(b.extract k (nb-1)).reverse) na k),na,k,out.push y++(b.extract k (nb-1)).reverse,mg,ac,nb-1-k))else if(k==0)=true then pure (.done (some (ks a b (out.push y++(b.extract k (nb-1)).reverse) na k),na,k,out.push y++(b.extract k (nb-1)).reverse,mg,ac,nb-1-k))else E0 a b (out.push y++(b.extract k (nb-1)).reverse) na k mg ac (nb-1-k)else E0 a b (out.push y) na (nb-1) mg ac (nb-1-k)|_=>pure (.done (some (ks a b (out.push y) na (nb-1)),na,nb-1,out.push y,mg,ac,bc))
noncomputable def Eu(a b out:Array Keyed)(na nb mg ac bc:Nat):StateT SortSt Sem (ForInStep H2):=do
 gp mg
 let y<-elem' b (nb-1)
 let x<-ic false y a 0 na (na-1)
 match x with
 |some k=>if na-k>0 then if(k==0)=true then pure (.done (some (ks a b (out++(a.extract k na).reverse) k nb),k,nb,out++(a.extract k na).reverse,mg,na-k,bc))else Ez a b (out++(a.extract k na).reverse) k nb mg (na-k) bc else Ez a b out na nb mg (na-k) bc
 |_=>pure (.done (some (ks a b out na nb),na,nb,out,mg,ac,bc))
noncomputable def Ex(a b:Array Keyed)(c:H3):StateT SortSt Sem (ForInStep H3):=do
 let r<-forIn [0:a.size+b.size] ((none,c.2.1,c.2.2.1,c.2.2.2.1,0,0):H1) fun _ r=>FL a b c.2.2.2.2 r.2.2.2.1 r.2.1 r.2.2.1 r.2.2.2.2.1 r.2.2.2.2.2
 match r.1 with
 |some x=>pure (.done (some x,r.2.1,r.2.2.1,r.2.2.2.1,c.2.2.2.2))
 |none=>do liftM (rule "list.sort.gallop")let r<-forIn [0:a.size+b.size] ((none,r.2.1,r.2.2.1,r.2.2.2.1,c.2.2.2.2+1,r.2.2.2.2.1,r.2.2.2.2.2):H2) fun _ r=>if r.2.2.2.2.1>1 then Eu a b r.2.2.2.1 r.2.1 r.2.2.1 (r.2.2.2.2.1-1) r.2.2.2.2.2.1 r.2.2.2.2.2.2 else Eu a b r.2.2.2.1 r.2.1 r.2.2.1 r.2.2.2.2.1 r.2.2.2.2.2.1 r.2.2.2.2.2.2 match r.1 with|some x=>pure (.done (some x,r.2.1,r.2.2.1,r.2.2.2.1,r.2.2.2.2.1))|none=>do gp (r.2.2.2.2.1+1)pure (.yield (none,r.2.1,r.2.2.1,r.2.2.2.1,r.2.2.2.2.1+1))
theorem rm(a b:Array Keyed):nK a b=(do
 rule "list.sort.merge-hi"
 let total:=a.size+b.size
 let done (out:Array Keyed) (na nb:Nat):=a.extract 0 na++b.extract 0 nb++out.reverse
 let firstOfB (out:Array Keyed) (na nb:Nat):=b.extract 0 nb++a.extract 0 na++out.reverse
 let mut na:=a.size-1
 let mut nb:=b.size
 let mut out:Array Keyed:=#[<-elem' a na]
 if na==0 then return done out na nb
 if nb==1 then return firstOfB out na nb
 let mut minGallop:=gallopOf (<-get)
 for _ in[0:total]do
  let mut acount:=0 let mut bcount:=0
  for _ in[0:total]do
   let some aWins<-lt' (<-elem' b (nb-1)) (<-elem' a (na-1))|return done out na nb
   if aWins then
    na:=na-1;out:=out.push (<-elem' a na);acount:=acount+1;bcount:=0 if na==0 then return done out na nb
    if acount>=minGallop then break
   else
    nb:=nb-1;out:=out.push (<-elem' b nb);bcount:=bcount+1;acount:=0 if nb==1 then return firstOfB out na nb
    if bcount>=minGallop then break
  rule "list.sort.gallop"minGallop:=minGallop+1
  for _ in[0:total]do
   if minGallop>1 then minGallop:=minGallop-1
   gp minGallop
   let some at_<-ic false (<-elem' b (nb-1)) a 0 na (na-1)|return done out na nb
   let k:=na-at_
   acount:=k if k>0 then
    out:=out++(a.extract at_ na).reverse;na:=at_ if na==0 then return done out na nb
   nb:=nb-1;out:=out.push (<-elem' b nb)if nb==1 then return firstOfB out na nb
   let some at_<-ic true (<-elem' a (na-1)) b 0 nb (nb-1)|return done out na nb
   let k:=nb-at_
   bcount:=k if k>0 then
    out:=out++(b.extract at_ nb).reverse;nb:=at_ if nb==1 then return firstOfB out na nb
    if nb==0 then return done out na nb
   na:=na-1;out:=out.push (<-elem' a na)if na==0 then return done out na nb
   if acount<7&&bcount<7 then break
  minGallop:=minGallop+1
  gp minGallop
 unsupported "internal:list.sort.merge-bound"):=rfl
theorem tO(a b:Array Keyed):nK a b=(do
 liftM (rule "list.sort.merge-hi")
 let y<-elem' a (a.size-1)
 if(a.size-1==0)=true then pure (ks a b #[y] (a.size-1) b.size)
 else if(b.size==1)=true then pure (mH a b #[y] (a.size-1) b.size)
 else do let st<-get let r<-forIn [0:a.size+b.size] ((none,a.size-1,b.size,#[y],gallopOf st):H3) fun _ c=>Ex a b c match r.1 with|some x=>pure x|none=>liftM (unsupported "internal:list.sort.merge-bound":Sem (Array Keyed))):=by
 rw[rm]
 refine xp fun _u=>xp fun y=>Ep rfl (Ep rfl (xp fun st=>tq (Ce fun _i c=>?_) fun r=>?_))
 ·delta Ex;refine tq (Ce fun _i r=>?_) fun r=>?_;·rfl
  ·obtain⟨r,out,ia,ib,ac,bc⟩:=r;cases r with
   |some r=>rfl|none=>
    refine xp fun _w=>tq (Ce fun _i r=>?_) fun r=>?_;·rfl
    ·obtain⟨r,out,ia,ib,mg,ac,bc⟩:=r;cases r<;>rfl
 ·obtain⟨r,out,ia,ib,mg⟩:=r;cases r<;>rfl
section
variable{O:KeyOrd}{ky:Keyed->O.α}{M:Model}{A:Around}{E:Value->Shared->Prop}{s:Shared}{a₀:Array Keyed}{κ:SortKind}
variable{a b:Array Keyed}
abbrev Fn(ky:Keyed->O.α)(x y:Keyed):Prop:=jw ky y x
abbrev th(ky:Keyed->O.α)(a b out:Array Keyed)(na nb:Nat):Prop:=MI (Fn ky) (a.toList++b.toList) (a.toList.take na).reverse (b.toList.take nb).reverse out.toList
theorem k6{arr:Array Keyed}{n:Nat}{x:Keyed}(hn:0<n)(h:arr[n-1]?=some x):(arr.toList.take n).reverse=x::(arr.toList.take (n-1)).reverse:=by
 rw[<-ab]at h
 obtain⟨m,rfl⟩:∃m,n=m+1:=⟨n-1,by exact f5 0xf18f1108ff11f110ff181a02f0081f1800 hn⟩
 rw[cO]at h|-
 rw[cI,h]
 show(arr.toList.take m++[x]).reverse=_
 rw[ci];rfl
theorem jp{arr:Array Keyed}{n:Nat}(h:arr.toList.Pairwise (jw ky)):(arr.toList.take n).reverse.Pairwise (Fn ky):=List.pairwise_reverse.mpr (h.sublist (fQ _ _))
theorem mG(arr:Array Keyed)(n:Nat):(arr.extract 0 n).toList=arr.toList.take n:=by
 rw[du,dB];rfl
theorem nR{arr:Array Keyed}{k n:Nat}(h:k<=n):(arr.toList.take n).reverse=((arr.toList.take n).drop k).reverse++(arr.toList.take k).reverse:=by
 rw[<-ci]
 congr 1
 have e:arr.toList.take k=(arr.toList.take n).take k:=by rw[fB,cN h]
 rw[e,bP]
theorem wZ(arr:Array Keyed)(k n:Nat):(arr.extract k n).reverse.toList=((arr.toList.take n).drop k).reverse:=by
 rw[el,du,dB,List.drop_take]
theorem k8(H:MH ky a₀ a b){out:Array Keyed}{na nb:Nat}(h:th ky a b out na nb)(he:na=0\/nb=0):ls ky a b (ks a b out na nb):=by
 have:=(h.swap.done (by
  rcases he with rfl|rfl;·rw[List.take_zero,List.reverse_nil,ar];exact jp H.sb
  ·rw[List.take_zero,List.reverse_nil,cA];exact jp H.sa)).rev
 delta ks ls
 rw[bD,bD,mG,mG,el]
 rw[ci,ci,dv,dv]at this
 exact this
theorem lJ(H:MH ky a₀ a b){out:Array Keyed}{na nb:Nat}(h:th ky a b out na nb)(he:nb=1):ls ky a b (mH a b out na nb):=by
 subst he
 have hnb:=H.nb
 have ex:b[0]?=some b[0]:=cR b 0 hnb
 have hb1:(b.toList.take 1).reverse=[b[0]]:=by rw[k6 (n:=1) (by decide) ex];rfl
 have:=(h.done (by rw[hb1];exact List.pairwise_append.mpr ⟨jp H.sa,dR _ _,fun y hy z hz=>by rw[aa.mp hz];exact H.first _ ex y (bU (List.mem_reverse.mp hy))⟩)).rev
 delta mH ls
 rw[bD,bD,mG,mG,el]
 rw[ci,ci,dv,dv]at this
 exact this
theorem sN(H:MH ky a₀ a b){out:Array Keyed}{na nb:Nat}{y:Keyed}(h:th ky a b out na nb)(h0:0<na)(hy:a[na-1]?=some y)(hl:∀z∈b.toList.take nb,jw ky z y):th ky a b (out.push y) (na-1) nb:=by
 delta th at h|-
 rw[k6 h0 hy]at h
 rw[cX]
 refine h.push (fun z hz=>?_) fun z hz=>hl z (List.mem_reverse.mp hz)
 have:=jp (n:=na) H.sa
 rw[k6 h0 hy]at this
 exact(List.pairwise_cons.mp this).1 z hz
theorem wP(H:MH ky a₀ a b){out:Array Keyed}{na nb:Nat}{y:Keyed}(h:th ky a b out na nb)(h0:0<nb)(hy:b[nb-1]?=some y)(hl:∀z∈a.toList.take na,jw ky z y):th ky a b (out.push y) na (nb-1):=by
 delta th at h|-
 rw[k6 h0 hy]at h
 rw[cX]
 refine(h.swap.push (fun z hz=>?_) fun z hz=>hl z (List.mem_reverse.mp hz)).swap
 have:=jp (n:=nb) H.sb
 rw[k6 h0 hy]at this
 exact(List.pairwise_cons.mp this).1 z hz
theorem C0(H:MH ky a₀ a b){out:Array Keyed}{na nb k:Nat}(h:th ky a b out na nb)(hk:k<=na)(hl:∀x∈(a.toList.take na).drop k,∀z∈b.toList.take nb,jw ky z x):th ky a b (out++(a.extract k na).reverse) k nb:=by
 delta th at h|-
 rw[bD,wZ]
 rw[nR hk]at h
 refine h.ext ?_ fun x hx z hz=>hl x (List.mem_reverse.mp hx) z (List.mem_reverse.mp hz)
 rw[<-nR hk]
 exact jp H.sa
theorem DU(H:MH ky a₀ a b){out:Array Keyed}{na nb k:Nat}(h:th ky a b out na nb)(hk:k<=nb)(hl:∀x∈(b.toList.take nb).drop k,∀z∈a.toList.take na,jw ky z x):th ky a b (out++(b.extract k nb).reverse) na k:=by
 delta th at h|-
 rw[bD,wZ]
 rw[nR hk]at h
 refine(h.swap.ext ?_ fun x hx z hz=>hl x (List.mem_reverse.mp hx) z (List.mem_reverse.mp hz)).swap
 rw[<-nR hk]
 exact jp H.sb
theorem o7{arr:Array Keyed}(hs:arr.toList.Pairwise (jw ky)){n:Nat}{y:Keyed}(h0:0<n)(hy:arr[n-1]?=some y):∀z∈arr.toList.take n,jw ky z y:=fun z hz=>by
 have:=jp (n:=n) hs
 have hz:=List.mem_reverse.mpr hz
 rw[k6 h0 hy]at this hz
 rcases ak.mp hz with rfl|hz
 ·exact bF _
 ·exact(List.pairwise_cons.mp this).1 z hz
structure xe(ky:Keyed->O.α)(a b out:Array Keyed)(na nb p:Nat):Prop where
 mi:th ky a b out na nb
 la:0<na
 lb:1<nb
 za:na<=a.size
 zb:nb<=b.size
 pr:p+na+nb<=a.size+b.size
inductive E1(ky:Keyed->O.α)(a b:Array Keyed)(p:Nat):H1->Prop
 |fin {r out:Array Keyed}{na nb ac bc:Nat}:ls ky a b r->E1 ky a b p (some r,na,nb,out,ac,bc)
 |go {out:Array Keyed}{na nb ac bc:Nat}:xe ky a b out na nb p->E1 ky a b p (none,na,nb,out,ac,bc)
inductive Z1(ky:Keyed->O.α)(a b:Array Keyed)(p:Nat):H1->Prop
 |go {out:Array Keyed}{na nb ac bc:Nat}:xe ky a b out na nb p->Z1 ky a b p (none,na,nb,out,ac,bc)
inductive E2(ky:Keyed->O.α)(a b:Array Keyed)(p:Nat):H2->Prop
 |fin {r out:Array Keyed}{na nb mg ac bc:Nat}:ls ky a b r->E2 ky a b p (some r,na,nb,out,mg,ac,bc)
 |go {out:Array Keyed}{na nb mg ac bc:Nat}:xe ky a b out na nb p->E2 ky a b p (none,na,nb,out,mg,ac,bc)
inductive Z2(ky:Keyed->O.α)(a b:Array Keyed)(p:Nat):H2->Prop
 |go {out:Array Keyed}{na nb mg ac bc:Nat}:xe ky a b out na nb p->Z2 ky a b p (none,na,nb,out,mg,ac,bc)
def R1(ky:Keyed->O.α)(a b:Array Keyed)(st:SortSt)(p:Nat)(r:ForInStep H1)(st':SortSt):Prop:=GS st st'/\match r with|.done c=>E1 ky a b p c|.yield c=>Z1 ky a b p c
def R2(ky:Keyed->O.α)(a b:Array Keyed)(st:SortSt)(p:Nat)(r:ForInStep H2)(st':SortSt):Prop:=GS st st'/\match r with|.done c=>E2 ky a b p c|.yield c=>Z2 ky a b p c
theorem C8{st st':SortSt}{mg na nb ac bc p:Nat}{out:Array Keyed}(hC:nh M A s ky a₀ κ)(hk:kindOf st=κ)(H:MH ky a₀ a b)(G:GS st st')(h:xe ky a b out na nb p):wpS M A E s (FL a b mg out na nb ac bc) (R1 ky a b st (p+1)) st':=by
 obtain⟨h1,h2,h3,za,zb,h4⟩:=h
 delta FL
 refine aO (gx (by exact fk 0xf1018f11108f121f1000181f1800 h3 zb) fun y hy=>aO (gx (by exact fk 0xf1018f11108f121f1000081f1800 h2 za) fun z hz=>aO (tx hC (G.kind.trans hk) (H.mb _ (jd hy)) (H.ma _ (jd hz)) ?_)))
 dsimp only
 cases hl:O.blt (ky y) (ky z)with
 |true=>
  rw[aN rfl];refine aO (gx (by exact fk 0xf1018f11108f121f1000081f1800 h2 za) fun z' hz'=>?_);rw[hz]at hz';cases hz';have hm:=sN H h1 h2 hz fun u hu=>iC (o7 H.sb (by exact f5 0xf110081f0181f h3) hy u hu) (b8 hl);by_cases e:na-1=0
  ·rw[aN (by simpa using e)];exact aU ⟨G,.fin (k8 H hm (.inl e))⟩
  ·rw[aL (by simpa using e)];split;·exact aU ⟨G,.go ⟨hm,by exact f5 0xf1f11f1081f08126f1801 e,h3,by exact fk 0xf1011120f100f1801 za,zb,by exact i8 0xf1018f11108f43a25181aaa0f43a201aa00081f1800 h2 h4⟩⟩
   ·exact aU ⟨G,.go ⟨hm,by exact f5 0xf1f11f1081f08126f1801 e,h3,by exact fk 0xf1011120f100f1801 za,zb,by exact i8 0xf1018f11108f43a25181aaa0f43a201aa00081f1800 h2 h4⟩⟩
 |false=>
  rw[aL (by decide)];refine aO (gx (by exact fk 0xf1018f11108f121f1000181f1800 h3 zb) fun y' hy'=>?_);rw[hy]at hy';cases hy';have hm:=wP H h1 (by exact f5 0xf110081f0181f h3) hy fun u hu=>iC (o7 H.sa (by exact f5 0xf110081f0081f h2) hz u hu) hl;by_cases e:nb-1=1
  ·rw[aN (by simpa using e)];exact aU ⟨G,.fin (lJ H hm e)⟩
  ·rw[aL (by simpa using e)];split;·exact aU ⟨G,.go ⟨hm,h2,by exact f5 0xf11001f11f1181f181260181f1801 h3 e,za,by exact fk 0xf1011120f100f1801 zb,by exact i8 0xf1018f1010f43a52181aaa0f43a021aa00181f1800 h3 h4⟩⟩
   ·exact aU ⟨G,.go ⟨hm,h2,by exact f5 0xf11001f11f1181f181260181f1801 h3 e,za,by exact fk 0xf1011120f100f1801 zb,by exact i8 0xf1018f1010f43a52181aaa0f43a021aa00181f1800 h3 h4⟩⟩
theorem zd{st st':SortSt}{mg na nb ac bc p:Nat}{out:Array Keyed}{z:Keyed}(H:MH ky a₀ a b)(G:GS st st')(h:xe ky a b out na nb p)(hz:a[na-1]?=some z)(hl:∀u∈b.toList.take nb,jw ky u z):wpS M A E s (E0 a b out na nb mg ac bc) (R2 ky a b st (p+1)) st':=by
 obtain⟨h1,h2,h3,za,zb,h4⟩:=h
 delta E0
 refine aO (gx (by exact fk 0xf1018f11108f121f1000081f1800 h2 za) fun z' hz'=>?_)
 rw[hz]at hz';cases hz'
 have hm:=sN H h1 h2 hz hl
 by_cases e:na-1=0
 ·rw[aN (by simpa using e)];exact aU ⟨G,.fin (k8 H hm (.inl e))⟩
 ·rw[aL (by simpa using e)];split;·exact aU ⟨G,.go ⟨hm,by exact f5 0xf1f11f1081f08126f1801 e,h3,by exact fk 0xf1011120f100f1801 za,zb,by exact i8 0xf1018f11108f43a25181aaa0f43a201aa00081f1800 h2 h4⟩⟩
  ·exact aU ⟨G,.go ⟨hm,by exact f5 0xf1f11f1081f08126f1801 e,h3,by exact fk 0xf1011120f100f1801 za,zb,by exact i8 0xf1018f11108f43a25181aaa0f43a201aa00081f1800 h2 h4⟩⟩
theorem AM{st st':SortSt}{mg na nb ac bc p:Nat}{out:Array Keyed}{y:Keyed}(hC:nh M A s ky a₀ κ)(hk:kindOf st=κ)(H:MH ky a₀ a b)(G:GS st st')(h:xe ky a b out na nb p)(hy:b[nb-1]?=some y)(hl:∀u∈a.toList.take na,jw ky u y):wpS M A E s (Ez a b out na nb mg ac bc) (R2 ky a b st (p+1)) st':=by
 obtain⟨h1,h2,h3,za,zb,h4⟩:=h
 delta Ez
 refine aO (gx (by exact fk 0xf1018f11108f121f1000181f1800 h3 zb) fun y' hy'=>?_)
 rw[hy]at hy';cases hy'
 have hm:=wP H h1 (by exact f5 0xf110081f0181f h3) hy hl
 by_cases e:nb-1=1
 ·rw[aN (by simpa using e)];exact aU ⟨G,.fin (lJ H hm e)⟩
 ·rw[aL (by simpa using e)];refine aO (gx (by exact fk 0xf1018f11108f121f1000081f1800 h2 za) fun z hz=>?_);refine aO (nt (ky:=ky) (L:=b.toList.take (nb-1)) hC (G.kind.trans hk) (H.ma _ (jd hz)) H.mb (by exact fk 0xf10111208a0f100f1801 zb) (by rw[dT]) (H.sb.sublist (fQ _ _)) (by exact f5 0xf18f110108f121f0181f18101801 h3) fun k k1 k2 k3=>?_);dsimp only;have e3:(b.toList.take (nb-1)).take k=b.toList.take k:=by rw[fB,cN k1]
  rw[e3]at k2;by_cases k0:nb-1-k>0
  ·rw[aN k0];have hm2:=DU H hm k1 fun x hx u hu=>iC (o7 H.sa h2 hz u hu) (k3 x hx);by_cases e2:k=1;·rw[aN (by simpa using e2)];exact aU ⟨G,.fin (lJ H hm2 e2)⟩
   ·rw[aL (by simpa using e2)];by_cases e4:k=0
    ·rw[aN (by simpa using e4)];exact aU ⟨G,.fin (k8 H hm2 (.inr e4))⟩
    ·rw[aL (by simpa using e4)];exact zd H G ⟨hm2,h2,by exact f5 0xf1f11ff11f0181f0802618026f e2 e4,za,by exact fu 0xf11011120f320100f1801 zb k1,by exact jr 0xf1101143a510aa0f65043a210aa0f1821 h4 k1⟩ hz k2
  ·rw[aL k0];obtain rfl:k=nb-1:=by exact fk 0xf1010001f100001f202f30816200f0211811 k1 k0
   exact zd H G ⟨hm,h2,by exact f5 0xf11001f11f1181f181260181f1801 h3 e,za,by exact fk 0xf1011120f100f1801 zb,by exact i8 0xf101143a510aa0f43a210aa0f1821 h4⟩ hz k2
theorem DN{st st':SortSt}{mg na nb ac bc p:Nat}{out:Array Keyed}(hC:nh M A s ky a₀ κ)(hk:kindOf st=κ)(H:MH ky a₀ a b)(G:GS st st')(h:xe ky a b out na nb p):wpS M A E s (Eu a b out na nb mg ac bc) (R2 ky a b st (p+1)) st':=by
 obtain⟨h1,h2,h3,za,zb,h4⟩:=h
 delta Eu
 refine aO (sF G fun st2 G2=>aO (gx (by exact fk 0xf1018f11108f121f1000181f1800 h3 zb) fun y hy=>?_))
 refine aO (nt (ky:=ky) (L:=a.toList.take na) hC (G2.kind.trans hk) (H.mb _ (jd hy)) H.ma (by exact fk 0xf111008a0f100f za) (by rw[dT]) (H.sa.sublist (fQ _ _)) (by exact f5 0xf18f1108f011f0081f1800 h2) fun k k1 k2 k3=>?_)
 dsimp only
 have e3:(a.toList.take na).take k=a.toList.take k:=by rw[fB,cN k1]
 rw[e3]at k2
 by_cases k0:na-k>0
 ·rw[aN k0];have hm2:=C0 H h1 k1 fun x hx u hu=>iC (o7 H.sb (by exact f5 0xf110081f0181f h3) hy u hu) (k3 x hx);by_cases e1:k=0;·rw[aN (by simpa using e1)];exact aU ⟨G2,.fin (k8 H hm2 (.inl e1))⟩
  ·rw[aL (by simpa using e1)];exact AM hC hk H G2 ⟨hm2,by exact f5 0xf1f11f0081f08026f e1,h3,by exact fu 0xf111120f020100f za k1,zb,by exact jr 0xf11143a250aa0f15043a210aa0f h4 k1⟩ hy k2
 ·rw[aL k0];obtain rfl:k=na:=by exact fk 0xf10101f1001f102f20816100f011 k1 k0
  exact AM hC hk H G2 ⟨h1,h2,h3,za,zb,h4⟩ hy k2
inductive E3(ky:Keyed->O.α)(a b:Array Keyed):H3->Prop
 |fin {r out:Array Keyed}{na nb mg:Nat}:ls ky a b r->E3 ky a b (some r,na,nb,out,mg)
inductive Z3(ky:Keyed->O.α)(a b:Array Keyed)(p:Nat):H3->Prop
 |go {out:Array Keyed}{na nb mg:Nat}:xe ky a b out na nb p->Z3 ky a b p (none,na,nb,out,mg)
theorem xe.less{out:Array Keyed}{na nb p p':Nat}(h:xe ky a b out na nb p)(hp:p'<=p):xe ky a b out na nb p':=⟨h.mi,h.la,h.lb,h.za,h.zb,by have:=h.pr;exact jr 0xf11154a320aa0f54a321aa0100f hp this⟩
theorem DJ{st st':SortSt}{mg na nb p:Nat}{out:Array Keyed}(hC:nh M A s ky a₀ κ)(hk:kindOf st=κ)(H:MH ky a₀ a b)(G:GS st st')(h:xe ky a b out na nb p):wpS M A E s (Ex a b (none,na,nb,out,mg)) (fun r st2=>GS st st2/\match r with|.done c=>E3 ky a b c|.yield c=>Z3 ky a b (p+1) c) st':=by
 have hna:=H.na
 delta Ex
 dsimp only
 refine aO (cF (bh (I:=fun x c st2=>GS st st2/\Z1 ky a b (p+x) c) (Q:=fun c st2=>GS st st2/\E1 ky a b (p+1) c) ?step ?fin ⟨G,.go h⟩) ?post)
 case step=>rintro x c st2 _ hx ⟨G2,⟨h2⟩⟩;refine cF (C8 hC hk H G2 h2) fun r st3 h3=>?_;obtain⟨G3,h3⟩:=h3;cases r with
  |done c=>cases h3 with
   |fin h=>exact⟨G3,.fin h⟩|go h=>exact⟨G3,.go (h.less (by exact fk 0xf11810aa180a0ff))⟩
  |yield c=>exact⟨G3,h3⟩
 case fin=>rintro c st2 ⟨G2,⟨h2⟩⟩;exact⟨G2,.go (h2.less (by have:max 0 (a.size+b.size)=a.size+b.size:=eQ _;exact fu 0xf11132a182a0f10a320081f10a084 hna this))⟩
 case post=>rintro c st2 ⟨G2,h2⟩;cases h2 with
  |fin h=>exact aU ⟨G2,.fin h⟩|go h2=>
   dsimp only;refine aO (fU (ce ⟨rfl,?_⟩));refine aO (cF (bh (I:=fun x c st3=>GS st st3/\Z2 ky a b (p+1) c) (Q:=fun c st3=>GS st st3/\E2 ky a b (p+1) c) ?step2 ?fin2 ⟨G2,.go h2⟩) ?post2);case step2=>rintro x c st3 _ hx ⟨G3,⟨h3⟩⟩;dsimp only;split;all_goals refine cF (DN hC hk H G3 h3) fun r st4 h4=>?_;obtain⟨G4,h4⟩:=h4;cases r with
     |done c=>cases h4 with
      |fin h=>exact⟨G4,.fin h⟩|go h=>exact⟨G4,.go (h.less (by exact f5 0xf118180aa180a0ff))⟩
     |yield c=>cases h4 with|go h=>exact⟨G4,.go (h.less (by exact f5 0xf118180aa180a0ff))⟩
   case fin2=>rintro c st3 ⟨G3,⟨h3⟩⟩;exact⟨G3,.go h3⟩
   case post2=>rintro c st3 ⟨G3,h3⟩;cases h3 with|fin h=>exact aU ⟨G3,.fin h⟩|go h3=>dsimp only;exact aO (sF G3 fun st4 G4=>aU ⟨G4,.go h3⟩)
theorem u6{st:SortSt}{Q:Array Keyed->SortSt->Prop}(hC:nh M A s ky a₀ κ)(hk:kindOf st=κ)(H:MH ky a₀ a b)(h:∀r st',GS st st'->ls ky a b r->Q r st'):wpS M A E s (nK a b) Q st:=by
 have hna:=H.na
 have hnb:=H.nb
 rw[tO]
 refine aO (fU (ce ⟨rfl,?_⟩))
 refine aO (gx (by exact f5 0xf18f1108f011f0081f1800 hna) fun y hy=>?_)
 have h0:th ky a b #[] a.size b.size:=by refine⟨.nil,?_,fun x hx=>by cases hx⟩;rw[ao (by rw[aE];exact aH _),ao (by rw[aE];exact aH _)];exact(fP _).append (fP _)
 have h1:th ky a b #[y] (a.size-1) b.size:=sN H h0 hna hy fun z hz=>H.last y hy z (bU hz)
 by_cases e1:a.size-1=0
 ·rw[aN (by simpa using e1)];exact aU (h _ _ (GS.refl _) (k8 H h1 (.inl e1)))
 ·rw[aL (by simpa using e1)];by_cases e2:b.size=1
  ·rw[aN (by simpa using e2)];exact aU (h _ _ (GS.refl _) (lJ H h1 e2))
  ·rw[aL (by simpa using e2)];refine aO (fA ?_);refine aO (cF (bh (I:=fun x c st2=>GS st st2/\Z3 ky a b x c) (Q:=fun c st2=>GS st st2/\E3 ky a b c) ?step ?fin ⟨GS.refl _,.go ⟨h1,by exact f5 0xf1f11f1081f08126f1801 e1,by exact f5 0xf101f11f0181f180260081f hnb e2,by exact f5 0xf11010ff1801,aH _,by exact fk 0xf1110a1208aa0ff1801⟩⟩) ?post);case step=>rintro x c st2 _ hx ⟨G2,⟨h2⟩⟩;refine cF (DJ hC hk H G2 h2) fun r st3 h3=>?_;obtain⟨G3,h3⟩:=h3;cases r with
    |done c=>cases h3 with|fin h=>exact⟨G3,.fin h⟩
    |yield c=>exact⟨G3,h3⟩
   case fin=>rintro c st2 ⟨G2,⟨h2⟩⟩;have p1:=h2.pr;have p2:=h2.la;have p3:=h2.lb;have e:max 0 (a.size+b.size)=a.size+b.size:=eQ _;exact(gK 0xf1119f10a42318110a324aa0f10a084 p1 p3 e).elim
   case post=>rintro c st2 ⟨G2,⟨h2⟩⟩;exact aU (h _ _ G2 h2)
end
noncomputable def oE(base:Nat)(l:List Keyed)(arr:Array Keyed):Array Keyed:=l.zipIdx.foldl (fun a (p,j)=>a.setIfInBounds (base+j) p) arr
noncomputable def Er(sa na sb nb:Nat)(arr:Array Keyed):StateT SortSt Sem Bool:=do
 let x:=arr.extract sa sb
 let y:=arr.extract sb (sb+nb)
 let merged<-if na<=nb then nH x y else nK x y
 modify fun s=>setArr s (oE sa merged.toList (arrOf s))
 return(failedOf (<-get)).isNone
theorem s9(i:Nat):mergeAt' i=(do
 let s<-get
 let(some (sa,na,power),some (sb,nb,_)):=((pendingOf s)[i]?,(pendingOf s)[i+1]?)|unsupported "internal:list.sort.pending"
 set (setPending s (((pendingOf s).setIfInBounds i (sa,na+nb,power)).eraseIdxIfInBounds (i+1)))
 let some k<-ic false (<-elem' (arrOf s) sb) (arrOf s) sa na 0|return false
 let(sa,na):=(sa+k,na-k)
 if na==0 then return true
 let some nb<-ic true (<-elem' (arrOf s) (sa+na-1)) (arrOf s) sb nb (nb-1)|return false
 if nb==0 then return true
 Er sa na sb nb (arrOf s)):=by
 delta Er oE
 rfl
section
variable{α:Type}
theorem tW(base:Nat):∀(l:List Keyed) (n:Nat) (arr:Array Keyed) (U V:List Keyed),arr.toList=U++V->U.length=base+n->l.length<=V.length->((l.zipIdx n).foldl (fun a (p,j)=>a.setIfInBounds (base+j) p) arr).toList=U++(l++V.drop l.length)
 |[],n,arr,U,V,h,_,_=>by simpa using h
 |p::l,n,arr,U,[],h,hU,hV=>by simp at hV
 |p::l,n,arr,U,v::V,h,hU,hV=>by
  rw[List.zipIdx_cons,eG];have h1:(arr.setIfInBounds (base+n) p).toList=(U++[p])++V:=by rw[cw,h,<-hU,List.set_append_right _ _ (aH _),Nat.sub_self,List.set_cons_zero,av];rfl
  have:=tW base l (n+1) (arr.setIfInBounds (base+n) p) (U++[p]) V h1 (by rw[aP,bq];exact fu 0xf11f81f182a1a180a2f21a02f hU) (by simp at hV;exact fk 0xf11100f100f hV);dsimp only;rw[this,av];rfl
end
section
variable{O:KeyOrd}{ky:Keyed->O.α}{M:Model}{A:Around}{E:Value->Shared->Prop}{s:Shared}{a₀:Array Keyed}{κ:SortKind}
noncomputable abbrev sg(arr:Array Keyed)(lo n:Nat):List Keyed:=(arr.toList.drop lo).take n
theorem qC{arr:Array Keyed}{i:Nat}(h:i<arr.size):kk ky arr i=ky (arr[i]):=by
 delta kk
 rw[cH,cR arr i h];rfl
theorem iZ{arr:Array Keyed}{lo n:Nat}(h:lo+n<=arr.size):(sg arr lo n).length=n:=by
 rw[bC,bR,aE];exact fu 0xf110101f101ff118f108ff142f210a0f313021 h
theorem rj{arr:Array Keyed}{lo n i:Nat}(h:lo+n<=arr.size)(hi:i<(sg arr lo n).length):(sg arr lo n)[i]=arr[lo+i]'(by rw[iZ h]at hi;exact gK 0xf111230a1f131210a0f h hi):=by
 rw[eP,List.getElem_drop];rfl
theorem ng{arr:Array Keyed}{lo n:Nat}(h:lo+n<=arr.size):jC ky arr lo n↔(sg arr lo n).Pairwise (jw ky):=by
 constructor
 ·intro hs;refine List.pairwise_iff_getElem.mpr fun i j hi hj hij=>?_;rw[rj h,rj h];have hi':=hi;have hj':=hj;rw[iZ h]at hi' hj';have:=hs (lo+i) (lo+j) (fk 0xf110a00ff) (fu 0xf1112a02a0f101f hij) (fu 0xf1112a02a1f101f hj');rwa [qC (by exact i8 0xf1111230a1f141431210a0f h hij hj'),qC (by exact gK 0xf111230a1f131210a0f h hj')]at this
 ·intro hp i j hi hij hj;rcases a9 i j with hlt|hge
  ·have hh:=List.pairwise_iff_getElem.mp hp (i-lo) (j-lo) (by rw[iZ h];exact gK 0xf11018f111108f341f21130a21100f010 hi hj hlt) (by rw[iZ h];exact gK 0xf1018f111108f341f21130a21100f020 hi hj hlt) (fu 0xf101018f1110108f431f211100f021010 hi hlt);rw[rj h,rj h]at hh;rw[qC (by exact i8 0xf1111241f34110a31210a0f h hj hlt),qC (by exact gK 0xf111231f10a31210a0f h hj)];have e1:lo+(i-lo)=i:=by exact fk 0xf11f110ff18f1108ff120a2f100f010 hi
   have e2:lo+(j-lo)=j:=by exact fu 0xf11f110ff18f11108ff230a2f211100f020 hi hlt
   simp only[e1,e2]at hh;exact hh
  ·obtain rfl:i=j:=by exact fk 0xf101f11f102f010100f hij hge
   exact bF _
theorem lf{arr:Array Keyed}{lo n k:Nat}(hk:k<=n):sg arr lo n=sg arr lo k++sg arr (lo+k) (n-k):=by
 delta sg
 rw[<-dS,<-List.drop_take]
 have e:(arr.toList.drop lo).take k=((arr.toList.drop lo).take n).take k:=by rw[fB,cN hk]
 rw[e,bP]
theorem zz{arr:Array Keyed}{lo n:Nat}:(arr.extract lo (lo+n)).toList=sg arr lo n:=qP arr lo n
theorem vR{A1 X Y B2 m:List Keyed}(h1:(A1++X).Pairwise (jw ky))(h2:(Y++B2).Pairwise (jw ky))(hm:sR (jw ky) (X++Y) m)(hA:∀x∈A1,∀y∈Y++B2,jw ky x y)(hB:∀x∈X,∀y∈B2,jw ky x y):(A1++(m++B2)).Pairwise (jw ky):=by
 refine qd (List.pairwise_append.mp h1) fun p1 p2 p3=>?_
 refine qd (List.pairwise_append.mp h2) fun q1 q2 q3=>?_
 refine List.pairwise_append.mpr ⟨p1,List.pairwise_append.mpr ⟨hm.1,q2,fun x hx y hy=>?_⟩,fun x hx y hy=>?_⟩
 ·rcases aY.mp (hm.2.mem_iff.mp hx)with h|h;·exact hB x h y hy
  ·exact q3 x h y hy
 ·rcases aY.mp hy with h|h
  ·rcases aY.mp (hm.2.mem_iff.mp h)with h|h;·exact p3 x hx y h
   ·exact hA x hx y (cE _ h)
  ·exact hA x hx y (bp _ h)
end
section
variable{O:KeyOrd}{ky:Keyed->O.α}{M:Model}{A:Around}{E:Value->Shared->Prop}{s:Shared}{a₀:Array Keyed}{κ:SortKind}
theorem B5{st st':SortSt}{Q:PUnit->SortSt->Prop}(h:Q ⟨⟩ st'):wpS M A E s (set st':StateT SortSt Sem PUnit) Q st:=by
 delta wpS;rw[StateT.run_set];exact aC ⟨rfl,h⟩
theorem SB.mem'{st:SortSt}(hB:SB a₀ κ st):∀x∈(arrOf st).toList,x∈a₀.toList:=fun x hx=>(Array.perm_iff_toList_perm.mp hB.perm).mem_iff.mp hx
theorem we{arr:Array Keyed}{lo n:Nat}{y:Keyed}(h0:0<n)(hy:arr[lo]?=some y):sg arr lo n=y::sg arr (lo+1) (n-1):=by
 obtain⟨m,rfl⟩:∃m,n=m+1:=⟨n-1,by exact f5 0xf18f1108ff11f110ff181a02f0081f1800 h0⟩
 delta sg
 rw[jj hy,List.take_succ_cons,cO]
theorem Br{arr:Array Keyed}{lo n:Nat}{y:Keyed}(h0:0<n)(hy:arr[lo]?=some y)(hs:(sg arr lo n).Pairwise (jw ky)):∀z∈sg arr lo n,jw ky y z:=fun z hz=>by
 rw[we h0 hy]at hs hz
 rcases ak.mp hz with rfl|hz
 ·exact bF _
 ·exact(List.pairwise_cons.mp hs).1 z hz
theorem BY{arr:Array Keyed}{lo n:Nat}{y:Keyed}(h0:0<n)(hy:arr[lo+n-1]?=some y)(hs:(sg arr lo n).Pairwise (jw ky)):∀z∈sg arr lo n,jw ky z y:=fun z hz=>by
 have e:sg arr lo n=sg arr lo (n-1)++[y]:=by rw[lf (k:=n-1) (by exact f5 0xf11010ff1801)];congr 1;rw[show n-(n-1)=1 by exact f5 0xf181f810ff11081f100810fff118f1008ff1108f10008fff1822f0081f1001800 h0,we (by decide) (by rw[show lo+(n-1)=lo+n-1 by exact fk 0xf118f1008ff1108f10008fff181f1810ff11081f110810fff321a2f0081f1801a01800 h0];exact hy)];rfl
 rw[e]at hs hz
 rcases aY.mp hz with hz|hz
 ·exact(List.pairwise_append.mp hs).2.2 z hz y (aa.mpr rfl)
 ·rw[aa.mp hz];exact bF _
theorem yf{arr:Array Keyed}{lo n:Nat}{x:Keyed}(h:x∈sg arr lo n):x∈arr.toList:=dJ (bU h)
theorem CG{arr m:Array Keyed}{lo n:Nat}(h:lo+n<=arr.size)(hm:m.size=n):(oE lo m.toList arr).toList=arr.toList.take lo++(m.toList++arr.toList.drop (lo+n)):=by
 have:=tW lo m.toList 0 arr (arr.toList.take lo) (arr.toList.drop lo) (bP _ _).symm (by rw[bC,aE];exact fu 0xf1101f101ff118f108ff080a32f210a0f203 h) (by rw[bR,aE,aE];exact gK 0xf81101430f132210a0f021 h hm)
 rw[dS,aE,hm]at this
 exact this
theorem Ct{st:SortSt}{arr:Array Keyed}{sa na nb:Nat}{Q:Bool->SortSt->Prop}(hC:nh M A s ky a₀ κ)(hB:SB a₀ κ st)(hr:arrOf st=arr)(ha:0<na)(hb:0<nb)(hz:sa+na+nb<=arr.size)(s1:(sg arr sa na).Pairwise (jw ky))(s2:(sg arr (sa+na) nb).Pairwise (jw ky))(hf:∀x,arr[sa+na]?=some x->∀y∈sg arr sa na,jw ky x y)(hl:∀x,arr[sa+na-1]?=some x->∀y∈sg arr (sa+na) nb,jw ky y x)(h:∀st' m,m.length=na+nb->sR (jw ky) (sg arr sa na++sg arr (sa+na) nb) m->SB a₀ κ st'->pendingOf st'=pendingOf st->(arrOf st').toList=arr.toList.take sa++(m++arr.toList.drop (sa+(na+nb)))->Q true st'):wpS M A E s (Er sa na (sa+na) nb arr) Q st:=by
 subst hr
 have ex:((arrOf st).extract sa (sa+na)).toList=sg (arrOf st) sa na:=zz
 have ey:((arrOf st).extract (sa+na) (sa+na+nb)).toList=sg (arrOf st) (sa+na) nb:=zz
 have zx:((arrOf st).extract sa (sa+na)).size=na:=by rw[<-aE,ex,iZ (by exact gK 0xf11310a0f3210aa0f hz)]
 have zy:((arrOf st).extract (sa+na) (sa+na+nb)).size=nb:=by rw[<-aE,ey,iZ (by exact gK 0xf113210aa0f3210aa0f hz)]
 have H:MH ky a₀ ((arrOf st).extract sa (sa+na)) ((arrOf st).extract (sa+na) (sa+na+nb)):={
  sa:=by rw[ex];exact s1
  sb:=by rw[ey];exact s2
  ma:=fun x hx=>by rw[ex]at hx;exact hB.mem' x (yf hx)
  mb:=fun x hx=>by rw[ey]at hx;exact hB.mem' x (yf hx)
  first:=fun x hx y hy=>by rw[ex]at hy;rw[<-ab,ey]at hx;refine hf x ?_ y hy;rw[cC,aN hb,cD,ab]at hx;exact hx
  last:=fun x hx y hy=>by rw[ey]at hy;rw[<-ab,ex,zx]at hx;refine hl x ?_ y hy;rw[cC,aN (by exact f5 0xf18f1108f011f0081f1800 ha),cD,ab]at hx;rw[show sa+na-1=sa+(na-1)by exact fk 0xf118f11108ff1108f111008fff181f1810ff108ff31a22f0081f18001801a0 ha];exact hx
  na:=by exact fk 0xf1111081f0120081f ha zx
  nb:=by exact fk 0xf1111081f0120081f hb zy}
 delta Er
 dsimp only
 have fin:∀(r:Array Keyed) (st':SortSt),GS st st'->ls ky ((arrOf st).extract sa (sa+na)) ((arrOf st).extract (sa+na) (sa+na+nb)) r->wpS M A E s (do modify fun s=>setArr s (oE sa r.toList (arrOf s));return(failedOf (<-get)).isNone:StateT SortSt Sem Bool) Q st':=fun r st' G F=>by
  have F:sR (jw ky) (sg (arrOf st) sa na++sg (arrOf st) (sa+na) nb) r.toList:=by have F:sR (jw ky) (((arrOf st).extract sa (sa+na)).toList++((arrOf st).extract (sa+na) (sa+na+nb)).toList) r.toList:=F;rw[ex,ey]at F;exact F
  have hlen:r.toList.length=na+nb:=by rw[F.2.length_eq,aP,iZ (by exact gK 0xf11310a0f3210aa0f hz),iZ (by exact gK 0xf113210aa0f3210aa0f hz)]
  have e:=CG (arr:=arrOf st) (m:=r) (lo:=sa) (n:=na+nb) (gK 0xf11321a0a0f3210aa0f hz) (by rw[<-aE];exact hlen);refine aO (eZ (aO (fA ?_)));have hf0:failedOf st'=none:=G.failed.trans hB.failed;refine aU ?_;show Q (failedOf st').isNone (setArr st' (oE sa r.toList (arrOf st')));rw[hf0,G.arr];refine h _ r.toList hlen F ⟨?_,G.kind.trans hB.kind,hf0⟩ G.pend e;refine Array.Perm.trans (Array.perm_iff_toList_perm.mpr ?_) hB.perm;show(oE sa r.toList (arrOf st)).toList.Perm _;rw[e];have e2:(arrOf st).toList=(arrOf st).toList.take sa++((sg (arrOf st) sa na++sg (arrOf st) (sa+na) nb)++(arrOf st).toList.drop (sa+(na+nb))):=by have:=lf (arr:=arrOf st) (lo:=sa) (n:=na+nb) (k:=na) (fk 0xf110a00ff);rw[bI]at this;rw[<-this,<-dS,bP,bP]
  exact(((F.2.append_right _).append_left _).trans (List.Perm.of_eq e2.symm))
 by_cases hle:na<=nb
 ·rw[aN hle];exact aO (uk hC hB.kind H fun r st' G F=>fin r st' G F)
 ·rw[aL hle];exact aO (u6 hC hB.kind H fun r st' G F=>fin r st' G F)
theorem uK{st:SortSt}{i sa na nb pw q:Nat}{Q:Bool->SortSt->Prop}(hC:nh M A s ky a₀ κ)(hB:SB a₀ κ st)(h1:(pendingOf st)[i]?=some (sa,na,pw))(h2:(pendingOf st)[i+1]?=some (sa+na,nb,q))(ha:0<na)(hb:0<nb)(hz:sa+na+nb<=a₀.size)(s1:jC ky (arrOf st) sa na)(s2:jC ky (arrOf st) (sa+na) nb)(h:∀st',SB a₀ κ st'->jC ky (arrOf st') sa (na+nb)->jh (arrOf st) (arrOf st') sa (na+nb)->pendingOf st'=((pendingOf st).setIfInBounds i (sa,na+nb,pw)).eraseIdxIfInBounds (i+1)->Q true st'):wpS M A E s (mergeAt' i) Q st:=by
 rw[s9]
 refine aO (fA ?_)
 rw[h1,h2]
 dsimp only
 refine aO (B5 ?_)
 have hB1:SB a₀ κ (setPending st (((pendingOf st).setIfInBounds i (sa,na+nb,pw)).eraseIdxIfInBounds (i+1))):=⟨hB.perm,hB.kind,hB.failed⟩
 have hp1:pendingOf (setPending st (((pendingOf st).setIfInBounds i (sa,na+nb,pw)).eraseIdxIfInBounds (i+1)))=((pendingOf st).setIfInBounds i (sa,na+nb,pw)).eraseIdxIfInBounds (i+1):=rfl
 have ha1:arrOf (setPending st (((pendingOf st).setIfInBounds i (sa,na+nb,pw)).eraseIdxIfInBounds (i+1)))=arrOf st:=rfl
 generalize setPending st (((pendingOf st).setIfInBounds i (sa,na+nb,pw)).eraseIdxIfInBounds (i+1))=st1 at hB1 hp1 ha1|-
 generalize((pendingOf st).setIfInBounds i (sa,na+nb,pw)).eraseIdxIfInBounds (i+1)=pend at hp1 h
 have hsz:=hB.size
 generalize arrOf st=arr at*
 rw[ng (by lia)]at s1
 rw[ng (by lia)]at s2
 have whole:(∀x∈sg arr sa na,∀y∈sg arr (sa+na) nb,jw ky x y)->Q true st1:=fun hxy=>by refine h st1 hB1 ?_ (by rw[ha1];exact jh.refl _ _ _) hp1;rw[ha1,ng (by exact i8 0xf111421a0a0f3423210aa0f hz hsz),lf (k:=na) (by exact fk 0xf110a00ff),bI];exact List.pairwise_append.mpr ⟨s1,s2,hxy⟩
 refine aO (gx (i8 0xf1111421a1f3423021aa00081f hb hz hsz) fun y hy=>?_)
 refine aO (nt (ky:=ky) (L:=sg arr sa na) hC hB1.kind (by rw[<-ha1]at hy;exact hB1.mem' _ (jd hy)) (by rw[<-ha1];exact hB1.mem') (i8 0xf111410a0f3423210aa0f hz hsz) rfl s1 ha fun k k1 k2 k3=>?_)
 dsimp only
 have hyl:=Br hb hy s2
 by_cases e1:na-k=0
 ·rw[aN (by simpa using e1)];obtain rfl:k=na:=by exact fk 0xf80101f1001f102f0822100f011 k1 e1
  rw[ao (by rw[iZ (by exact i8 0xf111032a0f1432aa0102f hsz hz)];exact aH _)]at k2;exact aU (whole fun x hx z hz=>iC (k2 x hx) (hyl z hz))
 ·rw[aL (by simpa using e1)];have ei:sa+k+(na-k)-1=sa+na-1:=by exact fu 0xf1118f10008ff11108f100008fff11018f100008ff110108f1000008ffff1881f18810ff1008ff110881f1108810ff10008fff542f100f1812a018302aa0010 k1
  rw[ei];refine aO (gx (i8 0xf111011451f3423021aa00081f1821a1 hb hz hsz) fun z hz'=>?_);refine aO (nt (ky:=ky) (L:=sg arr (sa+na) nb) hC hB1.kind (by rw[<-ha1]at hz';exact hB1.mem' _ (jd hz')) (by rw[<-ha1];exact hB1.mem') (i8 0xf1114210aa0f3423210aa0f hz hsz) rfl s2 (f5 0xf18f1108f011f0081f1800 hb) fun k' l1 l2 l3=>?_);dsimp only;have hzl:=BY ha hz' s1;by_cases e2:k'=0;·rw[aN (by simpa using e2)];subst e2;exact aU (whole fun x hx u hu=>iC (hzl x hx) (l3 u hu))
  ·rw[aL (by simpa using e2)];have d1:sg arr sa na=sg arr sa k++sg arr (sa+k) (na-k):=lf k1;have d2:sg arr (sa+na) nb=sg arr (sa+na) k'++sg arr (sa+na+k') (nb-k'):=lf l1;have t1:(sg arr sa na).take k=sg arr sa k:=by rw[d1,List.take_append_of_le_length (by rw[iZ (by exact jr 0xf1111450a0f1503423210aa0f hz hsz k1)];exact aH _),ao (by rw[iZ (by exact jr 0xf1111450a0f1503423210aa0f hz hsz k1)];exact aH _)]
   have t2:(sg arr sa na).drop k=sg arr (sa+k) (na-k):=by rw[d1,dX (by rw[iZ (by exact jr 0xf1111450a0f1503423210aa0f hz hsz k1)];exact aH _),b0 (by rw[iZ (by exact jr 0xf1111450a0f1503423210aa0f hz hsz k1)];exact aH _),cA]
   have t3:(sg arr (sa+na) nb).take k'=sg arr (sa+na) k':=by rw[d2,List.take_append_of_le_length (by rw[iZ (by exact jr 0xf11114510aa0f2503423210aa0f hz hsz l1)];exact aH _),ao (by rw[iZ (by exact jr 0xf11114510aa0f2503423210aa0f hz hsz l1)];exact aH _)]
   have t4:(sg arr (sa+na) nb).drop k'=sg arr (sa+na+k') (nb-k'):=by rw[d2,dX (by rw[iZ (by exact jr 0xf11114510aa0f2503423210aa0f hz hsz l1)];exact aH _),b0 (by rw[iZ (by exact jr 0xf11114510aa0f2503423210aa0f hz hsz l1)];exact aH _),cA]
   rw[t1]at k2;rw[t2]at k3;rw[t3]at l2;rw[t4]at l3;have s1':=s1;have s2':=s2;rw[d1]at s1';rw[d2]at s2';have e3:sa+k+(na-k)=sa+na:=by exact fu 0xf101f80100018f811000108ff01a321aa2f5420081f1801a018321aa1201 ha ei
   have go:=Ct (st:=st1) (arr:=arr) (sa:=sa+k) (na:=na-k) (nb:=k') (Q:=Q) (E:=E) hC hB1 ha1 (fk 0xf1f11f2081f08226f101 e1) (f5 0xf1f11f0081f08026f e2) (uH 0xf8111001450760aaa0f10a0760aa22503423210aa0f611 hz hsz l1 e3) (List.pairwise_append.mp s1').2.1 (by rw[e3];exact(List.pairwise_append.mp s2').1) (fun x hx u hu=>by rw[e3,hy]at hx;cases hx;exact k3 u hu) (fun x hx u hu=>by rw[e3,hz']at hx;cases hx;rw[e3]at hu;exact l2 u hu) fun st' m hml F hB' hp' hr'=>?_;·rw[e3]at go;exact go
   ·rw[e3]at F;have em:sa+k+(na-k+k')=sa+na+k':=by exact gK 0xf101f8001f320aa34a10aa2f20a410aa2f121 e3
    rw[em]at hr';have hsz':(arrOf st').size=arr.size:=by rw[hB'.size,hsz]
    refine h st' hB' ?_ ?_ (hp'.trans hp1)
    ·rw[ng (by exact jr 0xf1111521a0a0f4523423210aa0f hz hsz hsz')];have e4:sg (arrOf st') sa (na+nb)=sg arr sa k++(m++sg arr (sa+na+k') (nb-k')):=by
      show((arrOf st').toList.drop sa).take (na+nb)=_;have lt:(arr.toList.take (sa+k)).length=sa+k:=by rw[bC,aE];exact jr 0xf111101f101ff118f108ff50a62f1503423210aa0f450a3 hz hsz k1
      rw[hr',dX (by exact fu 0xf11010f21a02f lt),List.drop_take,bI];have lA:(sg arr sa k).length=k:=iZ (jr 0xf1111450a0f1503423210aa0f hz hsz k1);rw[List.take_append,lA,ao (by rw[lA];exact fu 0xf1121a00f100f k1),List.take_append,hml,ao (l:=m) (by exact jr 0xf88100101650f007a5242a0732aa2100f341314a1 l1 e3 hml)];rw[show na+nb-k-(na-k+k')=nb-k' by exact i8 0xf80001118f10008ff800011108f100008fff8100010ff101881f1018810ff1008ff8100010ff17072f31a621aa20081f40046a50231203a0 hb e3]
     rw[e4];exact vR s1' s2' F (fun x hx u hu=>iC (k2 x hx) (hyl u (by rw[d2];exact hu))) fun x hx u hu=>iC (hzl x (by rw[d1];exact bp _ hx)) (l3 u hu)
    ·intro i hi;rw[<-ab,<-ab,hr'];have lt:(arr.toList.take (sa+k)).length=sa+k:=by rw[bC,aE];exact jr 0xf111101f101ff118f108ff50a62f1503423210aa0f450a3 hz hsz k1
     rcases hi with hi|hi;·rw[dC (by exact gK 0xf111031f13121a02f lt hi),cC,aN (by exact fu 0xf1121a01f101f hi)]
     ·rw[ba (by exact jr 0xf1811520f541a3a003a22100f k1 lt hi),lt,ba (by exact uH 0xf1881001010750f614a2a0017a5242a1732aa2100f34132a61 l1 e3 hml hi),hml,cD];congr 1;exact jr 0xf80000111f800001110ff80000110ff10188f1010001008ff180100010ff517142aaa2f504a2a042a0732aa20100081f107a6034132a50 hb l1 e3 hi
end
section
variable{O:KeyOrd}{ky:Keyed->O.α}{M:Model}{A:Around}{E:Value->Shared->Prop}{s:Shared}{a₀:Array Keyed}{κ:SortKind}
def PD(ky:Keyed->O.α)(arr:Array Keyed):Nat->List (Nat×Nat×Nat)->Nat->Prop
 |a,[],e=>a=e
 |a,(b,n,_)::r,e=>b=a/\0<n/\jC ky arr a n/\PD ky arr (a+n) r e
theorem PD.le{arr:Array Keyed}{e:Nat}:∀{L:List (Nat×Nat×Nat)}{a:Nat},PD ky arr a L e->a+L.length<=e
 |[],a,h=>by have h:a=e:=h;simp;exact fk 0xf81100f102f h
 |(b,n,q)::r,a,h=>by obtain⟨h1,h2,h3,h4⟩:=h;have:=PD.le h4;rw[aM];exact gK 0xf1113182a1a0f3201aa00081f h2 this
theorem n5{arr arr':Array Keyed}{lo n a m:Nat}(h:jh arr arr' lo n)(hs:jC ky arr a m)(hd:a+m<=lo\/lo+n<=a):jC ky arr' a m:=fun i j hi hij hj=>by
 rw[kH (h i (by exact jr 0xf1101f110011f154a04118f054a0430a0830a21210100f hi hij hj hd)),kH (h j (by exact jr 0xf11101f100011f254a04218f054a0430a0830a21210100f hi hij hj hd))]
 exact hs i j hi hij hj
theorem PD.same{arr arr':Array Keyed}{lo n e:Nat}(h:jh arr arr' lo n):∀{L:List (Nat×Nat×Nat)}{a:Nat},PD ky arr a L e->(e<=lo\/lo+n<=a)->PD ky arr' a L e
 |[],a,h1,_=>h1
 |(b,m,q)::r,a,h1,hd=>by have hle:=h1.le;obtain⟨h1,h2,h3,h4⟩:=h1;have hle2:=PD.le h4;exact⟨h1,h2,n5 h h3 (jr 0xf101f1011f054a0410a08f054a043083210aa0f hle2 hd),PD.same h h4 (i8 0xf101f11f43a21a01008f321a01008f hd)⟩
theorem PD.snoc{arr:Array Keyed}{lo n p:Nat}(hn:0<n)(hs:jC ky arr lo n):∀{L:List (Nat×Nat×Nat)}{a:Nat},PD ky arr a L lo->PD ky arr a (L++[(lo,n,p)]) (lo+n)
 |[],a,h=>by have h:a=lo:=h;subst h;exact⟨rfl,hn,hs,rfl⟩
 |(b,m,q)::r,a,h=>⟨h.1,h.2.1,h.2.2.1,PD.snoc hn hs h.2.2.2⟩
theorem PD.power{arr:Array Keyed}{e:Nat}{f:Nat×Nat×Nat->Nat×Nat×Nat}(hf:∀x,(f x).1=x.1/\(f x).2.1=x.2.1):∀{L:List (Nat×Nat×Nat)}{a:Nat}(i:Nat),PD ky arr a L e->PD ky arr a (L.modify i f) e
 |[],a,i,h=>by cases i<;>exact h
 |x::r,a,0,h=>by rw[List.modify_zero_cons];obtain⟨b,n,q⟩:=x;obtain⟨e1,e2⟩:=hf (b,n,q);generalize f (b,n,q)=y at e1 e2;obtain⟨b',n',q'⟩:=y;simp only at e1 e2;subst e1 e2;exact h
 |x::r,a,i+1,h=>by rw[List.modify_succ_cons];exact⟨h.1,h.2.1,h.2.2.1,PD.power hf i h.2.2.2⟩
theorem PD.pair{arr:Array Keyed}{e sa na pw sb nb q:Nat}:∀{L:List (Nat×Nat×Nat)}{a i:Nat},PD ky arr a L e->L[i]?=some (sa,na,pw)->L[i+1]?=some (sb,nb,q)->a<=sa/\sb=sa+na/\0<na/\0<nb/\sa+na+nb<=e/\jC ky arr sa na/\jC ky arr (sa+na) nb/\∀arr',jh arr arr' sa (na+nb)->jC ky arr' sa (na+nb)->PD ky arr' a ((L.set i (sa,na+nb,pw)).eraseIdx (i+1)) e
 |x::y::r,a,0,h,h1,h2=>by cases h1;cases h2;obtain⟨rfl,n1,s1,rfl,n2,s2,h3⟩:=h;have:=h3.le;refine⟨aH _,rfl,n1,n2,by exact i8 0xf114210aa0f43210aaa0f this,s1,s2,fun arr' hS hs=>⟨rfl,by exact fk 0xf1101a081f0081f n2,hs,?_⟩⟩;rw[<-Nat.add_assoc];exact h3.same hS (.inr (fu 0xf1210aa21a0a0ff))
 |[x],a,0,h,h1,h2=>by cases h2
 |x::r,a,i+1,h,h1,h2=>by obtain⟨e1,n1,s1,h3⟩:=h;refine Fu (PD.pair h3 h1 h2) fun p0 p1 p2 p3 p4 p5 p6 p7=>?_;refine⟨by exact fu 0xf11200f210a0f p0,p1,p2,p3,p4,p5,p6,fun arr' hS hs=>⟨e1,n1,n5 hS s1 (.inl (fu 0xf11210a0f210a0f p0)),p7 arr' hS hs⟩⟩
structure SR(ky:Keyed->O.α)(a₀:Array Keyed)(κ:SortKind)(lo:Nat)(st:SortSt):Prop where
 sb:SB a₀ κ st
 pd:PD ky (arrOf st) 0 (pendingOf st).toList lo
 le:lo<=a₀.size
theorem pZ{st:SortSt}{lo i:Nat}{Q:Bool->SortSt->Prop}(hC:nh M A s ky a₀ κ)(R:SR ky a₀ κ lo st)(hi:i+1<(pendingOf st).size)(h:∀st',SR ky a₀ κ lo st'->(pendingOf st').size+1=(pendingOf st).size->jh (arrOf st) (arrOf st') 0 lo->Q true st'):wpS M A E s (mergeAt' i) Q st:=by
 obtain⟨hB,hp,hle⟩:=R
 obtain⟨⟨sa,na,pw⟩,e1⟩:∃x,(pendingOf st)[i]?=some x:=⟨_,cR (pendingOf st) i (fk 0xf11101f1180a1f hi)⟩
 obtain⟨⟨sb,nb,q⟩,e2⟩:∃x,(pendingOf st)[i+1]?=some x:=⟨_,cR (pendingOf st) (i+1) hi⟩
 have e1':=e1;have e2':=e2
 rw[<-ab]at e1' e2'
 refine Fu (hp.pair e1' e2') ?_;rintro p0 rfl p2 p3 p4 p5 p6 p7
 refine uK hC hB e1 e2 p2 p3 (i8 0xf1111432aa0f0432aa0100f hle p4) p5 p6 fun st' b1 b2 b3 b4=>h st' ⟨b1,?_,hle⟩ ?_ (fun j hj=>b3 j (i8 0xf1101f1f421a0a00418f4308a0084183210aa0f p4 hj))
 ·rw[b4,Array.toList_eraseIdxIfInBounds,cw];exact p7 _ b3 b2
 ·rw[b4,<-aE,Array.toList_eraseIdxIfInBounds,cw,List.length_eraseIdx,aN (by rw[List.length_set,aE];exact hi),List.length_set,aE];exact fk 0xf11f110ff18f1108ff1182a2f1180a1f1810 hi
theorem PD.one{arr:Array Keyed}{e:Nat}{L:List (Nat×Nat×Nat)}(h:PD ky arr 0 L e)(he:0<e)(hl:L.length<=1):jC ky arr 0 e:=by
 match L,h with
 |[],h=>have h:0=e:=h;exact(f5 0xf119f00820081f he h).elim
 |[(b,n,q)],h=>
  obtain⟨h1,h2,h3,h4⟩:=h;have h4:0+n=e:=h4;obtain rfl:n=e:=by exact fk 0xf11f81f102f1008a2f h4
  exact h3
 |_::_::_,h=>simp at hl
noncomputable def rX(size lo n:Nat):StateT SortSt Sem (ForInStep (Option Unit×Nat)):=do
 let s<-get
 match(pendingOf s).back? with
 |some (s1,n1,_)=>do
  let r<-forIn [0:size] ((none,()):Option Unit×Unit) fun _ _=>do
   let s<-get match(if(pendingOf s).size>1 then(pendingOf s)[(pendingOf s).size-2]? else none)with
   |some (_,_,older)=>if older<=power' size (2*s1+n1) (2*s1+n1+n1+n) size then pure (.done (none,()))else do let b<-mergeAt' ((pendingOf s).size-2)if(!b)=true then pure (.done (some (),()))else pure (.yield (none,()))|_=>pure (.done (none,()))
  match r.1 with|some r=>pure (.done (some r,lo))|none=>do modify fun s=>setPending s ((pendingOf s).modify ((pendingOf s).size-1) fun x=>(x.1,x.2.1,power' size (2*s1+n1) (2*s1+n1+n1+n) size))modify fun s=>setPending s ((pendingOf s).push (lo,n,0))pure (.yield (none,lo+n))
 |_=>do modify fun s=>setPending s ((pendingOf s).push (lo,n,0))pure (.yield (none,lo+n))
theorem SR.push{st:SortSt}{lo n:Nat}(R:SR ky a₀ κ lo st)(hn:0<n)(hz:lo+n<=a₀.size)(hs:jC ky (arrOf st) lo n):SR ky a₀ κ (lo+n) (setPending st ((pendingOf st).push (lo,n,0)))where
 sb:=⟨R.sb.perm,R.sb.kind,R.sb.failed⟩
 pd:=by show PD ky (arrOf st) 0 ((pendingOf st).push (lo,n,0)).toList (lo+n);rw[cX];exact R.pd.snoc hn hs
 le:=hz
theorem sq{st:SortSt}{lo n:Nat}{Q:ForInStep (Option Unit×Nat)->SortSt->Prop}(hC:nh M A s ky a₀ κ)(R:SR ky a₀ κ lo st)(hn:0<n)(hz:lo+n<=a₀.size)(hs:jC ky (arrOf st) lo n)(h:∀st',SR ky a₀ κ (lo+n) st'->Q (.yield (none,lo+n)) st'):wpS M A E s (rX a₀.size lo n) Q st:=by
 delta rX
 refine aO (fA ?_)
 cases(pendingOf st).back? with
 |none=>exact aO (eZ (aU (h _ (R.push hn hz hs))))
 |some x=>
  obtain⟨s1,n1,_⟩:=x;dsimp only;generalize power' a₀.size (2*s1+n1) (2*s1+n1+n1+n) a₀.size=pw;refine aO (cF (bh (I:=fun _ c st'=>c=(none,())/\SR ky a₀ κ lo st'/\jC ky (arrOf st') lo n) (Q:=fun c st'=>c=(none,())/\SR ky a₀ κ lo st'/\jC ky (arrOf st') lo n) ?step (fun _ _ hh=>hh) ⟨rfl,R,hs⟩) ?post);case step=>
   rintro x c st' _ _ ⟨rfl,R',hs'⟩;refine aO (fA ?_);by_cases h1:(pendingOf st').size>1
   ·rw[aN h1];obtain⟨⟨u,v,older⟩,e⟩:∃x,(pendingOf st')[(pendingOf st').size-2]?=some x:=⟨_,cR (pendingOf st') _ (f5 0xf18f1108f011f0181f2800 h1)⟩;rw[e];dsimp only;split;·exact aU ⟨rfl,R',hs'⟩
    ·refine aO (pZ hC R' (f5 0xf18f1108f0181a1f0181f2800 h1) fun st2 R2 _ hS=>?_);simp only[dL,ae,bZ];exact aU ⟨rfl,R2,n5 hS hs' (.inr (f5 0xf10008a0ff))⟩
   ·rw[aL h1];exact aU ⟨rfl,R',hs'⟩
  case post=>
   rintro c st' ⟨rfl,R',hs'⟩;dsimp only;refine aO (eZ (aO (eZ (aU (h _ ?_)))));have R2:SR ky a₀ κ lo (setPending st' ((pendingOf st').modify ((pendingOf st').size-1) fun x=>(x.1,x.2.1,pw))):=by refine⟨⟨R'.sb.perm,R'.sb.kind,R'.sb.failed⟩,?_,R'.le⟩;show PD ky (arrOf st') 0 ((pendingOf st').modify ((pendingOf st').size-1) fun x=>(x.1,x.2.1,pw)).toList lo;rw[Array.toList_modify];exact R'.pd.power (f:=fun x=>(x.1,x.2.1,pw)) (fun _=>⟨rfl,rfl⟩) _
   exact R2.push hn hz hs'
theorem Dk{p:Prop}[Decidable p]{n:Nat}(h:1<n):(if p then n-2-1 else n-2)+1<n:=by
 by_cases q:p
 ·rw[aN q];exact f5 0xf118f101108f0182a1f0181f18112800 h
 ·rw[aL q];exact f5 0xf18f1108f0181a1f0181f2800 h
theorem zt{α:Type}{m m':StateT SortSt Sem α}{st:SortSt}{Q:α->SortSt->Prop}(e:m=m')(h:wpS M A E s m' Q st):wpS M A E s m Q st:=e▸h
theorem AH{st:SortSt}{Q:Unit->SortSt->Prop}(hC:nh M A s ky a₀ κ)(hB:SB a₀ κ st)(hp:pendingOf st=#[])(h2:2<=a₀.size)(h:∀st',SB a₀ κ st'->jC ky (arrOf st') 0 a₀.size->Q () st'):wpS M A E s sortRuns' Q st:=by
 rw[sortRuns'_eq]
 refine aO (fA ?_)
 dsimp only
 simp only[hB.size]
 generalize minRun' a₀.size a₀.size 0=mr
 refine aO (cF (bh (I:=fun x c st'=>∃lo,c=(none,lo)/\SR ky a₀ κ lo st'/\(x<=lo\/lo=a₀.size)) (Q:=fun c st'=>c=(none,a₀.size)/\SR ky a₀ κ a₀.size st') ?step ?fin ⟨0,rfl,⟨hB,by rw[hp];rfl,aV _⟩,.inl (aH _)⟩) ?post)
 case fin=>
  rintro c st' ⟨lo,rfl,R,hx⟩;have e:max 0 a₀.size=a₀.size:=eQ _;have:=R.le;obtain rfl:lo=a₀.size:=by exact fk 0xf1001f1011ff110ff101f012f0121208010022f0084 e this hx
  exact⟨rfl,R⟩
 case step=>
  rintro x c st' _ hx ⟨lo,rfl,R,hxl⟩;dsimp only;by_cases hge:lo>=a₀.size
  ·rw[aN hge];have:=R.le;obtain rfl:lo=a₀.size:=by exact fk 0xf11f101f012f010100f hge this
   exact aU ⟨rfl,R⟩
  ·rw[aL hge];refine aO (yy hC (fk 0xf18f1108f021a0f1006f100 hge) (fk 0xf11012180f1006f101 hge) R.sb fun m st2 hB2 hm1 hm2 hs2 hS2 hp2 _=>?_);dsimp only;have R2:SR ky a₀ κ lo st2:=⟨hB2,by rw[hp2];exact R.pd.same hS2 (.inl (aH _)),R.le⟩;by_cases hlt:m<mr
   ·rw[aN hlt];refine aO (fU (ce ⟨rfl,?_⟩));refine aO (Cr hC (n:=min (a₀.size-lo) mr) (fu 0xf1818f1808ff1010f041a0f1006f233100 hge) (gK 0xf1000101f100101f500f301400f343211 hm2 hlt) hB2 hs2 fun st3 hB3 hs3 hS3 hp3 _=>?_);simp only[dL,ae,bZ];refine zt (m':=rX a₀.size lo (min (a₀.size-lo) mr)) (by delta rX;refine xp fun s=>?_;cases(pendingOf s).back? with
     |none=>rfl|some x=>
      obtain⟨s1,n1,q⟩:=x;refine tq (Ce fun _i r=>xp fun s=>?_) fun r=>?_
      ·generalize(if(pendingOf s).size>1 then(pendingOf s)[(pendingOf s).size-2]? else none)=o;cases o with|none=>rfl|some x=>rfl
      ·obtain⟨r,u⟩:=r;cases r<;>rfl) ?_;exact sq hC ⟨hB3,by rw[hp3];exact R2.pd.same hS3 (.inl (aH _)),R.le⟩ (gK 0xf1000101f110101f5081f3211006f343101 hge hlt) (fu 0xf1818f1808ff1010f041a0f1006f233100 hge) hs3 fun st4 R4=>⟨_,rfl,R4,.inl (i8 0xf11001011f10001011ff110101f64a180a0f1424008321101f353411 hx hlt hxl)⟩
   ·rw[aL hlt];refine zt (m':=rX a₀.size lo m) (by delta rX;refine xp fun s=>?_;cases(pendingOf s).back? with
     |none=>rfl|some x=>
      obtain⟨s1,n1,q⟩:=x;refine tq (Ce fun _i r=>xp fun s=>?_) fun r=>?_
      ·generalize(if(pendingOf s).size>1 then(pendingOf s)[(pendingOf s).size-2]? else none)=o;cases o with|none=>rfl|some x=>rfl
      ·obtain⟨r,u⟩:=r;cases r<;>rfl) ?_;exact sq hC R2 (f5 0xf110081f0180f hm1) (fu 0xf1018f11108f021a0f3201006f100 hge hm2) hs2 fun st4 R4=>⟨_,rfl,R4,.inl (gK 0xf1111f1011f23a180a0f13230082180101f hx hm1 hxl)⟩
 case post=>
  rintro c st' ⟨rfl,R⟩;dsimp only;have hcount:=R.pd.le;rw[d7,aE]at hcount;refine aO (cF (bh (I:=fun x c st'=>c=(none,())/\SR ky a₀ κ a₀.size st'/\((pendingOf st').size+x<=a₀.size\/(pendingOf st').size<=1)) (Q:=fun c st'=>c=(none,())/\SR ky a₀ κ a₀.size st'/\(pendingOf st').size<=1) ?step2 ?fin2 ⟨rfl,R,.inl hcount⟩) ?post2);case fin2=>rintro c st2 ⟨rfl,R2,hx⟩;have e:max 0 a₀.size=a₀.size:=eQ _;exact⟨rfl,R2,by exact fk 0xf1001f1011ff1001f1101ff1810f1810021a08022f0084 e hx⟩
  case step2=>
   rintro x c st2 _ _ ⟨rfl,R2,hx⟩;refine aO (fA ?_);by_cases h1:(pendingOf st2).size<=1
   ·rw[aN h1];exact aU ⟨rfl,R2,h1⟩
   ·rw[aL h1];refine aO (pZ hC R2 (Dk (f5 0xf110181f18006f h1)) fun st3 R3 hsz _=>?_);simp only[dL,ae,bZ];exact aU ⟨rfl,R3,by exact gK 0xf8101f8011f18003182a0a08f1810321a081180a2f hsz hx⟩
  case post2=>rintro c st2 ⟨rfl,R2,h1⟩;exact aU (h _ R2.sb (R2.pd.one (f5 0xf110081f0280f h2) (by rw[aE];exact h1)))
end
noncomputable abbrev pX:Addr:=135
mutual
inductive gF(bad:Addr->Prop)(h:Heap):PyData->Value->Prop
 |none:gF bad h .none .none
 |bool (b:Bool):gF bad h (.bool b) (.bool b)
 |int (i:Int) (t:Tok):gF bad h (.int i) (.int i t)
 |str (x:Str) (t:Tok):gF bad h (.str x) (.str x t)
 |list {a:Addr}{vs:Array Value}{n:Nat}{xs:List PyData}:¬bad a->h.get? a=some {cls:=.type "list",data:=.seq vs n}->RepL bad h xs vs.toList->gF bad h (.list xs) (.ref a)
 |tuple {a:Addr}{vs:Array Value}{n:Nat}{xs:List PyData}:¬bad a->h.get? a=some {cls:=.type "tuple",data:=.seq vs n}->RepL bad h xs vs.toList->gF bad h (.tuple xs) (.ref a)
 /--an object of the class Match (a tuple of its own class) -/
 |mt {a:Addr}{dd:Option Addr}{vs:Array Value}{n:Nat}{xs:List PyData}:¬bad a->h.get? a=some {cls:=.ref pX,dict:=dd,data:=.seq vs n}->RepL bad h xs vs.toList->gF bad h (.dict [(.none,.tuple xs)]) (.ref a)
inductive RepL (bad:Addr->Prop) (h:Heap):List PyData->List Value->Prop
 |nil:RepL bad h [] []
 |cons {d:PyData}{ds:List PyData}{v:Value}{vs:List Value}:gF bad h d v->RepL bad h ds vs->RepL bad h (d::ds) (v::vs)
end
def iN(bad:Addr->Prop)(h h':Heap):Prop:=∀b o vs n,¬bad b->h.get? b=some o->o.data=.seq vs n->h'.get? b=some o
theorem RepL.ind{bad:Addr->Prop}{h:Heap}{P:List PyData->List Value->Prop}(nil:P [] [])(cons:∀{d ds v vs},gF bad h d v->RepL bad h ds vs->P ds vs->P (d::ds) (v::vs)){ds:List PyData}{vs:List Value}(r:RepL bad h ds vs):P ds vs:=
 RepL.rec (motive_1:=fun _ _ _=>True) (motive_2:=fun ds vs _=>P ds vs) trivial (fun _=>trivial) (fun _ _=>trivial) (fun _ _=>trivial) (fun _ _ _ _=>trivial) (fun _ _ _ _=>trivial) (fun _ _ _ _=>trivial) nil (fun a b _ ih=>cons a b ih) r
noncomputable def F0(k:List (PyData×PyData)):List PyData:=List.casesOn k [] fun p _=>PyData.casesOn p.2 [] (fun _=>[]) (fun _=>[]) (fun _=>[]) (fun _=>[]) id fun _=>[]
def RS(bad:Addr->Prop)(h:Heap)(c:Value)(xs:List PyData)(P:Value->Prop):Prop:=∀a vs n,¬bad a->h.get? a=some {cls:=c,data:=.seq vs n}->RepL bad h xs vs.toList->P (.ref a)
def RI(bad:Addr->Prop)(h:Heap)(d:PyData)(v:Value):Prop:=∀P:Value->Prop,@PyData.casesOn (fun _=>Prop) d (P .none) (fun b=>P (.bool b)) (fun i=>∀t,P (.int i t)) (fun x=>∀t,P (.str x t)) (fun xs=>RS bad h (.type "list") xs P) (fun xs=>RS bad h (.type "tuple") xs P)
 (fun k=>∀a dd vs n,¬bad a->h.get? a=some {cls:=.ref pX,dict:=dd,data:=.seq vs n}->RepL bad h (F0 k) vs.toList->P (.ref a))->P v
def F4(bad:Addr->Prop)(h:Heap)(ds:List PyData)(L:List Value):Prop:=∀P:List Value->Prop,@List.casesOn _ (fun _=>Prop) ds (P []) (fun d ds=>∀v vs,gF bad h d v->RepL bad h ds vs->P (v::vs))->P L
section
variable{bad:Addr->Prop}{h:Heap}{d e:PyData}{ds xs:List PyData}{v:Value}{L vs:List Value}{P:Value->Prop}{PL:List Value->Prop}{i:Int}{b:Bool}{x:Str}
theorem gF.inv(q:gF bad h d v):RI bad h d v:=gF.rec (motive_1:=fun d v _=>RI bad h d v) (motive_2:=fun _ _ _=>True) (fun _ H=>H) (fun _ _ H=>H) (fun _ t _ H=>H t) (fun _ t _ H=>H t) (fun a b c _ _ H=>H _ _ _ a b c) (fun a b c _ _ H=>H _ _ _ a b c) (fun a b c _ _ H=>H _ _ _ _ a b c) trivial (fun _ _ _ _=>trivial) q
theorem RepL.invP(q:RepL bad h ds L):F4 bad h ds L:=q.ind (fun _ H=>H) fun a b _ _ H=>H _ _ a b
@[elab_as_elim]theorem RepL.consE (q:RepL bad h (d::ds) L) (H:∀v vs,gF bad h d v->RepL bad h ds vs->PL (v::vs)):PL L:=q.invP PL H
@[elab_as_elim]theorem RepL.nilE (q:RepL bad h [] L) (H:PL []):PL L:=q.invP PL H
theorem RepL.inv(q:RepL bad h (d::ds) L):∃v vs,L=v::vs/\gF bad h d v/\RepL bad h ds vs:=q.consE fun v vs a b=>⟨v,vs,rfl,a,b⟩
theorem RepL.inv2(q:RepL bad h (d::ds) (v::vs)):gF bad h d v/\RepL bad h ds vs:=q.invP (fun L=>List.casesOn L True fun v vs=>gF bad h d v/\RepL bad h ds vs) fun _ _ a b=>⟨a,b⟩
@[elab_as_elim]theorem RepL.oneE (q:RepL bad h [d] L) (H:∀v,gF bad h d v->PL [v]):PL L:=q.consE fun v _ a b=>b.nilE (H v a)
@[elab_as_elim]theorem RepL.twoE (q:RepL bad h [d,e] L) (H:∀v w,gF bad h d v->gF bad h e w->PL [v,w]):PL L:=q.consE fun v _ a b=>b.oneE fun w c=>H v w a c
@[elab_as_elim]theorem gF.intE (q:gF bad h (.int i) v) (H:∀t,P (.int i t)):P v:=q.inv P H
@[elab_as_elim]theorem gF.boolE (q:gF bad h (.bool b) v) (H:P (.bool b)):P v:=q.inv P H
@[elab_as_elim]theorem gF.noneE (q:gF bad h .none v) (H:P .none):P v:=q.inv P H
@[elab_as_elim]theorem gF.strE (q:gF bad h (.str x) v) (H:∀t,P (.str x t)):P v:=q.inv P H
@[elab_as_elim]theorem gF.listE (q:gF bad h (.list xs) v) (H:∀a vs n,¬bad a->h.get? a=some {cls:=.type "list",data:=.seq vs n}->RepL bad h xs vs.toList->P (.ref a)):P v:=q.inv P H
@[elab_as_elim]theorem gF.tupE (q:gF bad h (.tuple xs) v) (H:∀a vs n,¬bad a->h.get? a=some {cls:=.type "tuple",data:=.seq vs n}->RepL bad h xs vs.toList->P (.ref a)):P v:=q.inv P H
@[elab_as_elim]theorem gF.mtE (q:gF bad h (.dict [(.none,.tuple xs)]) v) (H:∀a dd vs n,¬bad a->h.get? a=some {cls:=.ref pX,dict:=dd,data:=.seq vs n}->RepL bad h xs vs.toList->P (.ref a)):P v:=q.inv P H
theorem RepL.inv0(q:RepL bad h [] L):L=[]:=q.nilE rfl
theorem gF.invI(q:gF bad h (.int i) v):∃t,v=.int i t:=q.intE fun t=>⟨t,rfl⟩
theorem gF.invB(q:gF bad h (.bool b) v):v=.bool b:=q.boolE rfl
theorem gF.invN(q:gF bad h .none v):v=.none:=q.noneE rfl
end
section
variable{bad bad':Addr->Prop}{h h':Heap}(k:∀a o vs n,¬bad a->h.get? a=some o->o.data=.seq vs n->¬bad' a/\h'.get? a=some o)
include k
theorem gF.map{d:PyData}{v:Value}(r:gF bad h d v):gF bad' h' d v:=
 gF.rec (motive_1:=fun d v _=>gF bad' h' d v) (motive_2:=fun ds vs _=>RepL bad' h' ds vs) .none .bool .int .str (fun hb ho _ ih=>have q:=k _ _ _ _ hb ho rfl;.list q.1 q.2 ih) (fun hb ho _ ih=>have q:=k _ _ _ _ hb ho rfl;.tuple q.1 q.2 ih) (fun hb ho _ ih=>have q:=k _ _ _ _ hb ho rfl;.mt q.1 q.2 ih) .nil (fun _ _ a b=>.cons a b) r
theorem RepL.map{ds:List PyData}{vs:List Value}(r:RepL bad h ds vs):RepL bad' h' ds vs:=r.ind .nil fun a _ ih=>.cons (a.map k) ih
end
theorem iN.map{bad:Addr->Prop}{h h':Heap}(k:iN bad h h'):∀a o vs n,¬bad a->h.get? a=some o->o.data=.seq vs n->¬bad a/\h'.get? a=some o:=fun a o vs n hb e ed=>⟨hb,k a o vs n hb e ed⟩
theorem gF.keep{bad:Addr->Prop}{h h':Heap}(k:iN bad h h'){d:PyData}{v:Value}(r:gF bad h d v):gF bad h' d v:=r.map k.map
theorem RepL.keep{bad:Addr->Prop}{h h':Heap}(k:iN bad h h'){ds:List PyData}{vs:List Value}(r:RepL bad h ds vs):RepL bad h' ds vs:=r.map k.map
theorem gF.imp{bad bad':Addr->Prop}{h:Heap}(k:∀a o,h.get? a=some o->bad' a->bad a){d:PyData}{v:Value}(r:gF bad h d v):gF bad' h d v:=r.map fun a o _ _ hb e _=>⟨fun x=>hb (k a o e x),e⟩
theorem RepL.imp{bad bad':Addr->Prop}{h:Heap}(k:∀a o,h.get? a=some o->bad' a->bad a){ds:List PyData}{vs:List Value}(r:RepL bad h ds vs):RepL bad' h ds vs:=r.map fun a o _ _ hb e _=>⟨fun x=>hb (k a o e x),e⟩
theorem gF.reads{bad:Addr->Prop}{h:Heap}{d:PyData}{v:Value}(r:gF bad h d v):d.canLay0=true->∃as,Reads h v d as:=
 gF.rec (motive_1:=fun d v _=>d.canLay0=true->∃as,Reads h v d as) (motive_2:=fun ds vs _=>PyData.canLayAll0 ds=true->∃as,ReadsAll h vs ds as) (fun _=>⟨_,.none⟩) (fun b _=>⟨_,.bool b⟩) (fun i t _=>⟨_,.int i t⟩) (fun x t _=>⟨_,.str x t⟩) (fun _ ho _ ih c=>let⟨_,r⟩:=ih (by simpa[PyData.canLay0]using c);⟨_,.list ho rfl rfl r⟩) (fun _ ho _ ih c=>let⟨_,r⟩:=ih (by simpa[PyData.canLay0]using c);⟨_,.tuple ho rfl rfl r⟩) (fun _ _ _ _ c=>by simp[PyData.canLay0]at c) (fun _=>⟨_,.nil⟩) (fun _ _ i1 i2 c=>by simp only[PyData.canLayAll0,ad]at c;obtain⟨_,r⟩:=i1 c.1;obtain⟨_,q⟩:=i2 c.2;exact⟨_,.cons r q⟩) r
theorem RepL.reads{bad:Addr->Prop}{h:Heap}{ds:List PyData}{vs:List Value}(r:RepL bad h ds vs):PyData.canLayAll0 ds=true->∃as,ReadsAll h vs ds as:=
 r.ind (P:=fun ds vs=>PyData.canLayAll0 ds=true->∃as,ReadsAll h vs ds as) (fun _=>⟨_,.nil⟩) fun a _ ih c=>by simp only[PyData.canLayAll0,ad]at c;obtain⟨_,r⟩:=a.reads c.1;obtain⟨_,q⟩:=ih c.2;exact⟨_,.cons r q⟩
theorem RepL.length{bad:Addr->Prop}{h:Heap}{ds:List PyData}{vs:List Value}(r:RepL bad h ds vs):ds.length=vs.length:=r.ind (P:=fun ds vs=>ds.length=vs.length) rfl fun _ _ ih=>congrArg Nat.succ ih
theorem RepL.get{bad:Addr->Prop}{h:Heap}{ds:List PyData}{vs:List Value}(r:RepL bad h ds vs):∀{i:Nat}{d:PyData},ds[i]?=some d->∃v,vs[i]?=some v/\gF bad h d v:=
 r.ind (P:=fun ds vs=>∀{i:Nat}{d:PyData},ds[i]?=some d->∃v,vs[i]?=some v/\gF bad h d v) (fun e=>by cases e) fun a _ ih i d e=>by cases i with|zero=>cases e;exact⟨_,rfl,a⟩|succ i=>exact ih e
theorem RepL.getV{bad:Addr->Prop}{h:Heap}{ds:List PyData}{vs:List Value}(r:RepL bad h ds vs){i:Nat}{v:Value}(e:vs[i]?=some v):∃d,ds[i]?=some d/\gF bad h d v:=by
 have hl:i<ds.length:=by rw[r.length];exact(List.getElem?_eq_some_iff.mp e).1
 refine gR (r.get (aK hl)) fun u hu q=>?_
 rw[e]at hu;cases hu
 exact⟨_,aK hl,q⟩
theorem RepL.append{bad:Addr->Prop}{h:Heap}{ds es:List PyData}{vs ws:List Value}(r:RepL bad h ds vs)(q:RepL bad h es ws):RepL bad h (ds++es) (vs++ws):=r.ind (P:=fun ds vs=>RepL bad h (ds++es) (vs++ws)) q fun a _ ih=>.cons a ih
structure gQ(s s':Shared):Prop where
 keep:∀b o,s.heap.get? b=some o->s'.heap.get? b=some o
 gens:s'.gens=s.gens
 os:s'.os=s.os
theorem gQ.refl(s:Shared):gQ s s:=⟨fun _ _ e=>e,rfl,rfl⟩
theorem gQ.toks(s:Shared)(t:Nat):gQ s {s with toks:=t}:=⟨fun _ _ e=>e,rfl,rfl⟩
theorem gQ.trans{a b c:Shared}(x:gQ a b)(y:gQ b c):gQ a c:=⟨fun _ _ e=>y.keep _ _ (x.keep _ _ e),y.gens.trans x.gens,y.os.trans x.os⟩
theorem gQ.push(s:Shared)(o:Obj):gQ s {s with heap:=s.heap.push o}:=⟨fun _ _ e=>aG _ e,rfl,rfl⟩
theorem gQ.seq{s s':Shared}(x:gQ s s')(bad:Addr->Prop):iN bad s.heap s'.heap:=fun _ _ _ _ _ e _=>x.keep _ _ e
theorem gF.ext{bad:Addr->Prop}{s s':Shared}{d:PyData}{v:Value}(r:gF bad s.heap d v)(x:gQ s s'):gF bad s'.heap d v:=r.keep (x.seq bad)
theorem RepL.ext{bad:Addr->Prop}{s s':Shared}{d:List PyData}{v:List Value}(r:RepL bad s.heap d v)(x:gQ s s'):RepL bad s'.heap d v:=r.keep (x.seq bad)
def Lk(h:Heap)(env:Env)(x:Str)(v:Value):Prop:=
 (env.kindOf x=some .local/\∃m,h.Ns env.locals m/\m x=some v)\/
 (env.kindOf x=some .cell/\∃c,env.cells.lookup x=some c/\h.IsCell c (some v))\/
 (env.kindOf x=some .free/\(x==("__classdict__":Str))=false/\∃c,env.cells.lookup x=some c/\h.IsCell c (some v))
theorem Lk.keep{h h':Heap}{env:Env}{x:Str}{v:Value}(l:Lk h env x v)(k:∀b o,h.get? b=some o->h'.get? b=some o):Lk h' env x v:=by
 rcases l with⟨a,m,b,c⟩|⟨a,c,b,d⟩|⟨a,n,c,b,d⟩
 ·exact .inl ⟨a,m,b.keeps k,c⟩
 ·exact .inr (.inl ⟨a,c,b,d.keeps k⟩)
 ·exact .inr (.inr ⟨a,n,c,b,d.keeps k⟩)
theorem Lk.load{M:Model}{A:Around}{E:Value->Shared->Prop}{s:Shared}{env:Env}{x:Str}{v:Value}{Q:Value->Shared->Prop}(hk:env.scope.kind=.function)(l:Lk s.heap env x v)(h:Q v s):wpAny M A (loadName env x) Q E s:=by
 rcases l with⟨a,m,b,c⟩|⟨a,c,b,d⟩|⟨a,n,c,b,d⟩
 ·exact wpAny_loadName_local hk a b c h
 ·exact wpAny_loadName_cell hk a b d h
 ·exact wpAny_loadName_free hk a b d h n
inductive B where
 |val (d:PyData)
 |own (ds:List PyData)
 /--just this value -/
 |raw (v:Value)
 /--no name,but an object of the def's own that stands at a -/
 |at(a:Addr) (o:Obj)
 /--no name,but a list of data that stands at a -/
 |lst (a:Addr) (ds:List PyData)
 |free
def B.owns:B->Prop
 |.own _=>True
 |.at _ _=>True
 |.lst _ _=>True
 |_=>False
def g6(env:Env)(a:Addr):Prop:=a=env.locals\/∃n,env.cells.lookup n=some a
structure Cx where
 prog:Program
 w:World
 h₀:Heap
 os₀:OsState
 mg:Str->Option Value
 mb:Str->Option Value
 /--what a global name means -/
 gl:Str->Option Value
 K:Frag
 /--values of h₀ that are known to be data -/
 dat:PyData->Value->Prop
structure Wf(X:Cx):Prop where
 nolimit:X.h₀.NoLimit
 g:X.h₀.Ns mainGlobals X.mg
 b:X.h₀.Ns builtinsNs X.mb
 gl:∀x v,X.gl x=some v->X.mg x=some v\/(X.mg x=none/\X.mb x=some v)
 kin:X.K.In X.h₀
structure Ca(env:Env):Prop where
 kind:env.scope.kind=.function
 globals:env.globals=mainGlobals
 builtins:env.builtins=builtinsNs
structure gk(h₀:Heap)(env:Env)(h:Heap):Prop where
 ns:∃m,h.Ns env.locals m
 cell:∀n c,env.cells.lookup n=some c->∃v,h.IsCell c v
 ne:∀n c,env.cells.lookup n=some c->c≠env.locals
 inj:∀n n' c,env.cells.lookup n=some c->env.cells.lookup n'=some c->n=n'
 new:h₀.get? env.locals=none
 newc:∀n c,env.cells.lookup n=some c->h₀.get? c=none
theorem gk.keep{h₀ h h':Heap}{env:Env}(f:gk h₀ env h)(k:∀b o,h.get? b=some o->h'.get? b=some o):gk h₀ env h':=
 ⟨f.ns.imp fun _ a=>a.keeps k,fun n c e=>(f.cell n c e).imp fun _ a=>a.keeps k,f.ne,f.inj,f.new,f.newc⟩
def fv(bad:Addr->Prop)(O:Str->Option Addr)(a:Addr):Prop:=bad a\/∃x,O x=some a
inductive Holds(bad:Addr->Prop)(O:Str->Option Addr)(env:Env)(s:Shared)(x:Str):B->Prop
 |val {d:PyData}{v:Value}:Lk s.heap env x v->gF (fv bad O) s.heap d v->Holds bad O env s x (.val d)
 |own {ds:List PyData}{l:Addr}{vs:Array Value}{n:Nat}:O x=some l->Lk s.heap env x (.ref l)->s.heap.get? l=some {cls:=.type "list",data:=.seq vs n}->RepL (fv bad O) s.heap ds vs.toList->Holds bad O env s x (.own ds)
 |raw {v:Value}:Lk s.heap env x v->Holds bad O env s x (.raw v)
 |at{a:Addr}{o:Obj}:O x=some a->s.heap.get? a=some o->Holds bad O env s x (.at a o)
 |lst {a:Addr}{ds:List PyData}{vs:Array Value}{n:Nat}:O x=some a->s.heap.get? a=some {cls:=.type "list",data:=.seq vs n}->RepL (fv bad O) s.heap ds vs.toList->Holds bad O env s x (.lst a ds)
 |free:Holds bad O env s x .free
theorem Holds.move{bad bad':Addr->Prop}{O O':Str->Option Addr}{env:Env}{s s':Shared}{x:Str}{b:B}(h:Holds bad O env s x b)(lk:∀v,Lk s.heap env x v->Lk s'.heap env x v)(hO:∀l,O x=some l->O' x=some l)(hk:∀l o,O x=some l->s.heap.get? l=some o->s'.heap.get? l=some o)(k:∀a o vs n,¬fv bad O a->s.heap.get? a=some o->o.data=.seq vs n->¬fv bad' O' a/\s'.heap.get? a=some o):Holds bad' O' env s' x b:=
 Holds.rec (motive:=fun b _=>Holds bad' O' env s' x b) (fun a q=>.val (lk _ a) (q.map k)) (fun a b c q=>.own (hO _ a) (lk _ b) (hk _ _ a c) (q.map k)) (fun a=>.raw (lk _ a)) (fun a c=>.at (hO _ a) (hk _ _ a c)) (fun a c q=>.lst (hO _ a) (hk _ _ a c) (q.map k)) .free h
def HI(bad:Addr->Prop)(O:Str->Option Addr)(env:Env)(s:Shared)(x:Str)(b:B):Prop:=@B.casesOn (fun _=>Prop) b (fun d=>∃v,Lk s.heap env x v/\gF (fv bad O) s.heap d v) (fun ds=>∃l vs n,O x=some l/\Lk s.heap env x (.ref l)/\s.heap.get? l=some {cls:=.type "list",data:=.seq vs n}/\RepL (fv bad O) s.heap ds vs.toList)
 (fun v=>Lk s.heap env x v) (fun a o=>O x=some a/\s.heap.get? a=some o) (fun a ds=>O x=some a/\∃vs n,s.heap.get? a=some {cls:=.type "list",data:=.seq vs n}/\RepL (fv bad O) s.heap ds vs.toList) True
theorem Holds.inv{bad:Addr->Prop}{O:Str->Option Addr}{env:Env}{s:Shared}{x:Str}{b:B}(h:Holds bad O env s x b):HI bad O env s x b:=Holds.rec (motive:=fun b _=>HI bad O env s x b) (fun a q=>⟨_,a,q⟩) (fun a b c q=>⟨_,_,_,a,b,c,q⟩) (fun a=>a) (fun a c=>⟨a,c⟩) (fun a c q=>⟨a,_,_,c,q⟩) trivial h
structure gE(X:Cx)(bad:Addr->Prop)(O:Str->Option Addr)(env:Env)(ρ:List (Str×B))(s:Shared):Prop where
 wf:Wf X
 base:∀b o,X.h₀.get? b=some o->s.heap.get? b=some o
 gens:s.gens=#[]
 os:s.os=X.os₀
 ok:Ca env
 frm:gk X.h₀ env s.heap
 holds:∀x b,ρ.lookup x=some b->Holds bad O env s x b
 inj:∀x y l,O x=some l->O y=some l->x=y
 low:∀a,bad a->∃o,s.heap.get? a=some o
 good:∀x l,O x=some l->¬bad l/\X.h₀.get? l=none/\¬g6 env l/\∃b,ρ.lookup x=some b/\b.owns
 dat:∀d v,X.dat d v->gF bad X.h₀ d v
section
variable{X:Cx}{bad:Addr->Prop}{O:Str->Option Addr}{env:Env}{ρ:List (Str×B)}{s:Shared}
theorem gE.val(r:gE X bad O env ρ s)(x:Str)(d:PyData)(e:ρ.lookup x=some (.val d)):∃v,Lk s.heap env x v/\gF (fv bad O) s.heap d v:=(r.holds x _ e).inv
theorem gE.own(r:gE X bad O env ρ s)(x:Str)(ds:List PyData)(e:ρ.lookup x=some (.own ds)):∃l vs n,O x=some l/\Lk s.heap env x (.ref l)/\s.heap.get? l=some {cls:=.type "list",data:=.seq vs n}/\RepL (fv bad O) s.heap ds vs.toList:=(r.holds x _ e).inv
theorem gE.raw(r:gE X bad O env ρ s)(x:Str)(v:Value)(e:ρ.lookup x=some (.raw v)):Lk s.heap env x v:=(r.holds x _ e).inv
theorem gE.pt(r:gE X bad O env ρ s)(x:Str)(a:Addr)(o:Obj)(e:ρ.lookup x=some (.at a o)):O x=some a/\s.heap.get? a=some o:=(r.holds x _ e).inv
theorem gE.lst(r:gE X bad O env ρ s)(x:Str)(a:Addr)(ds:List PyData)(e:ρ.lookup x=some (.lst a ds)):O x=some a/\∃vs n,s.heap.get? a=some {cls:=.type "list",data:=.seq vs n}/\RepL (fv bad O) s.heap ds vs.toList:=(r.holds x _ e).inv
theorem gE.ext{s':Shared}(r:gE X bad O env ρ s)(x:gQ s s'):gE X bad O env ρ s' where
 wf:=r.wf
 base:=fun b o e=>x.keep _ _ (r.base b o e)
 gens:=x.gens.trans r.gens
 os:=x.os.trans r.os
 ok:=r.ok
 frm:=r.frm.keep x.keep
 holds:=fun y b e=>(r.holds y b e).move (fun _ l=>l.keep x.keep) (fun _ h=>h) (fun _ _ _ e=>x.keep _ _ e) fun _ _ _ _ hb e _=>⟨hb,x.keep _ _ e⟩
 inj:=r.inj
 low:=fun a e=>(r.low a e).imp fun _ ho=>x.keep _ _ ho
 good:=r.good
 dat:=r.dat
end
structure gG(k:Nat)(A:Around):Prop where
 handled:A.handled=none
 depth:A.depth+10*k<=900
 units:A.units+100*k<=9000
theorem gG.in1{k:Nat}{A:Around}(r:gG (k+1) A):gG k A.in1:=⟨r.handled,by have:=r.depth;show A.depth+_<=_;exact fk 0xf113841910ab0a0f38419181a0ab0a0f this,by have:=r.units;show A.units+1+_<=_;exact fk 0xf11232829164b180aa0f232829181a64b0a0f this⟩
abbrev g8:Value->Shared->Prop:=fun _ _=>False
def Ev(X:Cx)(k:Nat)(env:Env)(ρ:List (Str×B))(e:Expr)(d:PyData):Prop:=
 ∀(A:Around) (bad:Addr->Prop) (O:Str->Option Addr) (s:Shared),gG k A->gE X bad O env ρ s->wpAny (model X.prog X.w) A (eval e env) (fun v s'=>gQ s s'/\gF (fv bad O) s'.heap d v) g8 s
def mM(X:Cx)(k:Nat)(env:Env)(ρ:List (Str×B))(e:Expr)(b:Bool):Prop:=
 ∀(A:Around) (bad:Addr->Prop) (O:Str->Option Addr) (s:Shared),gG k A->gE X bad O env ρ s->wpAny (model X.prog X.w) A (isTrue e env (eval e env)) (fun v s'=>gQ s s'/\v=b) g8 s
section
variable{X:Cx}{k:Nat}{env:Env}{ρ:List (Str×B)}
theorem Ev.use{e:Expr}{d:PyData}(h:Ev X k env ρ e d){A:Around}{bad:Addr->Prop}{O:Str->Option Addr}{s:Shared}{Q:Value->Shared->Prop}(R:gG k A)(r:gE X bad O env ρ s)(hq:∀v s',gQ s s'->gE X bad O env ρ s'->gF (fv bad O) s'.heap d v->Q v s'):wpAny (model X.prog X.w) A (eval e env) Q g8 s:=
 aF (h A bad O s R r) (fun v s' q=>hq v s' q.1 (r.ext q.1) q.2) fun _ _ x=>x
theorem mM.use{e:Expr}{b:Bool}(h:mM X k env ρ e b){A:Around}{bad:Addr->Prop}{O:Str->Option Addr}{s:Shared}{Q:Bool->Shared->Prop}(R:gG k A)(r:gE X bad O env ρ s)(hq:∀s',gQ s s'->gE X bad O env ρ s'->Q b s'):wpAny (model X.prog X.w) A (isTrue e env (eval e env)) Q g8 s:=
 aF (h A bad O s R r) (fun v s' q=>q.2▸hq s' q.1 (r.ext q.1)) fun _ _ x=>x
theorem Ev.int1{e:Expr}{a:Int}(h:Ev X k env ρ e (.int a)){A:Around}{bad:Addr->Prop}{O:Str->Option Addr}{s:Shared}{Q:Value->Shared->Prop}(R:gG k A)(r:gE X bad O env ρ s)(H:∀t s',gQ s s'->Q (.int a t) s'):wpAny (model X.prog X.w) A (eval e env) Q g8 s:=h.use R r fun _ s1 x1 _ q1=>q1.intE fun t=>H t s1 x1
theorem Ev.int2{e e':Expr}{a b:Int}(h:Ev X k env ρ e (.int a))(h':Ev X k env ρ e' (.int b)){A:Around}{bad:Addr->Prop}{O:Str->Option Addr}{s:Shared}{Q:Value->Value->Shared->Prop}(R:gG k A)(r:gE X bad O env ρ s)(H:∀t u s',gQ s s'->Q (.int a t) (.int b u) s'):wpAny (model X.prog X.w) A (eval e env) (fun v s1=>wpAny (model X.prog X.w) A (eval e' env) (Q v) g8 s1) g8 s:=
 h.use R r fun _ _ x1 r1 q1=>q1.intE fun t=>h'.use R r1 fun _ s2 x2 _ q2=>q2.intE fun u=>H t u s2 (x1.trans x2)
theorem fc{x:Str}{pos:Pos}{d:PyData}(h:ρ.lookup x=some (.val d))(hd:autoParam ((x==("__debug__":Str))=false) aD):Ev X k env ρ (.Name x pos) d:=fun A bad O s R r=>by
 refine gR (r.val x d h) fun v l q=>?_
 exact bW (Lk.load r.ok.kind l ⟨gQ.refl s,q⟩) hd
theorem ft{i:Int}{n:Nat}{pos:Pos}:Ev X k env ρ (.Constant (.int i) n pos) (.int i):=fun _ _ _ s _ _=>wpAny_Constant_int ⟨gQ.toks s _,.int _ _⟩
theorem kK{x:Str}{n:Nat}{pos:Pos}:Ev X k env ρ (.Constant (.str x) n pos) (.str x):=fun _ _ _ s _ _=>Calls.Constant_str ⟨gQ.toks s _,.str _ _⟩
theorem wg{n:Nat}{pos:Pos}:Ev X k env ρ (.Constant .none n pos) .none:=fun _ _ _ s _ _=>aC (a:=Value.none) ⟨gQ.refl s,.none⟩
theorem sS{b:Bool}{n:Nat}{pos:Pos}:Ev X k env ρ (.Constant (.bool b) n pos) (.bool b):=fun _ _ _ s _ _=>aC (a:=Value.bool b) ⟨gQ.refl s,.bool _⟩
theorem f7{l r:Expr}{pos:Pos}{a b:Int}(hl:Ev X k env ρ l (.int a))(hr:Ev X k env ρ r (.int b)):Ev X k env ρ (.BinOp l .Add r pos) (.int (a+b)):=fun A bad O s R q=>
 eJ (hl.int2 hr R q fun _ _ _ x=>add_int ⟨x.trans (gQ.toks _ _),.int _ _⟩)
theorem jO{l r:Expr}{pos:Pos}{a b:Int}(hl:Ev X k env ρ l (.int a))(hr:Ev X k env ρ r (.int b)):Ev X k env ρ (.BinOp l .Sub r pos) (.int (a-b)):=fun A bad O s R q=>
 eJ (hl.int2 hr R q fun _ _ _ x=>sub_int ⟨x.trans (gQ.toks _ _),.int _ _⟩)
theorem yY{l r:Expr}{pos:Pos}{a b:Int}(hl:Ev X k env ρ l (.int a))(hr:Ev X k env ρ r (.int b))(hm:IntMulOk a b):Ev X k env ρ (.BinOp l .Mult r pos) (.int (a*b)):=fun A bad O s R q=>
 eJ (hl.int2 hr R q fun _ _ _ x=>mul_int ⟨x.trans (gQ.toks _ _),.int _ _⟩ hm)
theorem qV{l r:Expr}{pos:Pos}{a b:Int}(hl:Ev X k env ρ l (.int a))(hr:Ev X k env ρ r (.int b))(hb:b≠0)(hp:Builtin.divisionGoesByPylong a b=false):Ev X k env ρ (.BinOp l .FloorDiv r pos) (.int (a.fdiv b)):=fun A bad O s R q=>
 eJ (hl.int2 hr R q fun _ _ _ x=>floordiv_int hb ⟨x.trans (gQ.toks _ _),.int _ _⟩ (.inl hp))
theorem mE{l r:Expr}{pos:Pos}{a b:Int}(hl:Ev X k env ρ l (.int a))(hr:Ev X k env ρ r (.int b))(hb:b≠0):Ev X k env ρ (.BinOp l .Mod r pos) (.int (a.fmod b)):=fun A bad O s R q=>
 eJ (hl.int2 hr R q fun _ _ _ x=>mod_int' hb ⟨x.trans (gQ.toks _ _),.int _ _⟩)
theorem ml{x:Expr}{pos:Pos}{a:Int}(h:Ev X k env ρ x (.int a)):Ev X k env ρ (.UnaryOp .USub x pos) (.int (-a)):=fun A bad O s R q=>
 wpAny_UnaryOp (h.int1 R q fun _ _ x=>neg_int ⟨x.trans (gQ.toks _ _),.int _ _⟩)
noncomputable def Em(op:CmpOp)(a b:Int):Option Bool:=match op with
 |.Eq=>some (a==b)|.NotEq=>some (a !=b)|.Lt=>some (decide (a<b))|.LtE=>some (decide (a<=b))|.Gt=>some (decide (b<a))|.GtE=>some (decide (b<=a))|_=>none
theorem Be{A:Around}{s:Shared}{op:CmpOp}{a b:Int}{t u:Tok}{c:Bool}(h:Em op a b=some c){Q:Value->Shared->Prop}{E:Value->Shared->Prop}(q:Q (.bool c) s):wpAny (model X.prog X.w) A (compareOp op (.int a t) (.int b u)) Q E s:=by
 cases op with
 |Eq=>obtain rfl:=Option.some.inj h;exact eq_int q
 |NotEq=>obtain rfl:=Option.some.inj h;exact ne_int q
 |Lt=>obtain rfl:=Option.some.inj h;exact lt_int q
 |LtE=>obtain rfl:=Option.some.inj h;exact le_int q
 |Gt=>obtain rfl:=Option.some.inj h;exact gt_int q
 |GtE=>obtain rfl:=Option.some.inj h;exact ge_int q
 |_=>exact absurd h.symm (Option.some_ne_none c)
theorem f0{l r:Expr}{op:CmpOp}{pos:Pos}{a b:Int}{c:Bool}(hl:Ev X k env ρ l (.int a))(hr:Ev X k env ρ r (.int b))(h:Em op a b=some c)(hm:autoParam (behindInMarks op r=false) aW):mM X k env ρ (.Compare l [op] [r] pos) c:=fun A bad O s R q=>
 bY (hl.int2 hr R q fun _ _ _ x=>Be h (bV ⟨x,rfl⟩)) hm
theorem my{l r:Expr}{pos:Pos}{da db:PyData}(hl:Ev X k env ρ l da)(hr:Ev X k env ρ r db)(sa:SeqAt.shaped da=true)(sb:SeqAt.shaped db=true)(hk:0<k)(hm:autoParam (behindInMarks .Eq r=false) aW):mM X k env ρ (.Compare l [.Eq] [r] pos) (PyData.eqv da db):=fun A bad O s R q=>
 bY (hl.use R q fun v s1 x1 r1 q1=>hr.use R r1 fun u s2 x2 r2 q2=>by obtain⟨as,ra⟩:=(q1.ext x2).reads (bM sa);obtain⟨bs,rb⟩:=q2.reads (bM sb);exact SeqAt.compareEq_shaped ra rb sa sb (by have:=R.units;show A.units+64<9900;exact fk 0xf1126ac2940090a1f232829164b0a0f this) (bV ⟨x1.trans x2,rfl⟩)) hm
theorem zV{l r:Expr}{pos:Pos}{da db:PyData}(hl:Ev X k env ρ l da)(hr:Ev X k env ρ r db)(sa:SeqAt.shaped da=true)(sb:SeqAt.shaped db=true)(hk:0<k)(hm:autoParam (behindInMarks .NotEq r=false) aW):mM X k env ρ (.Compare l [.NotEq] [r] pos) (!PyData.eqv da db):=fun A bad O s R q=>
 bY (hl.use R q fun v s1 x1 r1 q1=>hr.use R r1 fun u s2 x2 r2 q2=>by obtain⟨as,ra⟩:=(q1.ext x2).reads (bM sa);obtain⟨bs,rb⟩:=q2.reads (bM sb);exact SeqAt.compareNe_shaped ra rb sa sb (by have:=R.units;show A.units+64<9900;exact fk 0xf1126ac2940090a1f232829164b0a0f this) (bV ⟨x1.trans x2,rfl⟩)) hm
theorem Ec{l r:Expr}{pos:Pos}{da db:PyData}(hl:Ev X k env ρ l da)(hr:Ev X k env ρ r db)(sa:SeqAt.shaped da=true)(sb:SeqAt.shaped db=true)(hk:0<k)(hm:autoParam (behindInMarks .Eq r=false) aW):Ev X k env ρ (.Compare l [.Eq] [r] pos) (.bool (PyData.eqv da db)):=fun A bad O s R q=>
 wpAny_Compare1 (hl.use R q fun v s1 x1 r1 q1=>hr.use R r1 fun u s2 x2 r2 q2=>by obtain⟨as,ra⟩:=(q1.ext x2).reads (bM sa);obtain⟨bs,rb⟩:=q2.reads (bM sb);exact SeqAt.compareEq_shaped ra rb sa sb (by have:=R.units;show A.units+64<9900;exact fk 0xf1126ac2940090a1f232829164b0a0f this) ⟨x1.trans x2,.bool _⟩) hm
theorem k9{e:Expr}{b:Bool}(h:Ev X k env ρ e (.bool b))(he:autoParam (∀whole,isTrue e env whole=(do let v<-whole;standAt e.pos;holding [v] (truthy v))) aI):mM X k env ρ e b:=fun A bad O s R r=>
 isTrue_plain (h.use R r fun _ _ x _ q=>q.boolE (bV ⟨x,rfl⟩)) (he _)
theorem o5{e:Expr}{a:Int}(h:Ev X k env ρ e (.int a))(he:autoParam (∀whole,isTrue e env whole=(do let v<-whole;standAt e.pos;holding [v] (truthy v))) aI):mM X k env ρ e (a !=0):=fun A bad O s R r=>
 isTrue_plain (h.int1 R r fun _ _ x=>PySem.P.truthy_int ⟨x,rfl⟩) (he _)
theorem wV{x:Expr}{pos:Pos}{b:Bool}(h:mM X k env ρ x b):mM X k env ρ (.UnaryOp .Not x pos) (!b):=fun A bad O s R r=>
 wpAny_isTrue_Not (h.use R r fun s1 x1 r1=>⟨x1,rfl⟩)
theorem iw{pos:Pos}:mM X k env ρ (.BoolOp .And [] pos) true:=fun A bad O s R r=>isTrue_and_nil ⟨gQ.refl s,rfl⟩
theorem rh{pos:Pos}:mM X k env ρ (.BoolOp .Or [] pos) false:=fun A bad O s R r=>isTrue_or_nil ⟨gQ.refl s,rfl⟩
theorem gL{x:Expr}{rest:List Expr}{pos:Pos}{b c:Bool}(h:mM X k env ρ x b)(hr:b=true->mM X k env ρ (.BoolOp .And rest pos) c):mM X k env ρ (.BoolOp .And (x::rest) pos) (b&&c):=fun A bad O s R r=>
 isTrue_and (h.use R r fun s1 x1 r1=>by cases b with|false=>exact⟨x1,rfl⟩|true=>exact(hr rfl).use R r1 fun s2 x2 r2=>⟨x1.trans x2,by simp⟩)
theorem nq{x:Expr}{rest:List Expr}{pos:Pos}{b c:Bool}(h:mM X k env ρ x b)(hr:b=false->mM X k env ρ (.BoolOp .Or rest pos) c):mM X k env ρ (.BoolOp .Or (x::rest) pos) (b||c):=fun A bad O s R r=>
 isTrue_or (h.use R r fun s1 x1 r1=>by cases b with|true=>exact⟨x1,rfl⟩|false=>exact(hr rfl).use R r1 fun s2 x2 r2=>⟨x1.trans x2,by simp⟩)
theorem oM{test body orelse:Expr}{pos:Pos}{b:Bool}{d d':PyData}(h:mM X k env ρ test b)(h1:b=true->Ev X k env ρ body d)(h2:b=false->Ev X k env ρ orelse d'):Ev X k env ρ (.IfExp test body orelse pos) (if b then d else d'):=fun A bad O s R r=>
 wpAny_IfExp (h.use R r fun s1 x1 r1=>by cases b with|true=>exact(h1 rfl).use R r1 fun v s2 x2 r2 q2=>⟨x1.trans x2,q2⟩|false=>exact(h2 rfl).use R r1 fun v s2 x2 r2 q2=>⟨x1.trans x2,q2⟩)
def qy(X:Cx)(k:Nat)(env:Env)(ρ:List (Str×B))(pos:Pos)(es:List Expr)(ds:List PyData):Prop:=
 ∀(A:Around) (bad:Addr->Prop) (O:Str->Option Addr) (s:Shared),gG k A->gE X bad O env ρ s->wpAny (model X.prog X.w) A (spliced (backTo pos (starEach es env))) (fun vs s'=>gQ s s'/\RepL (fv bad O) s'.heap ds vs) g8 s
theorem fq{pos:Pos}:qy X k env ρ pos [] []:=fun A bad O s R r=>a0 ⟨gQ.refl s,.nil⟩
theorem fg{pos:Pos}{e:Expr}{es:List Expr}{d:PyData}{ds:List PyData}(h:Ev X k env ρ e d)(hs:qy X k env ρ pos es ds)(he:autoParam (starEach (e::es) env=(false,eval e env)::starEach es env) aR):qy X k env ρ pos (e::es) (d::ds):=fun A bad O s R r=>
 af (h.use R r fun v s1 x1 r1 q1=>aF (hs A bad O s1 R r1) (fun vs s2 q2=>⟨x1.trans q2.1,.cons (q1.ext q2.1) q2.2⟩) fun _ _ x=>x) he
theorem gZ{bad:Addr->Prop}{O:Str->Option Addr}{s:Shared}(r:gE X bad O env ρ s):∀a,fv bad O a->∃o,s.heap.get? a=some o:=fun a h=>h.elim (r.low a) fun⟨x,e⟩=>by
 refine FA (r.good x a e) ?_;rintro _ _ _ ⟨b,hd,hb⟩
 cases b with
 |own ds=>refine qY (r.own x ds hd) fun l vs n ho _ g _=>?_;cases Option.some.inj (ho.symm.trans e);exact⟨_,g⟩
 |«at» a' o=>obtain⟨ho,g⟩:=r.pt x a' o hd;cases Option.some.inj (ho.symm.trans e);exact⟨_,g⟩
 |lst a' ds=>obtain⟨ho,_,_,g,_⟩:=r.lst x a' ds hd;cases Option.some.inj (ho.symm.trans e);exact⟨_,g⟩
 |val _=>exact hb.elim
 |raw _=>exact hb.elim
 |free=>exact hb.elim
theorem gE.datO{bad:Addr->Prop}{O:Str->Option Addr}{s:Shared}(r:gE X bad O env ρ s):∀d v,X.dat d v->gF (fv bad O) X.h₀ d v:=fun d v e=>(r.dat d v e).imp fun a o e' h=>by
 rcases h with h|⟨y,hy⟩
 ·exact h
 ·rw[(r.good y a hy).2.1]at e';cases e'
theorem gE.datR{bad:Addr->Prop}{O:Str->Option Addr}{s:Shared}(r:gE X bad O env ρ s){d:PyData}{v:Value}(e:X.dat d v):gF (fv bad O) s.heap d v:=(r.datO d v e).keep fun b o _ _ _ e _=>r.base b o e
theorem i3{bad:Addr->Prop}{O:Str->Option Addr}{s:Shared}{l:Addr}(r:gE X bad O env ρ s)(h:s.heap.get? l=none):¬fv bad O l:=fun hb=>by
 obtain⟨o,ho⟩:=gZ r l hb
 rw[h]at ho;cases ho
theorem iG(h:Heap):h.get? h.objs.size=none:=by
 cases e:h.get? h.objs.size with
 |none=>rfl
 |some o=>exact absurd (am e) (cq _)
theorem gQ.none{s s':Shared}(x:gQ s s'){l:Addr}(h:s'.heap.get? l=none):s.heap.get? l=none:=by
 cases e:s.heap.get? l with
 |none=>rfl
 |some o=>rw[x.keep _ _ e]at h;cases h
end
section
variable{X:Cx}{k:Nat}{env:Env}{ρ:List (Str×B)}
theorem wu{T:String}{bad:Addr->Prop}{O:Str->Option Addr}{s:Shared}{vs:Array Value}{n:Nat}{ds:List PyData}(r:gE X bad O env ρ s)(q:RepL (fv bad O) s.heap ds vs.toList):¬fv bad O s.heap.objs.size/\(s.heap.push {cls:=.type T,data:=.seq vs n}).get? s.heap.objs.size=some {cls:=.type T,data:=.seq vs n}/\RepL (fv bad O) (s.heap.push {cls:=.type T,data:=.seq vs n}) ds vs.toList:=
 ⟨i3 r (iG _),aT _ rfl,q.keep fun _ _ _ _ _ e _=>aG _ e⟩
theorem ke{bad:Addr->Prop}{O:Str->Option Addr}{s:Shared}{vs:Array Value}{n:Nat}{ds:List PyData}(r:gE X bad O env ρ s)(q:RepL (fv bad O) s.heap ds vs.toList):gF (fv bad O) (s.heap.push {cls:=.type "list",data:=.seq vs n}) (.list ds) (.ref s.heap.objs.size):=let⟨a,b,c⟩:=wu (T:="list") (n:=n) r q;.list a b c
theorem rn{bad:Addr->Prop}{O:Str->Option Addr}{s:Shared}{vs:Array Value}{n:Nat}{ds:List PyData}(r:gE X bad O env ρ s)(q:RepL (fv bad O) s.heap ds vs.toList):gF (fv bad O) (s.heap.push {cls:=.type "tuple",data:=.seq vs n}) (.tuple ds) (.ref s.heap.objs.size):=let⟨a,b,c⟩:=wu (T:="tuple") (n:=n) r q;.tuple a b c
theorem nQ{es:List Expr}{pos:Pos}{ds:List PyData}(h:qy X k env ρ pos es ds)(hz:ds.length<=sizeLine):Ev X k env ρ (.List es pos) (.list ds):=fun A bad O s R r=>
 wpAny_List (aF (h A bad O s R r) (fun vs s1 q=>⟨by rw[<-q.2.length];exact hz,q.1.trans (gQ.push _ _),ke (r.ext q.1) (by simpa using q.2)⟩) fun _ _ x=>x)
theorem gV{es:List Expr}{n:Nat}{pos:Pos}{ds:List PyData}(h:qy X k env ρ pos es ds)(hz:ds.length<=sizeLine):Ev X k env ρ (.Tuple es n pos) (.tuple ds):=fun A bad O s R r=>
 wpAny_Tuple (aF (h A bad O s R r) (fun vs s1 q=>⟨by rw[<-q.2.length];exact hz,q.1.trans (gQ.push _ _),rn (r.ext q.1) (by simpa using q.2)⟩) fun _ _ x=>x)
def uJ(X:Cx)(k:Nat)(env:Env)(ρ:List (Str×B))(e:Expr)(ds:List PyData):Prop:=
 ∀(A:Around) (bad:Addr->Prop) (O:Str->Option Addr) (s:Shared),gG k A->gE X bad O env ρ s->wpAny (model X.prog X.w) A (eval e env) (fun v s'=>gQ s s'/\∃a vs,v=.ref a/\s'.heap.PlainList a vs/\RepL (fv bad O) s'.heap ds vs.toList) g8 s
theorem gF.isList{bad:Addr->Prop}{h:Heap}{ds:List PyData}{v:Value}(r:gF bad h (.list ds) v):∃a vs,v=.ref a/\h.PlainList a vs/\RepL bad h ds vs.toList:=by
 exact r.listE fun _ _ _ _ ho hr=>⟨_,_,rfl,⟨_,ho⟩,hr⟩
theorem gF.isTup{bad:Addr->Prop}{h:Heap}{ds:List PyData}{v:Value}(r:gF bad h (.tuple ds) v):∃a vs,v=.ref a/\IsTup h a vs/\RepL bad h ds vs.toList:=by
 exact r.tupE fun _ _ _ _ ho hr=>⟨_,_,rfl,⟨_,ho,rfl,_,rfl⟩,hr⟩
theorem gH{e:Expr}{ds:List PyData}(h:Ev X k env ρ e (.list ds)):uJ X k env ρ e ds:=fun A bad O s R r=>h.use R r fun v s1 x1 r1 q1=>⟨x1,q1.isList⟩
theorem jy{x:Str}{pos:Pos}{ds:List PyData}(h:ρ.lookup x=some (.own ds))(hd:autoParam ((x==("__debug__":Str))=false) aD):uJ X k env ρ (.Name x pos) ds:=fun A bad O s R r=>by
 refine qY (r.own x ds h) fun l vs n _ lk g q=>?_
 exact bW (Lk.load r.ok.kind lk ⟨gQ.refl s,l,vs,rfl,⟨_,g⟩,q⟩) hd
theorem uJ.use{e:Expr}{ds:List PyData}(h:uJ X k env ρ e ds){A:Around}{bad:Addr->Prop}{O:Str->Option Addr}{s:Shared}{Q:Value->Shared->Prop}(R:gG k A)(r:gE X bad O env ρ s)(hq:∀a vs s',gQ s s'->gE X bad O env ρ s'->s'.heap.PlainList a vs->RepL (fv bad O) s'.heap ds vs.toList->Q (.ref a) s'):wpAny (model X.prog X.w) A (eval e env) Q g8 s:=
 aF (h A bad O s R r) (fun v s' q=>by obtain⟨x,a,vs,rfl,l,p⟩:=q;exact hq a vs s' x (r.ext x) l p) fun _ _ x=>x
theorem i5{s s':Shared}(x:gQ s s'){a:Addr}{vs:Array Value}(l:s.heap.PlainList a vs):s'.heap.IsList a vs:=l.elim fun _ ho=>⟨_,x.keep _ _ ho,rfl,_,rfl⟩
theorem uB{s:Shared}{a:Addr}{vs:Array Value}(l:s.heap.PlainList a vs):s.heap.IsList a vs:=l.elim fun _ ho=>⟨_,ho,rfl,_,rfl⟩
theorem xQ{s s':Shared}(x:gQ s s'){a:Addr}{vs:Array Value}(l:IsTup s.heap a vs):IsTup s'.heap a vs:=l.imp fun _ q=>⟨x.keep _ _ q.1,q.2⟩
noncomputable def je(n:Int)(len:Nat):Nat:=if n<0 then(n+len).toNat else n.toNat
theorem jM{value slice:Expr}{pos:Pos}{ds:List PyData}{n:Int}{d:PyData}(hv:uJ X k env ρ value ds)(hi:Ev X k env ρ slice (.int n))(hlo:-(ds.length:Int)<=n)(hhi:n<ds.length)(hz:ds.length<=sizeLine)(hd:ds[je n ds.length]?=some d)(hs:autoParam (∀a u,subscripted slice false (.ref a) (.int n u)=operate [.ref a,.int n u] (getItem (.ref a) (.int n u))) aJ):Ev X k env ρ (.Subscript value slice pos) d:=fun A bad O s R r=>
 Subscript_ (hv.use R r fun a vs s1 x1 r1 l1 q1=>hi.int1 R r1 fun _ s2 x2=>by
  have hl:=q1.length;have hz':(sizeLine:Int)<2^63:=by decide
  have hzz:(ds.length:Int)<=(sizeLine:Int):=by exact_mod_cast hz
  refine gR (q1.get hd) fun v hv rv=>?_;refine tail_any (i5 x2 l1).typeIs slot_list_getitem.lookup ?_ (hs _ _);unfold je at hv hd;split at hv
  ·rename_i hn;refine wpAny_getItem_list_neg (i5 x2 l1) hn (by rw[<-aE,<-hl];exact hlo) (iz [_,_] [_] 0xf111108000000000000000e9e3f8000000000000000e91c410000ce3f hlo hz hz') (x:=v) ?_ ⟨x1.trans x2,rv.ext x2⟩;rw[<-aE,<-hl,<-ab];exact hv
  ·refine wpAny_getItem_list (i5 x2 l1) (iz [] [_] 0xf110083f08046f (by assumption)) (iz [_,_] [_] 0xf11118000000000000000e904f8000000000000000e91c41000c04f hhi hz hz') (x:=v) (by rw[<-ab];exact hv) ⟨x1.trans x2,rv.ext x2⟩)
theorem zX{value slice:Expr}{pos:Pos}{ds:List PyData}{n:Int}{d:PyData}(hv:Ev X k env ρ value (.tuple ds))(hi:Ev X k env ρ slice (.int n))(hlo:0<=n)(hhi:n<ds.length)(hz:ds.length<=sizeLine)(hd:ds[n.toNat]?=some d)(hs:autoParam (∀a u,subscripted slice false (.ref a) (.int n u)=operate [.ref a,.int n u] (getItem (.ref a) (.int n u))) aJ):Ev X k env ρ (.Subscript value slice pos) d:=fun A bad O s R r=>
 Subscript_ (hv.use R r fun v s1 x1 r1 q1=>hi.int1 R r1 fun _ s2 x2=>by
  refine jq q1.isTup ?_;rintro a vs rfl l1 q1;have hl:=q1.length;have hz':(sizeLine:Int)<2^63:=by decide
  have hzz:(ds.length:Int)<=(sizeLine:Int):=by exact_mod_cast hz
  refine gR (q1.get hd) fun v hv rv=>?_;have l2:IsTup s2.heap a vs.toList.toArray:=by simpa using xQ x2 l1
  refine item_tupleT l2 (iz [] [_] 0xf1108000000000000000e9e3f0083f hlo) (iz [_,_] [_] 0xf11118000000000000000e904f8000000000000000e91c41000c04f hhi hz hz') (j:=n.toNat) ?_ hv ⟨x1.trans x2,rv.ext x2⟩ (hs _ _);delta seqIndex?;rw[<-hl];simp only[show¬n<0 by exact iz [] [_] 0xf1108046f0083f hlo,bZ];rw[aN (by simp only[ad,aQ];exact iz [_] [_] 0xf101f11f0c0400837f0c040083f hlo hhi)])
end
theorem RepL.pick{bad:Addr->Prop}{h:Heap}{ds:List PyData}{vs:List Value}(r:RepL bad h ds vs):∀idx:List Nat,RepL bad h (idx.filterMap (ds[·]?)) (idx.filterMap (vs[·]?))
 |[]=>.nil
 |i::idx=>by have ih:=r.pick idx;cases e:ds[i]? with
  |some d=>refine gR (r.get e) fun v hv q=>?_;rw[List.filterMap_cons_some e,List.filterMap_cons_some hv];exact .cons q ih|none=>
   have:vs[i]?=none:=by rw[List.getElem?_eq_none_iff]at e|-;rw[<-r.length];exact e
   rw[List.filterMap_cons_none e,List.filterMap_cons_none this];exact ih
noncomputable def nE(ds:List PyData)(lo hi st:Option Int):List PyData:=
 (sliceRange (sliceBounds lo hi st ds.length).1 (sliceBounds lo hi st ds.length).2.1 (sliceBounds lo hi st ds.length).2.2).filterMap (ds[·]?)
theorem RepL.slice{bad:Addr->Prop}{h:Heap}{ds:List PyData}{vs:Array Value}(r:RepL bad h ds vs.toList)(lo hi st:Option Int):RepL bad h (nE ds lo hi st) (slicePick vs lo hi st).toList:=by
 have e:vs.size=ds.length:=by rw[<-aE,r.length]
 have:=r.pick (sliceRange (sliceBounds lo hi st ds.length).1 (sliceBounds lo hi st ds.length).2.1 (sliceBounds lo hi st ds.length).2.2)
 delta nE slicePick
 rw[e]
 simpa using this
section
variable{X:Cx}{k:Nat}{env:Env}{ρ:List (Str×B)}
def Ek(X:Cx)(k:Nat)(env:Env)(ρ:List (Str×B))(e:Option Expr)(i:Option Int):Prop:=
 ∀(A:Around) (bad:Addr->Prop) (O:Str->Option Addr) (s:Shared),gG k A->gE X bad O env ρ s->wpAny (model X.prog X.w) A (evalPart e env) (fun v s'=>gQ s s'/\IsPart v i) g8 s
theorem iW:Ek X k env ρ none none:=fun A bad O s R r=>aC (a:=Value.none) ⟨gQ.refl s,.none⟩
theorem iU{e:Expr}{i:Int}(h:Ev X k env ρ e (.int i)):Ek X k env ρ (some e) (some i):=fun A bad O s R r=>h.int1 R r fun _ _ x=>⟨x,.int _ _⟩
theorem ji{value:Expr}{lower upper step:Option Expr}{p pos:Pos}{ds:List PyData}{lo hi st:Option Int}(hv:uJ X k env ρ value ds)(hl:Ek X k env ρ lower lo)(hu:Ek X k env ρ upper hi)(ht:Ek X k env ρ step st)(h0:st≠some 0)(hz:ds.length<=sizeLine):Ev X k env ρ (.Subscript value (.Slice lower upper step p) pos) (.list (nE ds lo hi st)):=fun A bad O s R r=>
 Subscript_ (hv.use R r fun a vs s1 x1 r1 l1 q1=>wpAny_Slice (aF (hl A bad O s1 R r1) (fun v2 s2 q2=>aF (hu A bad O s2 R (r1.ext q2.1)) (fun v3 s3 q3=>aF (ht A bad O s3 R ((r1.ext q2.1).ext q3.1)) (fun v4 s4 q4=>by
  have x4:gQ s1 s4:=(q2.1.trans q3.1).trans q4.1;have x5:gQ s1 {s4 with heap:=s4.heap.push {cls:=.type "slice",data:=.fields #[v2,v3,v4]}}:=x4.trans (gQ.push _ _);have hs:∃ops,subscripted (.Slice lower upper step p) false (.ref a) (.ref s4.heap.objs.size)=operate ops (getItem (.ref a) (.ref s4.heap.objs.size)):=by cases step<;>exact⟨_,rfl⟩
  obtain⟨ops,hs⟩:=hs;refine tail_any (i5 x5 l1).typeIs slot_list_getitem.lookup ?_ hs;refine wpAny_getItem_list_slice (i5 x5 l1) (Heap.IsSliceOf.new ..) q2.2 q3.2 q4.2 h0 ?_ (by rw[<-aE,<-q1.length];exact hz);exact⟨(x1.trans x5).trans (gQ.push _ _),ke (r1.ext x5) ((q1.ext x5).slice lo hi st)⟩) fun _ _ x=>x) fun _ _ x=>x) fun _ _ x=>x))
theorem nY{A:Around}{s:Shared}{l b:Addr}{vs ws:Array Value}{Q:Value->Shared->Prop}{E:Value->Shared->Prop}(hl:s.heap.IsList l vs)(hb:s.heap.IsList b ws)(hz:vs.size+ws.size<=sizeLine)(h:Q (.ref s.heap.objs.size) {s with heap:=s.heap.push {cls:=.type "list",data:=.seq (vs++ws)}}):wpAny (model X.prog X.w) A (binaryOp .Add (.ref l) (.ref b)) Q E s:=by
 obtain⟨⟨cls,dd,data,sl⟩,ho,hc,n,hd⟩:=id hl
 obtain⟨⟨cls2,dd2,data2,sl2⟩,ho2,hc2,n2,hd2⟩:=id hb
 simp only at hc hd hc2 hd2
 subst hc hd hc2 hd2
 exact concat_meets ⟨_,ho,rfl⟩ ⟨_,ho2,rfl⟩ noFill_list_add seq_list_add PySem.F.slot_list_add PySem.F.entry_list_add (PySem.F.args_list_add_2 _ _) (list_addW l b vs ws n n2 dd dd2 sl sl2 hz) ⟨ho,ho2,h⟩
theorem sL{l r:Expr}{pos:Pos}{ds es:List PyData}(hl:uJ X k env ρ l ds)(hr:uJ X k env ρ r es)(hz:ds.length+es.length<=sizeLine):Ev X k env ρ (.BinOp l .Add r pos) (.list (ds++es)):=fun A bad O s R q=>
 eJ (hl.use R q fun a vs s1 x1 r1 l1 q1=>hr.use R r1 fun b ws s2 x2 r2 l2 q2=>nY (i5 x2 l1) (uB l2) (by rw[<-aE,<-aE,<-q1.length,<-q2.length];exact hz) ⟨(x1.trans x2).trans (gQ.push _ _),ke r2 (by simpa using(q1.ext x2).append q2)⟩)
theorem g9{A:Around}{bad:Addr->Prop}{O:Str->Option Addr}{s:Shared}{x:Str}{pos:Pos}{v:Value}{Q:Value->Shared->Prop}(r:gE X bad O env ρ s)(hx:X.gl x=some v)(hk:env.kindOf x=some .globalImplicit)(hq:Q v s)(hd:autoParam ((x==("__debug__":Str))=false) aD):wpAny (model X.prog X.w) A (eval (.Name x pos) env) Q g8 s:=by
 refine bW ?_ hd
 rw[loadName_read r.ok.kind hk]
 delta loadGlobal
 rw[r.ok.globals,r.ok.builtins]
 rcases r.wf.gl x v hx with e|⟨e,e'⟩
 ·refine aA (wpAny_nsGet (r.wf.g.keeps r.base) ?_);rw[e];exact aC hq
 ·refine aA (wpAny_nsGet (r.wf.g.keeps r.base) ?_);rw[e];refine aA (wpAny_nsGet (r.wf.b.keeps r.base) ?_);rw[e'];exact aC hq
theorem qy.args{f:Value}{pos:Pos}{e:Expr}{es:List Expr}{ds:List PyData}(h:qy X k env ρ pos (e::es) ds)(he:starEach (e::es) env=(false,eval e env)::starEach es env){A:Around}{bad:Addr->Prop}{O:Str->Option Addr}{s:Shared}{Q:Args->Shared->Prop}(R:gG k A)(r:gE X bad O env ρ s)(hq:∀vs s',gQ s s'->gE X bad O env ρ s'->RepL (fv bad O) s'.heap ds vs->Q ⟨vs,[]⟩ s'):wpAny (model X.prog X.w) A (evalArgs f true (backTo pos (starEach (e::es) env)) []) Q g8 s:=by
 have h':=h A bad O s R r
 rw[he]at h'|-
 exact cW (aF h' (fun vs s1 q=>hq vs s1 q.1 (r.ext q.1) q.2) fun _ _ x=>x)
end
noncomputable def put:List (Str×B)->Str->B->List (Str×B)
 |[],x,b=>[(x,b)]
 |(y,c)::r,x,b=>if x=y then(y,b)::r else(y,c)::put r x b
theorem qH(x:Str)(b:B):∀ρ:List (Str×B),(put ρ x b).lookup x=some b
 |[]=>by simp[put]
 |(y,c)::r=>by
  unfold put;by_cases h:x=y;·rw[aN h,bm];simp[h]
  ·rw[aL h,bm,qH x b r];have:(x==y)=false:=beq_eq_false_iff_ne.mpr h;rw[this]
theorem m5{x z:Str}(b:B)(hz:z≠x):∀ρ:List (Str×B),(put ρ x b).lookup z=ρ.lookup z
 |[]=>by have:(z==x)=false:=beq_eq_false_iff_ne.mpr hz;simp[put,bm,this]
 |(y,c)::r=>by
  unfold put;by_cases h:x=y
  ·rw[aN h,bm,bm];have:(z==y)=false:=beq_eq_false_iff_ne.mpr (h▸hz);rw[this]
  ·rw[aL h,bm,bm,m5 b hz r]
noncomputable def j6(a b:Str):Bool:=!decide (a=b)
theorem hs{x:Str}{b:B}{ρ:List (Str×B)}:(put ρ x b).lookup x=some b:=qH x b ρ
theorem hn2{z x:Str}{c b:B}{ρ:List (Str×B)}(q:z≠x)(h:ρ.lookup z=some c):(put ρ x b).lookup z=some c:=(m5 b q ρ).trans h
theorem hn{z x:Str}{c b:B}{ρ:List (Str×B)}(h:ρ.lookup z=some c)(q:j6 z x=true):(put ρ x b).lookup z=some c:=hn2 (by simpa[j6]using q) h
def sO(env:Env)(x:Str):Prop:=env.kindOf x=some .local\/(env.kindOf x=some .cell/\∃c,env.cells.lookup x=some c)
structure f8(env:Env)(O O':Str->Option Addr)(s s':Shared):Prop where
 keep:∀b o,¬g6 env b->(∀x,O x≠some b)->s.heap.get? b=some o->s'.heap.get? b=some o
 alive:∀b o,s.heap.get? b=some o->∃o',s'.heap.get? b=some o'
 new:∀x l,O' x=some l->(∃y,O y=some l)\/s.heap.get? l=none
theorem f8.refl(env:Env)(O:Str->Option Addr)(s:Shared):f8 env O O s s:=⟨fun _ _ _ _ e=>e,fun b o e=>⟨o,e⟩,fun x l e=>.inl ⟨x,e⟩⟩
theorem f8.of_ext{env:Env}{O:Str->Option Addr}{s s':Shared}(x:gQ s s'):f8 env O O s s':=⟨fun _ _ _ _ e=>x.keep _ _ e,fun b o e=>⟨o,x.keep _ _ e⟩,fun x l e=>.inl ⟨x,e⟩⟩
theorem f8.trans{env:Env}{O O' O'':Str->Option Addr}{s s' s'':Shared}(a:f8 env O O' s s')(b:f8 env O' O'' s' s''):f8 env O O'' s s'' where
 keep:=fun c o hp ho e=>b.keep c o hp (fun x hx=>by
  rcases a.new x c hx with⟨y,hy⟩|h;·exact ho y hy
  ·rw[e]at h;cases h) (a.keep c o hp ho e)
 alive:=fun c o e=>(a.alive c o e).elim (b.alive c)
 new:=fun x l e=>by
  rcases b.new x l e with⟨y,hy⟩|h;·exact a.new y l hy
  ·refine .inr ?_;cases q:s.heap.get? l with|none=>rfl|some o=>obtain⟨o',e'⟩:=a.alive l o q;rw[e']at h;cases h
theorem lF{p:Addr}{h h':Heap}(hs:Heap.SameBut p h h'){o':Obj}(hp:h'.get? p=some o'):∀b o,h.get? b=some o->∃o',h'.get? b=some o':=fun b o e=>by
 by_cases q:b=p
 ·subst q;exact⟨o',hp⟩
 ·exact⟨o,(hs.2 b q).trans e⟩
section
variable{X:Cx}{k:Nat}{env:Env}{ρ:List (Str×B)}
theorem sy{A:Around}{s:Shared}{x:Str}{v:Value}{h₀:Heap}{Q:Unit->Shared->Prop}{E:Value->Shared->Prop}{M:Model}(ok:Ca env)(f:gk h₀ env s.heap)(hx:sO env x)(hq:∀h' t p,g6 env p->(env.kindOf x=some .local->p=env.locals)->Heap.SameBut p s.heap h'->Lk h' env x v->(∀y u,y≠x->Lk s.heap env y u->Lk h' env y u)->gk h₀ env h'->Q () {s with heap:=h',toks:=t}):wpAny M A (storeName env x v) Q E s:=by
 obtain⟨m,hm⟩:=f.ns
 rcases hx with hl|⟨hl,c,hc⟩
 ·refine wpAny_storeName_local hl hm (fun h' hn hs=>hq h' _ env.locals (.inl rfl) (fun _=>rfl) hs (.inl ⟨hl,_,hn,by simp⟩) (fun y u hy lk=>?_) ⟨⟨_,hn⟩,fun n c e=>(f.cell n c e).imp fun _ a=>a.sameBut hs (f.ne n c e),f.ne,f.inj,f.new,f.newc⟩) (by rw[ok.kind];rfl);rcases lk with⟨a,m',b,c⟩|⟨a,c,b,d⟩|⟨a,n,c,b,d⟩
  ·refine .inl ⟨a,_,hn,?_⟩;have e:m'=m:=by obtain⟨o,es,ep,ho,hd,_,hf⟩:=b;obtain⟨o',es',ep',ho',hd',_,hf'⟩:=hm;rw[ho]at ho';cases ho';rw[hd]at hd';cases hd';funext z;rw[<-hf z,hf' z]
   show(if y=x then some v else m y)=some u;rw[aL hy,<-e];exact c
  ·exact .inr (.inl ⟨a,c,b,d.sameBut hs (f.ne y c b)⟩)
  ·exact .inr (.inr ⟨a,n,c,b,d.sameBut hs (f.ne y c b)⟩)
 ·obtain⟨v₀,hv⟩:=f.cell x c hc;refine wpAny_storeName_cell ok.kind hl hc hv fun h' hn hs=>hq h' _ c (.inr ⟨x,hc⟩) (fun q=>by rw[hl]at q;cases q) hs (.inr (.inl ⟨hl,c,hc,hn⟩)) (fun y u hy lk=>?_) ⟨⟨m,hm.sameBut hs (Ne.symm (f.ne x c hc))⟩,fun n d e=>?_,f.ne,f.inj,f.new,f.newc⟩
  ·rcases lk with⟨a,m',b,e⟩|⟨a,d,b,e⟩|⟨a,n,d,b,e⟩;·exact .inl ⟨a,m',b.sameBut hs (Ne.symm (f.ne x c hc)),e⟩
   ·exact .inr (.inl ⟨a,d,b,e.sameBut hs fun q=>hy (f.inj y x d b (q▸hc))⟩)
   ·exact .inr (.inr ⟨a,n,d,b,e.sameBut hs fun q=>hy (f.inj y x d b (q▸hc))⟩)
  ·by_cases q:d=c;·exact⟨_,q▸hn⟩
   ·obtain⟨v,a⟩:=f.cell n d e;exact⟨v,a.sameBut hs q⟩
theorem oI{h₀ h h':Heap}{p:Addr}(f:gk h₀ env h)(hp:g6 env p)(hs:Heap.SameBut p h h')(bad:Addr->Prop):iN bad h h':=fun b o vs n _ e ed=>by
 refine(hs.2 b fun q=>?_).trans e
 subst q
 rcases hp with rfl|⟨n,hn⟩
 ·obtain⟨m,o',es,ep,ho,hd,_⟩:=f.ns;rw[ho]at e;cases e;rw[hd]at ed;cases ed
 ·obtain⟨v,o',ho,hd⟩:=f.cell n b hn;rw[ho]at e;cases e;rw[hd]at ed;cases ed
theorem iM{h₀ h:Heap}{p:Addr}(f:gk h₀ env h)(hp:g6 env p):∃o,h.get? p=some o:=by
 rcases hp with rfl|⟨n,hn⟩
 ·obtain⟨m,o',es,ep,ho,_⟩:=f.ns;exact⟨_,ho⟩
 ·obtain⟨v,o',ho,_⟩:=f.cell n p hn;exact⟨_,ho⟩
theorem n8{h₀ h:Heap}{p:Addr}(f:gk h₀ env h)(hp:g6 env p):h₀.get? p=none:=by
 rcases hp with rfl|⟨n,hn⟩
 ·exact f.new
 ·exact f.newc n p hn
noncomputable def lC(O:Str->Option Addr)(x:Str):Str->Option Addr:=fun y=>if y=x then none else O y
theorem kC{bad:Addr->Prop}{O:Str->Option Addr}{x:Str}{a:Addr}(h:fv bad (lC O x) a):fv bad O a:=h.imp id fun⟨y,e⟩=>⟨y,by delta lC at e;split at e;cases e;exact e⟩
theorem iX{O:Str->Option Addr}{x y:Str}{l:Addr}(e:lC O x y=some l):y≠x/\O y=some l:=by
 delta lC at e
 by_cases h:y=x
 ·rw[aN h]at e;cases e
 ·rw[aL h]at e;exact⟨h,e⟩
theorem vE{O:Str->Option Addr}{x y:Str}{l:Addr}(h:y≠x)(e:O y=some l):lC O x y=some l:=(aL h).trans e
theorem mD{ρ:List (Str×B)}{x y:Str}{b c:B}(e:(put ρ x b).lookup y=some c):(y=x/\c=b)\/(y≠x/\ρ.lookup y=some c):=by
 by_cases h:y=x
 ·subst h;rw[qH]at e;exact .inl ⟨rfl,(Option.some.inj e).symm⟩
 ·rw[m5 _ h]at e;exact .inr ⟨h,e⟩
def jt(X:Cx)(bad:Addr->Prop)(env:Env)(ρ:List (Str×B))(x:Str)(l:Addr):Prop:=¬bad l/\X.h₀.get? l=none/\¬g6 env l/\∃b,ρ.lookup x=some b/\b.owns
theorem jt.pt{bad:Addr->Prop}{x y:Str}{l:Addr}{b:B}(g:jt X bad env ρ y l)(h:y≠x):jt X bad env (put ρ x b) y l:=
 ⟨g.1,g.2.1,g.2.2.1,g.2.2.2.imp fun _ q=>⟨hn2 h q.1,q.2⟩⟩
theorem jt.new{bad:Addr->Prop}{x y:Str}{l:Addr}{b:B}(g:jt X bad env ρ y l)(hb:b.owns):jt X bad env (put ρ x b) x l:=⟨g.1,g.2.1,g.2.2.1,b,hs,hb⟩
theorem gE.drops{bad:Addr->Prop}{O:Str->Option Addr}{s s':Shared}{x:Str}{b:B}(r:gE X bad O env ρ s)(base:∀b o,X.h₀.get? b=some o->s'.heap.get? b=some o)(gens:s'.gens=s.gens)(os:s'.os=s.os)(frm:gk X.h₀ env s'.heap)(low:∀b o,s.heap.get? b=some o->∃o',s'.heap.get? b=some o')(hold:Holds bad (lC O x) env s' x b)(mv:∀y c,y≠x->Holds bad O env s y c->Holds bad (lC O x) env s' y c):gE X bad (lC O x) env (put ρ x b) s' where
 wf:=r.wf
 base:=base
 gens:=gens.trans r.gens
 os:=os.trans r.os
 ok:=r.ok
 frm:=frm
 holds:=fun y c e=>by
  rcases mD e with⟨h,h'⟩|⟨hy,e⟩;·rw[h,h'];exact hold
  ·exact mv y c hy (r.holds y c e)
 inj:=fun y z l e e'=>r.inj y z l (iX e).2 (iX e').2
 low:=fun a e=>(r.low a e).elim (low a)
 good:=fun y l e=>jt.pt (r.good y l (iX e).2) (iX e).1
 dat:=r.dat
theorem gE.turns{bad:Addr->Prop}{O:Str->Option Addr}{s s':Shared}{x:Str}{l:Addr}{b:B}(r:gE X bad O env ρ s)(base:∀b o,X.h₀.get? b=some o->s'.heap.get? b=some o)(gens:s'.gens=s.gens)(os:s'.os=s.os)(frm:gk X.h₀ env s'.heap)(low:∀b o,s.heap.get? b=some o->∃o',s'.heap.get? b=some o')(hO:O x=some l)(hb:b.owns)(hold:Holds bad O env s' x b)(mv:∀y c,y≠x->Holds bad O env s y c->Holds bad O env s' y c):gE X bad O env (put ρ x b) s' where
 wf:=r.wf
 base:=base
 gens:=gens.trans r.gens
 os:=os.trans r.os
 ok:=r.ok
 frm:=frm
 holds:=fun y c e=>by
  rcases mD e with⟨h,h'⟩|⟨hy,e⟩;·rw[h,h'];exact hold
  ·exact mv y c hy (r.holds y c e)
 inj:=r.inj
 low:=fun a e=>(r.low a e).elim (low a)
 good:=fun y l' e=>by
  by_cases h:y=x;·subst h;exact jt.new (r.good y l' e) hb
  ·exact jt.pt (r.good y l' e) h
 dat:=r.dat
noncomputable def qX(O:Str->Option Addr)(x:Str)(l:Addr):Str->Option Addr:=fun y=>if y=x then some l else O y
theorem iK{O:Str->Option Addr}{x y:Str}{l l':Addr}(e:qX O x l y=some l'):(y=x/\l'=l)\/(y≠x/\O y=some l'):=by
 delta qX at e
 by_cases h:y=x
 ·rw[aN h]at e;exact .inl ⟨h,(Option.some.inj e).symm⟩
 ·rw[aL h]at e;exact .inr ⟨h,e⟩
theorem ry{O:Str->Option Addr}{x y:Str}{l l':Addr}(h:y≠x)(e:O y=some l'):qX O x l y=some l':=(aL h).trans e
theorem nT{O:Str->Option Addr}{x:Str}{l:Addr}:qX O x l x=some l:=aN rfl
theorem lw{bad:Addr->Prop}{O:Str->Option Addr}{x:Str}{l a:Addr}(h:fv bad (qX O x l) a):fv bad O a\/a=l:=by
 rcases h with h|⟨y,e⟩
 ·exact .inl (.inl h)
 ·exact(iK e).elim (fun h=>.inr h.2) fun h=>.inl (.inr ⟨y,h.2⟩)
theorem gE.joins{bad:Addr->Prop}{O:Str->Option Addr}{s s':Shared}{x:Str}{l:Addr}{b:B}(r:gE X bad O env ρ s)(base:∀b o,X.h₀.get? b=some o->s'.heap.get? b=some o)(gens:s'.gens=s.gens)(os:s'.os=s.os)(frm:gk X.h₀ env s'.heap)(low:∀b o,s.heap.get? b=some o->∃o',s'.heap.get? b=some o')(hl:¬fv bad O l)(h0:X.h₀.get? l=none)(hp:¬g6 env l)(hb:b.owns)(hold:Holds bad (qX O x l) env s' x b)(mv:∀y c,y≠x->Holds bad O env s y c->Holds bad (qX O x l) env s' y c):gE X bad (qX O x l) env (put ρ x b) s' where
 wf:=r.wf
 base:=base
 gens:=gens.trans r.gens
 os:=os.trans r.os
 ok:=r.ok
 frm:=frm
 holds:=fun y c e=>by
  rcases mD e with⟨h,h'⟩|⟨hy,e⟩;·rw[h,h'];exact hold
  ·exact mv y c hy (r.holds y c e)
 inj:=fun y z l' e e'=>by
  rcases iK e with⟨h,q⟩|⟨_,e⟩
  ·rcases iK e' with⟨h',_⟩|⟨_,e'⟩;·exact h.trans h'.symm
   ·exact absurd (.inr ⟨z,q▸e'⟩) hl
  ·rcases iK e' with⟨_,q⟩|⟨_,e'⟩;·exact absurd (.inr ⟨y,q▸e⟩) hl
   ·exact r.inj y z l' e e'
 low:=fun a e=>(r.low a e).elim (low a)
 good:=fun y l' e=>by
  rcases iK e with⟨h,q⟩|⟨h,e⟩;·subst h q;exact⟨fun h=>hl (.inl h),h0,hp,b,hs,hb⟩
  ·exact jt.pt (r.good y l' e) h
 dat:=r.dat
theorem vp{A:Around}{bad:Addr->Prop}{O:Str->Option Addr}{s:Shared}{x:Str}{v:Value}{b:B}{Q:Unit->Shared->Prop}{E:Value->Shared->Prop}{M:Model}(r:gE X bad O env ρ s)(hx:sO env x)(hb:∀s',Lk s'.heap env x v->(∀{d u},gF (fv bad O) s.heap d u->gF (fv bad (lC O x)) s'.heap d u)->Holds bad (lC O x) env s' x b)(hq:∀s',f8 env O (lC O x) s s'->gE X bad (lC O x) env (put ρ x b) s'->(env.kindOf x=some .local->(∀b o,b≠env.locals->s.heap.get? b=some o->s'.heap.get? b=some o))->Q () s'):wpAny M A (storeName env x v) Q E s:=by
 refine sy r.ok r.frm hx fun h' t p hp hpl hs hl hk f'=>?_
 have nb:∀b o,b≠p->s.heap.get? b=some o->h'.get? b=some o:=fun b o n e=>(hs.2 b n).trans e
 obtain⟨op,hop⟩:=iM f' hp
 have al:=lF hs hop
 have km:∀a o vs n,¬fv bad O a->s.heap.get? a=some o->o.data=.seq vs n->¬fv bad (lC O x) a/\h'.get? a=some o:=fun a o vs n h e ed=>⟨fun h'=>h (kC h'),oI r.frm hp hs (fv bad O) a o vs n h e ed⟩
 exact hq _ ⟨fun b o hb _ e=>nb b o (fun q=>hb (q▸hp)) e,al,fun y l e=>.inl ⟨y,(iX e).2⟩⟩ (r.drops (fun b o e=>nb b o (fun q=>by rw[q,n8 r.frm hp]at e;cases e) (r.base b o e)) rfl rfl f' al (hb _ hl fun q=>q.map km) fun y c hy h=>h.move (fun u=>hk y u hy) (fun l=>vE hy) (fun l o h=>nb l o fun q=>(r.good y l h).2.2.1 (q▸hp)) km) (fun q b o hb e=>nb b o (fun z=>hb (z.trans (hpl q))) e)
theorem qK{A:Around}{bad:Addr->Prop}{O:Str->Option Addr}{s:Shared}{x:Str}{v:Value}{d:PyData}{Q:Unit->Shared->Prop}{E:Value->Shared->Prop}{M:Model}(r:gE X bad O env ρ s)(hx:sO env x)(q:gF (fv bad O) s.heap d v)(hq:∀s',f8 env O (lC O x) s s'->gE X bad (lC O x) env (put ρ x (.val d)) s'->(env.kindOf x=some .local->(∀b o,b≠env.locals->s.heap.get? b=some o->s'.heap.get? b=some o))->Q () s'):wpAny M A (storeName env x v) Q E s:=vp r hx (fun _ l k=>.val l (k q)) hq
theorem mK{A:Around}{bad:Addr->Prop}{O:Str->Option Addr}{s:Shared}{x:Str}{v:Value}{Q:Unit->Shared->Prop}{E:Value->Shared->Prop}{M:Model}(r:gE X bad O env ρ s)(hx:sO env x)(hq:∀s',f8 env O (lC O x) s s'->gE X bad (lC O x) env (put ρ x (.raw v)) s'->(env.kindOf x=some .local->(∀b o,b≠env.locals->s.heap.get? b=some o->s'.heap.get? b=some o))->Q () s'):wpAny M A (storeName env x v) Q E s:=vp r hx (fun _ l _=>.raw l) hq
theorem k5{A:Around}{bad:Addr->Prop}{O:Str->Option Addr}{s:Shared}{x:Str}{v:Value}{d:PyData}{Q:Unit->Shared->Prop}{E:Value->Shared->Prop}{M:Model}(r:gE X bad O env ρ s)(hx:sO env x)(q:gF (fv bad O) s.heap d v)(hq:∀s',f8 env O (lC O x) s s'->gE X bad (lC O x) env (put ρ x (.val d)) s'->Q () s'):wpAny M A (storeName env x v) Q E s:=qK r hx q fun s' a b _=>hq s' a b
end
noncomputable def ud(x:Int):Str:=⟨#[36,if x<0 then 1 else 0,x.natAbs]⟩
theorem ne_ixn{s:Str}{x:Int}(h:autoParam (s.cps[0]?≠some 36) aD):s≠ud x:=fun e=>h (by rw[e];rfl)
end Mine
local macro_rules |`(tactic|k_mem)=>`(tactic|((repeat(first|with_reducible exact Mine.hs|refine Mine.hn ?_ rfl|refine Mine.hn2 Mine.ne_ixn ?_))<;>first|assumption|exact Mine.hs|rfl))
namespace Mine
inductive Fl where
 |next|brk|cont
 |ret (d:PyData)
def EZ(bad:Addr->Prop)(h:Heap):Fl->Flow->Prop
 |.next,f=>f=.next
 |.brk,f=>f=.brk
 |.cont,f=>f=.cont
 |.ret d,f=>∃v,f=.ret v/\gF bad h d v
def ox(X:Cx)(env:Env)(bad:Addr->Prop)(O:Str->Option Addr)(s:Shared)(Q:Fl->List (Str×B)->Prop)(fl:Flow)(s':Shared):Prop:=
 ∃f ρ' O',Q f ρ'/\EZ bad s'.heap f fl/\f8 env O O' s s'/\gE X bad O' env ρ' s'
def iP(X:Cx)(k:Nat)(env:Env)(ρ:List (Str×B))(ss:List Stmt)(Q:Fl->List (Str×B)->Prop):Prop:=
 ∀(A:Around) (bad:Addr->Prop) (O:Str->Option Addr) (s:Shared),gG k A->gE X bad O env ρ s->wpAny (model X.prog X.w) A (execs ss env) (ox X env bad O s Q) g8 s
def jz(X:Cx)(k:Nat)(env:Env)(ρ:List (Str×B))(st:Stmt)(Q:Fl->List (Str×B)->Prop):Prop:=
 ∀(A:Around) (bad:Addr->Prop) (O:Str->Option Addr) (s:Shared),gG k A->gE X bad O env ρ s->wpAny (model X.prog X.w) A (exec st env) (ox X env bad O s Q) g8 s
section
variable{X:Cx}{k:Nat}{env:Env}{ρ:List (Str×B)}{Q:Fl->List (Str×B)->Prop}
theorem ox.from{bad:Addr->Prop}{O O':Str->Option Addr}{s s' s'':Shared}{fl:Flow}(a:f8 env O O' s s')(p:ox X env bad O' s' Q fl s''):ox X env bad O s Q fl s'':=
 qY p fun f ρ' O'' q i b r=>⟨f,ρ',O'',q,i,a.trans b,r⟩
theorem iP.from{ss:List Stmt}(h:iP X k env ρ ss Q){A:Around}{bad:Addr->Prop}{O O':Str->Option Addr}{s s':Shared}(R:gG k A)(a:f8 env O O' s s')(r:gE X bad O' env ρ s'):wpAny (model X.prog X.w) A (execs ss env) (ox X env bad O s Q) g8 s':=aF (h A bad O' s' R r) (fun _ _ p=>p.from a) fun _ _ x=>x
theorem fj(h:Q .next ρ):iP X k env ρ [] Q:=fun A bad O s R r=>cf ⟨.next,ρ,O,h,rfl,f8.refl _ _ _,r⟩
def Nx(X:Cx)(k:Nat)(env:Env)(ss:List Stmt)(Q:Fl->List (Str×B)->Prop)(f:Fl)(ρ':List (Str×B)):Prop:=match f with|.next=>iP X k env ρ' ss Q|f=>Q f ρ'
theorem fe{st:Stmt}{ss:List Stmt}(h:jz X k env ρ st (Nx X k env ss Q)):iP X k env ρ (st::ss) Q:=fun A bad O s R r=>
 cP (aF (h A bad O s R r) (fun fl s' p=>by obtain⟨f,ρ',O',q,i,b,r'⟩:=p;cases f with|next=>cases i;exact q.from R b r'|brk=>cases i;exact⟨.brk,ρ',O',q,rfl,b,r'⟩|cont=>cases i;exact⟨.cont,ρ',O',q,rfl,b,r'⟩|ret d=>obtain⟨v,rfl,rv⟩:=i;exact⟨.ret d,ρ',O',q,⟨v,rfl,rv⟩,b,r'⟩) fun _ _ x=>x)
theorem gM{x:Str}{p pos:Pos}{e:Expr}{d:PyData}(he:Ev X k env ρ e d)(hx:sO env x)(hq:Q .next (put ρ x (.val d)))(hs:autoParam (swapsWith e (some (.Name x p)) pos.line env=pure false) aR):jz X k env ρ (.Assign [.Name x p] e pos) Q:=fun A bad O s R r=>
 wpAny_Assign_Name (he.use R r fun v s1 x1 r1 q1=>k5 r1 hx q1 fun s2 st r2=>⟨.next,_,_,hq,rfl,(f8.of_ext x1).trans st,r2⟩) hs
theorem gu{test:Expr}{body orelse:List Stmt}{pos:Pos}{b:Bool}(ht:mM X k env ρ test b)(h1:b=true->iP X k env ρ body Q)(h2:b=false->iP X k env ρ orelse Q):jz X k env ρ (.If test body orelse pos) Q:=fun A bad O s R r=>
 wpAny_If (ht.use R r fun s1 x1 r1=>by cases b with|true=>exact(h1 rfl).from R (f8.of_ext x1) r1|false=>exact(h2 rfl).from R (f8.of_ext x1) r1)
theorem gF.weak{bad:Addr->Prop}{O:Str->Option Addr}{h:Heap}{d:PyData}{v:Value}(r:gF (fv bad O) h d v):gF bad h d v:=r.imp fun _ _ _ h=>.inl h
theorem jb{e:Expr}{pos:Pos}{d:PyData}(he:Ev X k env ρ e d)(hq:Q (.ret d) ρ):jz X k env ρ (.Return (some e) pos) Q:=fun A bad O s R r=>
 eR (he.use R r fun v s1 x1 r1 q1=>⟨.ret d,ρ,O,hq,⟨v,rfl,q1.weak⟩,f8.of_ext x1,r1⟩)
theorem lL{x:Str}{p pos:Pos}{ds:List PyData}(hx:ρ.lookup x=some (.own ds))(hq:Q (.ret (.list ds)) ρ)(hd:autoParam ((x==("__debug__":Str))=false) aD):jz X k env ρ (.Return (some (.Name x p)) pos) Q:=fun A bad O s R r=>by
 refine qY (r.own x ds hx) fun l vs n o lk g q=>?_
 refine eR (bW (Lk.load r.ok.kind lk ⟨.ret (.list ds),ρ,O,hq,⟨_,rfl,.list (r.good x l o).1 g ?_⟩,f8.refl _ _ _,r⟩) hd)
 exact q.imp fun _ _ _ h=>.inl h
theorem sf{pos:Pos}(hq:Q .cont ρ):jz X k env ρ (.Continue pos) Q:=fun A bad O s R r=>wpAny_Continue ⟨.cont,ρ,O,hq,rfl,f8.refl _ _ _,r⟩
theorem zA{pos:Pos}(hq:Q .brk ρ):jz X k env ρ (.Break pos) Q:=fun A bad O s R r=>wpAny_Break ⟨.brk,ρ,O,hq,rfl,f8.refl _ _ _,r⟩
structure vU(J:List (Str×B)->Prop)(Q Q':Fl->List (Str×B)->Prop):Prop where
 next:∀{ρ},J ρ->Q' .next ρ
 cont:∀{ρ},J ρ->Q' .cont ρ
 brk:∀{ρ},Q .next ρ->Q' .brk ρ
 ret:∀{ρ d},Q (.ret d) ρ->Q' (.ret d) ρ
def EH(J:List (Str×B)->Prop)(Q:Fl->List (Str×B)->Prop)(f:Fl)(ρ:List (Str×B)):Prop:=match f with
 |.next|.cont=>J ρ
 |.brk=>Q .next ρ
 |.ret d=>Q (.ret d) ρ
theorem Ck{J:List (Str×B)->Prop}{Q:Fl->List (Str×B)->Prop}:vU J Q (EH J Q):=⟨id,id,id,id⟩
theorem nc{test:Expr}{body:List Stmt}{pos:Pos}(I:Nat->List (Str×B)->Prop){n:Nat}(h0:I n ρ)(turn:∀n ρ',I n ρ'->∀Q',vU (fun ρ=>∃m,m<n/\I m ρ) Q Q'->∃b,mM X k env ρ' test b/\(b=true->iP X k env ρ' body Q')/\(b=false->Q .next ρ')):jz X k env ρ (.While test body [] pos) Q:=fun A bad O s R r=>by
 refine wpAny_While (codeAny_whileLoop (fun n s'=>∃ρ' O',I n ρ'/\f8 env O O' s s'/\gE X bad O' env ρ' s') ?_ n ⟨ρ,O,h0,f8.refl _ _ _,r⟩)
 rintro n s' ⟨ρ',O',hI,st,r'⟩
 refine qe (turn n ρ' hI _ Ck) fun b ht h1 h2=>?_
 refine aF (ht.use R r' (Q:=fun b' s₂=>if b' then wpAny (model X.prog X.w) A (execs body env) (fun f s₃=>match f with|.next|.cont=>∃m,m<n/\∃ρ' O',I m ρ'/\f8 env O O' s s₃/\gE X bad O' env ρ' s₃|.brk=>ox X env bad O s Q .next s₃|.ret v=>ox X env bad O s Q (.ret v) s₃) g8 s₂ else wpAny (model X.prog X.w) A (execs [] env) (fun f s₃=>ox X env bad O s Q f s₃) g8 s₂) fun s1 x1 r1=>?_) (fun b' s₂ h=>?_) fun _ _ x=>x.elim
 ·cases b with|false=>exact cf ⟨.next,ρ',O',h2 rfl,rfl,st.trans (f8.of_ext x1),r1⟩|true=>refine aF (h1 rfl A bad O' s1 R r1) (fun fl s2 p=>?_) fun _ _ x=>x;obtain⟨f,ρ'',O'',q,i,b,r2⟩:=p;have st2:=(st.trans (f8.of_ext x1)).trans b;cases f with|next=>cases i;obtain⟨m,hm,hI⟩:=q;exact⟨m,hm,ρ'',O'',hI,st2,r2⟩|cont=>cases i;obtain⟨m,hm,hI⟩:=q;exact⟨m,hm,ρ'',O'',hI,st2,r2⟩|brk=>cases i;exact⟨.next,ρ'',O'',q,rfl,st2,r2⟩|ret d=>obtain⟨v,rfl,rv⟩:=i;exact⟨.ret d,ρ'',O'',q,⟨v,rfl,rv⟩,st2,r2⟩
 ·cases b' with|true=>exact aF h (fun f _ x=>by cases f<;>exact x) fun _ _ x=>x.elim|false=>exact aF h (fun _ _ x=>x) fun _ _ x=>x.elim
end
theorem qD{kindOf:Str->Option NameKind}{x:Str}:∀(binds:List (Str×Value)) (m:Str->Option Value),(∀v,(x,v)∉binds)->bindL kindOf binds m x=m x
 |[],_,_=>rfl
 |(n,v)::r,m,h=>by
  unfold bindL;rw[qD r _ fun u hu=>h u (.tail _ hu)];have hn:x≠n:=fun e=>h v (e▸.head _);split;·exact aL hn
  ·rfl
theorem n6{kindOf:Str->Option NameKind}{x:Str}{v:Value}(hk:kindOf x=some .local):∀(binds:List (Str×Value)) (m:Str->Option Value),(binds.map (·.1)).Nodup->(x,v)∈binds->bindL kindOf binds m x=some v
 |(n,u)::r,m,nd,h=>by unfold bindL;rw[bJ,eu]at nd;cases h with|head=>rw[qD r _ fun u hu=>nd.1 (List.mem_map.mpr ⟨_,hu,rfl⟩),aN hk];simp|tail _ h=>exact n6 hk r _ nd.2 h
theorem qT{kindOf:Str->Option NameKind}{x:Str}:∀(binds:List (Str×Value)) (m:Str->Option Value),(∀v,(x,v)∉binds)->bindC kindOf binds m x=m x
 |[],_,_=>rfl
 |(n,v)::r,m,h=>by
  unfold bindC;rw[qT r _ fun u hu=>h u (.tail _ hu)];have hn:x≠n:=fun e=>h v (e▸.head _);split;·rfl
  ·exact aL hn
theorem nu{kindOf:Str->Option NameKind}{x:Str}{v:Value}(hk:kindOf x≠some .local):∀(binds:List (Str×Value)) (m:Str->Option Value),(binds.map (·.1)).Nodup->(x,v)∈binds->bindC kindOf binds m x=some v
 |(n,u)::r,m,nd,h=>by unfold bindC;rw[bJ,eu]at nd;cases h with|head=>rw[qT r _ fun u hu=>nd.1 (List.mem_map.mpr ⟨_,hu,rfl⟩),aL hk];simp|tail _ h=>exact nu hk r _ nd.2 h
structure At(X:Cx)(s:Shared):Prop where
 wf:Wf X
 base:∀b o,X.h₀.get? b=some o->s.heap.get? b=some o
 gens:s.gens=#[]
 os:s.os=X.os₀
theorem gE.at{X:Cx}{bad:Addr->Prop}{O:Str->Option Addr}{env:Env}{ρ:List (Str×B)}{s:Shared}(r:gE X bad O env ρ s):At X s:=⟨r.wf,r.base,r.gens,r.os⟩
theorem At.ext{X:Cx}{s s':Shared}(a:At X s)(x:gQ s s'):At X s':=⟨a.wf,fun b o e=>x.keep _ _ (a.base b o e),x.gens.trans a.gens,x.os.trans a.os⟩
def Fi(X:Cx)(k:Nat)(f:Addr)(F:List PyData->PyData->Prop):Prop:=
 ∀(A:Around) (bad:Addr->Prop) (s:Shared) (vs:List Value) (ds:List PyData) (d:PyData),gG k A->At X s->(∀a,bad a->∃o,s.heap.get? a=some o)->(∀d v,X.dat d v->gF bad X.h₀ d v)->RepL bad s.heap ds vs->F ds d->codeAny (model X.prog X.w) A (.call (.ref f) ⟨vs,[]⟩) (fun r s'=>∃v,r=.ok (.ret v)/\gQ s s'/\gF bad s'.heap d v) s
theorem lT:∀{names:List Str}{ds:List PyData}{vs:List Value}{bad:Addr->Prop}{h:Heap}{x:Str}{b:B},RepL bad h ds vs->(names.zip (ds.map B.val)).lookup x=some b->∃v d,(x,v)∈names.zip vs/\b=.val d/\gF bad h d v
 |[],_,_,_,_,_,_,_,e=>by simp at e
 |n::names,[],_,_,_,_,_,_,e=>by simp at e
 |n::names,d::ds,_,bad,h,x,b,.cons (v:=v) (vs:=vs) r q,e=>by
  simp only[bJ,eI,bm]at e;split at e
  ·rename_i hx;cases e;have:=ea.mp hx;subst this;exact⟨v,d,.head _,rfl,r⟩
  ·refine jq (lT q e) fun v' d' m e' q'=>?_;exact⟨v',d',.tail _ m,e',q'⟩
theorem kl:∀{names:List Str}{vs:List Value},names.Nodup->((names.zip vs).map (·.1)).Nodup
 |[],_,_=>by simp
 |n::names,[],_=>by simp
 |n::names,v::vs,h=>by rw[eu]at h;simp only[eI,bJ,eu];refine⟨fun hm=>?_,kl h.2⟩;refine gR (List.mem_map.mp hm) ?_;rintro⟨a,b⟩hp rfl;exact h.1 (dF hp).1
theorem f8.ext{env:Env}{O O':Str->Option Addr}{s s₁ s':Shared}(st:f8 env O O' s₁ s')(hk:∀b o,s.heap.get? b=some o->s₁.heap.get? b=some o)(hp:∀b o,s.heap.get? b=some o->¬g6 env b)(hO:∀x,O x=none):∀b o,s.heap.get? b=some o->s'.heap.get? b=some o:=fun b o e=>st.keep b o (hp b o e) (fun x h=>by rw[hO x]at h;cases h) (hk b o e)
theorem tL{X:Cx}{k:Nat}{f:Addr}{o:Obj}{fd:FuncData}{body:List Stmt}{names:List Str}{F:List PyData->PyData->Prop}(ho:X.h₀.get? f=some o)(hdata:o.data=.func fd)(hcd:X.h₀.CodeRec fd.code fd.qualname)(hbody:fd.body=.stmts body)(hclo:fd.closure=[])(hg:fd.globals=mainGlobals)(hb:fd.builtins=builtinsNs)(hbind:∀vs:List Value,vs.length=names.length->bindArgs fd ⟨vs,[]⟩=pure (names.zip vs))(hnd:names.Nodup)(hpar:∀x∈names,fd.scope.names.lookup x=some .local\/(fd.scope.names.lookup x=some .cell/\∀n,((cellsFrom n fd.scope.names []).lookup x).isSome=true))(hlen:∀ds d,F ds d->ds.length=names.length)(hco:fd.scope.isCoroutine=false)(hgen:fd.scope.isGenerator=false)(hk:fd.scope.kind=.function)(h:∀L ds d,F ds d->iP X k (callEnvC fd L f) (names.zip (ds.map B.val)) body fun fl _=>fl=.ret d):Fi X (k+1) f F:=fun A bad s vs ds d R a low hdat q hF=>by
 have hl:=hlen ds d hF
 have hv:vs.length=names.length:=by rw[<-q.length];exact hl
 refine codeAny_call_cells (o:=o) (fd:=fd) (body:=body) (binds:=names.zip vs) (by have:=R.depth;show A.depth<1000;exact fk 0xf113e81901f38419181a0ab0a0f this) (a.base _ _ ho) hdata (a.wf.nolimit.keeps a.base) (hcd.keeps a.base) hbody (hbind vs hv) hclo (fun x hx=>?_) (fun s₁ I=>?_) hco hgen hk
 ·rcases hpar x.1 (dF (a:=x.1) (b:=x.2) hx).1 with e|⟨e,e'⟩;·exact .inl e
  ·exact .inr ⟨e,e' _⟩
 ·obtain⟨⟨⟨h',tk,rfl⟩,ns,keep,fresh⟩,cell,apart,above⟩:=I;have nodup:=kl (vs:=vs) hnd;have hnone:∀c,s.heap.objs.size<=c->X.h₀.get? c=none:=fun c hc=>by cases e:X.h₀.get? c with|none=>rfl|some o=>exact absurd (am (a.base _ _ e)) (Nat.not_lt.mpr hc)
  have hcs:∀n c,(callEnvC fd s.heap.objs.size f).cells.lookup n=some c->s.heap.objs.size<c:=fun n c e=>above n c (mem_of_lookup e);have hpl:∀b o,s.heap.get? b=some o->¬g6 (callEnvC fd s.heap.objs.size f) b:=fun b o e hp=>by
   have:=am e;rcases hp with rfl|⟨n,hn⟩;·exact cq _ this
   ·exact cq _ (Nat.lt_trans this (hcs n b hn))
  have hlk:∀x v,(x,v)∈names.zip vs->Lk h' (callEnvC fd s.heap.objs.size f) x v:=fun x v hm=>by
   rcases hpar x (dF hm).1 with e|⟨e,e'⟩;·exact .inl ⟨e,_,ns,n6 (kindOf:=(callEnvC fd s.heap.objs.size f).kindOf) e _ _ nodup hm⟩
   ·obtain⟨c,hc⟩:=Option.isSome_iff_exists.mp (e' (s.heap.objs.size+1));refine .inr (.inl ⟨e,c,hc,?_⟩);have:=cell x c hc;rwa [nu (kindOf:=(callEnvC fd s.heap.objs.size f).kindOf) (by show fd.scope.names.lookup x≠_;rw[e];exact fun q=>by cases q) _ _ nodup hm]at this
  have r:gE X bad (fun _=>none) (callEnvC fd s.heap.objs.size f) (names.zip (ds.map B.val)) {s with heap:=h',toks:=tk}:={
   wf:=a.wf
   base:=fun b o e=>keep _ _ (a.base b o e)
   gens:=a.gens
   os:=a.os
   ok:=⟨hk,hg,hb⟩
   frm:=⟨⟨_,ns⟩,fun n c e=>⟨_,cell n c e⟩,fun n c e=>cm (hcs n c e),fun n n' c e e'=>name_of_addr apart (mem_of_lookup e) (mem_of_lookup e'),hnone _ (aH _),fun n c e=>hnone _ (cS (hcs n c e))⟩
   holds:=fun x b e=>by refine jq (lT q e) fun v d'' hm e' rv=>?_;subst e';exact .val (hlk x v hm) (rv.map fun a o _ _ hb e _=>⟨fun h=>h.elim hb fun⟨_,e⟩=>(by cases e),keep _ _ e⟩)
   inj:=fun x y l e=>by cases e
   low:=fun b e=>(low b e).imp fun _ ho=>keep _ _ ho
   good:=fun x l e=>by cases e
   dat:=hdat};refine aF (h s.heap.objs.size ds d hF _ bad _ _ ⟨R.handled,?_,?_⟩ r) (fun fl s' p=>?_) fun _ _ x=>x.elim;·have:=R.depth;show A.depth+1+_<=_;exact fk 0xf113841910ab180aa0f38419181a0ab0a0f this
  ·have:=R.units;show A.units+3+_<=_;exact fk 0xf11232829164b380aa0f232829181a64b0a0f this
  ·obtain⟨f',ρ',O',rfl,⟨v,rfl,rv⟩,st,r'⟩:=p;exact⟨v,rfl,⟨st.ext keep hpl fun _=>rfl,r'.gens.trans a.gens.symm,r'.os.trans a.os.symm⟩,rv⟩
section
variable{X:Cx}{k:Nat}{env:Env}{ρ:List (Str×B)}{Q:Fl->List (Str×B)->Prop}
theorem Bd{x:Str}{p pos:Pos}{e:Expr}{es:List Expr}{ds:List PyData}{d:PyData}{f:Addr}{o:Obj}{fd:FuncData}{F:List PyData->PyData->Prop}(hx:X.gl x=some (.ref f))(hk:env.kindOf x=some .globalImplicit)(ho:X.h₀.get? f=some o)(hdat:o.data=.func fd)(hf:Fi X k f F)(ha:qy X k env ρ pos (e::es) ds)(hF:F ds d)(hd:autoParam ((x==("__debug__":Str))=false) aD)(he:autoParam (starEach (e::es) env=(false,eval e env)::starEach es env) aR):Ev X k env ρ (.Call (.Name x p) (e::es) [] pos) d:=fun A bad O s R r=>by
 refine bE (g9 r hx hk ?_ hd)
 refine cG (o:=o) (fd:=fd) (ha.args he R r fun vs s1 x1 r1 q1=>⟨⟨r1.base _ _ ho,hdat⟩,?_⟩)
 refine bO (au (hf A (fv bad O) s1 vs ds d R r1.at (gZ r1) r1.datO q1 hF) fun res s2 h=>?_)
 refine qe h ?_;rintro v rfl x2 q2
 exact⟨x1.trans x2,q2⟩
theorem i7{p pos:Pos}{e:Expr}{ds:List PyData}(hx:X.gl ("len":Str)=some (.builtin "len"))(hk:env.kindOf ("len":Str)=some .globalImplicit)(he:uJ X k env ρ e ds)(hz:ds.length<=sizeLine)(hs:autoParam (starEach [e] env=[(false,eval e env)]) aR):Ev X k env ρ (.Call (.Name "len" p) [e] [] pos) (.int ds.length):=fun A bad O s R r=>by
 refine bE (g9 r hx hk ?_)
 refine bT (af (he.use R r fun a vs s1 x1 r1 l1 q1=>a0 ?_) hs) hs
 have hz':(sizeLine:Int)<2^63:=by decide
 have hzz:(ds.length:Int)<=(sizeLine:Int):=by exact_mod_cast hz
 have hl:vs.size=ds.length:=by rw[<-aE,q1.length]
 refine len_list (uB l1) (by rw[hl];exact fk 0xf1118000000000000000e90c4f8000000000000000e91c4100f hz hz') ⟨x1.trans (gQ.toks _ _),?_⟩
 rw[hl];exact .int _ _
def vr(X:Cx)(k:Nat)(env:Env)(ρ:List (Str×B))(e:Expr)(ds:List PyData):Prop:=
 ∀(A:Around) (bad:Addr->Prop) (O:Str->Option Addr) (s:Shared),gG k A->gE X bad O env ρ s->wpAny (model X.prog X.w) A (eval e env) (fun v s'=>gQ s s'/\∃l vs n,v=.ref l/\s.heap.get? l=none/\s'.heap.get? l=some {cls:=.type "list",data:=.seq vs n}/\RepL (fun a=>fv bad O a\/a=l) s'.heap ds vs.toList) g8 s
theorem yP{bad:Addr->Prop}{s:Shared}{ob:Obj}{ds:List PyData}{vs:List Value}(q:RepL bad s.heap ds vs):RepL (fun a=>bad a\/a=s.heap.objs.size) (s.heap.push ob) ds vs:=by
 refine RepL.keep (h:=s.heap) (fun b o _ _ _ e _=>aG _ e) (q.imp fun a o e h=>h.elim id fun h=>?_)
 subst h;exact absurd (am e) (cq _)
theorem iu{es:List Expr}{pos:Pos}{ds:List PyData}(h:qy X k env ρ pos es ds)(hz:ds.length<=sizeLine):vr X k env ρ (.List es pos) ds:=fun A bad O s R r=>
 wpAny_List (aF (h A bad O s R r) (fun vs s1 q=>⟨by rw[<-q.2.length];exact hz,q.1.trans (gQ.push _ _),_,_,_,rfl,q.1.none (iG _),aT _ rfl,by simpa using yP q.2⟩) fun _ _ x=>x)
theorem vr.ev{e:Expr}{ds:List PyData}(h:vr X k env ρ e ds):Ev X k env ρ e (.list ds):=fun A bad O s R r=>
 aF (h A bad O s R r) (fun v s1 q=>by obtain⟨x,l,vs,n,rfl,hl,hg,q⟩:=q;exact⟨x,.list (i3 r hl) hg (q.imp fun _ _ _ h=>.inl h)⟩) fun _ _ x=>x
theorem gE.none0{bad:Addr->Prop}{O:Str->Option Addr}{s:Shared}{l:Addr}(r:gE X bad O env ρ s)(h:s.heap.get? l=none):X.h₀.get? l=none:=by
 cases e:X.h₀.get? l with
 |none=>rfl
 |some o=>rw[r.base _ _ e]at h;cases h
theorem pu{A:Around}{bad:Addr->Prop}{O:Str->Option Addr}{s s1:Shared}{x:Str}{l:Addr}{vs:Array Value}{n:Nat}{ds:List PyData}{P:Unit->Shared->Prop}{E:Value->Shared->Prop}{M:Model}(r:gE X bad O env ρ s)(x1:gQ s s1)(hx:sO env x)(hl:s.heap.get? l=none)(hg:s1.heap.get? l=some {cls:=.type "list",data:=.seq vs n}) (q:RepL (fun a=>fv bad O a\/a=l) s1.heap ds vs.toList) (hq:∀s',f8 env O (qX O x l) s s'->gE X bad (qX O x l) env (put ρ x (.own ds)) s'->(∃p,g6 env p/\Heap.SameBut p s1.heap s'.heap)->P () s'):wpAny M A (storeName env x (.ref l)) P E s1:=by
 have r1:=r.ext x1
 refine sy r1.ok r1.frm hx fun h' t p hp _ hs hlk hk f'=>?_
 have kq:=oI r1.frm hp hs
 have nb:∀b o,b≠p->s1.heap.get? b=some o->h'.get? b=some o:=fun b o n e=>(hs.2 b n).trans e
 have hbl:¬fv bad O l:=i3 r hl
 have hpl:¬g6 env l:=fun h=>by obtain⟨o,ho⟩:=iM r.frm h;rw[hl]at ho;cases ho
 obtain⟨op,hop⟩:=iM f' hp
 have al:∀b o,s.heap.get? b=some o->∃o',h'.get? b=some o':=fun b o e=>lF hs hop b o (x1.keep _ _ e)
 exact hq _ ⟨fun b o hb ho e=>nb b o (fun q=>hb (q▸hp)) (x1.keep _ _ e),al,fun y l' e=>(iK e).elim (fun h=>.inr (h.2▸hl)) fun h=>.inl ⟨y,h.2⟩⟩ (r.joins (fun b o e=>nb b o (fun q=>by rw[q,n8 r1.frm hp]at e;cases e) (r1.base b o e)) x1.gens x1.os f' al hbl (r.none0 hl) hpl trivial (.own nT hlk (kq (fun _=>False) _ _ _ _ (fun h=>h) hg rfl) ((q.imp fun a o e h=>lw h).keep (kq _))) fun y c hy h=>h.move (fun u lu=>hk y u hy (lu.keep x1.keep)) (fun l'=>ry hy) (fun l' o h e=>nb l' o (fun q=>(r.good y l' h).2.2.1 (q▸hp)) (x1.keep _ _ e)) fun a o vs n hb e ed=>⟨fun h=>(lw h).elim hb fun z=>(by rw[z,hl]at e;cases e),kq (fv bad O) a o vs n hb (x1.keep _ _ e) ed⟩) ⟨p,hp,hs⟩
theorem xc{A:Around}{bad:Addr->Prop}{O:Str->Option Addr}{s s1:Shared}{x:Str}{l:Addr}{vs:Array Value}{n:Nat}{ds:List PyData}{P:Unit->Shared->Prop}{E:Value->Shared->Prop}{M:Model}(r:gE X bad O env ρ s)(x1:gQ s s1)(hx:sO env x)(hl:s.heap.get? l=none)(hg:s1.heap.get? l=some {cls:=.type "list",data:=.seq vs n}) (q:RepL (fun a=>fv bad O a\/a=l) s1.heap ds vs.toList) (hq:∀s',f8 env O (qX O x l) s s'->gE X bad (qX O x l) env (put ρ x (.own ds)) s'->P () s'):wpAny M A (storeName env x (.ref l)) P E s1:=pu r x1 hx hl hg q fun s' a b _=>hq s' a b
theorem hY{x:Str}{p pos:Pos}{e:Expr}{ds:List PyData}(he:vr X k env ρ e ds)(hx:sO env x)(hq:Q .next (put ρ x (.own ds)))(hs:autoParam (swapsWith e (some (.Name x p)) pos.line env=pure false) aR):jz X k env ρ (.Assign [.Name x p] e pos) Q:=fun A bad O s R r=>
 wpAny_Assign_Name (aF (he A bad O s R r) (fun v s1 h=>by obtain⟨x1,l,vs,n,rfl,hl,hg,q⟩:=h;exact xc r x1 hx hl hg q fun s2 st r2=>⟨.next,_,_,hq,rfl,st,r2⟩) fun _ _ x=>x) hs
end
section
variable{X:Cx}{k:Nat}{env:Env}{ρ:List (Str×B)}{Q:Fl->List (Str×B)->Prop}
theorem gE.turn{bad:Addr->Prop}{O:Str->Option Addr}{s:Shared}{x:Str}{l:Addr}{ds ds':List PyData}{vs':Array Value}{n':Nat}{h':Heap}{t:Nat}(r:gE X bad O env ρ s)(hx:ρ.lookup x=some (.own ds))(ho:O x=some l)(hs:Heap.SameBut l s.heap h')(hg:h'.get? l=some {cls:=.type "list",data:=.seq vs' n'}) (q:RepL (fv bad O) s.heap ds' vs'.toList):f8 env O O s {s with heap:=h',toks:=t}/\gE X bad O env (put ρ x (.own ds')) {s with heap:=h',toks:=t}:=by
 have kq:iN (fv bad O) s.heap h':=fun b o _ _ hb e _=>(hs.2 b fun q=>hb (q▸.inr ⟨x,ho⟩)).trans e
 have nb:∀b o,b≠l->s.heap.get? b=some o->h'.get? b=some o:=fun b o n e=>(hs.2 b n).trans e
 refine qY (r.own x ds hx) fun l₀ vs n ho' lk g _=>?_
 obtain rfl:l₀=l:=Option.some.inj (ho'.symm.trans ho)
 have np:∀p,g6 env p->p≠l₀:=fun p hp e=>by
  subst e;rcases hp with rfl|⟨n,hn⟩
  ·obtain⟨m,o',es,ep,ho,hd,_⟩:=r.frm.ns;rw[g]at ho;cases ho;cases hd
  ·obtain⟨v,o',ho,hd⟩:=r.frm.cell n p hn;rw[g]at ho;cases ho;cases hd
 have hlk:∀y u,Lk s.heap env y u->Lk h' env y u:=fun y u lk=>by
  rcases lk with⟨a,m',b,e⟩|⟨a,d,b,e⟩|⟨a,n,d,b,e⟩;·exact .inl ⟨a,m',b.sameBut hs (np _ (.inl rfl)),e⟩
  ·exact .inr (.inl ⟨a,d,b,e.sameBut hs (np _ (.inr ⟨y,b⟩))⟩)
  ·exact .inr (.inr ⟨a,n,d,b,e.sameBut hs (np _ (.inr ⟨y,b⟩))⟩)
 have al:=lF hs hg
 exact⟨⟨fun b o hb hO e=>nb b o (fun q=>hO x (q▸ho)) e,al,fun y l e=>.inl ⟨y,e⟩⟩,r.turns (fun b o e=>nb b o (fun q=>by have:=(r.good x l₀ ho).2.1;rw[<-q,e]at this;cases this) (r.base b o e)) rfl rfl ⟨r.frm.ns.imp fun _ a=>a.sameBut hs (np _ (.inl rfl)),fun n c e=>(r.frm.cell n c e).imp fun _ a=>a.sameBut hs (np _ (.inr ⟨n,e⟩)),r.frm.ne,r.frm.inj,r.frm.new,r.frm.newc⟩ al ho trivial (.own ho (hlk _ _ lk) hg (q.keep kq)) fun y c hy h=>h.move (hlk y) (fun _ e=>e) (fun l o h=>nb l o fun q=>hy (r.inj y x l₀ (q▸h) ho)) kq.map⟩
theorem oB{bad:Addr->Prop}{O:Str->Option Addr}{s:Shared}{x:Str}{ds:List PyData}(r:gE X bad O env ρ s)(hx:ρ.lookup x=some (.own ds)):∃l vs n,O x=some l/\Lk s.heap env x (.ref l)/\s.heap.get? l=some {cls:=.type "list",data:=.seq vs n}/\RepL (fv bad O) s.heap ds vs.toList:=r.own x ds hx
theorem oG{pl:Sem Bool}{x:Str}{name:Str}{id:String}{px apos cpos pos:Pos}{e:Expr}{es:List Expr}{ds as ds':List PyData}(hx:ρ.lookup x=some (.own ds))(slot:Slot "list" name id)(hty:typeOf (.builtin id)=pure (.type "method_descriptor"))(ha:qy X k env ρ cpos (e::es) as)(hcall:∀(A:Around) (bad:Addr->Prop) (s:Shared) (l:Addr) (vs:Array Value) (n:Nat) (us:List Value) (P:Value->Shared->Prop),gG k A->s.heap.get? l=some {cls:=.type "list",data:=.seq vs n}->¬bad l->RepL (fun a=>bad a\/a=l) s.heap ds vs.toList->RepL (fun a=>bad a\/a=l) s.heap as us->(∀h' t vs' n',Heap.SameBut l s.heap h'->h'.get? l=some {cls:=.type "list",data:=.seq vs' n'}->RepL (fun a=>bad a\/a=l) s.heap ds' vs'.toList->P .none {s with heap:=h',toks:=t})->wpAny (model X.prog X.w) A (call (.builtin id) (.ref l::us)) P g8 s) (hq:Q .next (put ρ x (.own ds'))) (hd:autoParam ((x==("__debug__":Str))=false) aD) (he:autoParam (eval (.Call (.Attribute (.Name x px) name apos) (e::es) [] cpos) env=(do
   let ov<-eval (.Name x px) env
   standAt apos.atName let(f,first)<-holding [ov] (getMethod ov name pl)callWith cpos f first (backTo cpos (starEach (e::es) env)) [])) aR) (hst:autoParam (starEach (e::es) env=(false,eval e env)::starEach es env) aR) (hplain:autoParam ((backTo cpos (starEach es env)).any (·.1)=false) aR) (hi:autoParam (interactive env=false) aR) (hs:autoParam (swapsWith (.Call (.Attribute (.Name x px) name apos) (e::es) [] cpos) none pos.line env=pure false) aR):jz X k env ρ (.Expr (.Call (.Attribute (.Name x px) name apos) (e::es) [] cpos) pos) Q:=fun A bad O s R r=>by
 refine qY (oB r hx) fun l vs n ho lk g q=>?_
 refine cg (MethodCall_ (bW (Lk.load r.ok.kind lk ?_) hd) he) hi hs
 refine cY slot hty ⟨_,g,rfl,_,rfl⟩ ⟨_,g,rfl⟩ (bT (aF (ha A bad O s R r) (fun us s1 h1=>?_) fun _ _ x=>x) hst hplain)
 have r1:=r.ext h1.1
 have g1:=h1.1.keep _ _ g
 have bl:∀a,(fv bad (lC O x) a\/a=l)->fv bad O a:=fun a h=>by
  rcases h with h|h;·exact kC h
  ·exact .inr ⟨x,h▸ho⟩
 have lb:∀a,fv bad O a->(fv bad (lC O x) a\/a=l):=fun a h=>by
  rcases h with h|⟨y,e⟩;·exact .inl (.inl h)
  ·by_cases hy:y=x;·subst hy;rw[ho]at e;exact .inr (Option.some.inj e).symm
   ·exact .inl (.inr ⟨y,by delta lC;rw[aL hy];exact e⟩)
 refine hcall A (fv bad (lC O x)) s1 l vs n us _ R g1 (fun h=>?_) ((q.ext h1.1).imp fun a _ _ h=>bl a h) (h1.2.imp fun a _ _ h=>bl a h) fun h' t vs' n' hs' hg' q'=>?_
 ·rcases h with h|⟨y,e⟩;·exact(r.good x l ho).1 h
  ·delta lC at e;split at e;·cases e
   ·rename_i hy;exact hy (r.inj y x l e ho)
 ·obtain⟨st,r2⟩:=r1.turn (t:=t) hx ho hs' hg' (q'.imp fun a _ _ h=>lb a h);exact⟨.next,_,O,hq,rfl,(f8.of_ext h1.1).trans st,r2⟩
end
section
variable{X:Cx}{k:Nat}{env:Env}{ρ:List (Str×B)}{Q:Fl->List (Str×B)->Prop}
theorem RepL.push{bad:Addr->Prop}{h:Heap}{ds:List PyData}{vs:Array Value}{d:PyData}{v:Value}(q:RepL bad h ds vs.toList)(r:gF bad h d v):RepL bad h (ds++[d]) (vs.push v).toList:=by
 rw[cX];exact q.append (.cons r .nil)
theorem gw{pl:Sem Bool}{x:Str}{px apos cpos pos:Pos}{e:Expr}{ds:List PyData}{d:PyData}(hx:ρ.lookup x=some (.own ds))(he:Ev X k env ρ e d)(hz:ds.length<=sizeLine)(hq:Q .next (put ρ x (.own (ds++[d]))))(hd:autoParam ((x==("__debug__":Str))=false) aD)(hm:autoParam (eval (.Call (.Attribute (.Name x px) "append" apos) [e] [] cpos) env=(do
   let ov<-eval (.Name x px) env
   standAt apos.atName let(f,first)<-holding [ov] (getMethod ov "append" pl)callWith cpos f first (backTo cpos (starEach [e] env)) [])) aR)(hst:autoParam (starEach [e] env=[(false,eval e env)]) aR)(hi:autoParam (interactive env=false) aR)(hs:autoParam (swapsWith (.Call (.Attribute (.Name x px) "append" apos) [e] [] cpos) none pos.line env=pure false) aR):jz X k env ρ (.Expr (.Call (.Attribute (.Name x px) "append" apos) [e] [] cpos) pos) Q:=
 oG hx dM dN (fg he fq hst) (fun A bad s l vs n us P R g hb q qu hP=>by
  refine qu.oneE fun v qv=>?_;have hl:vs.size=ds.length:=by rw[<-aE,q.length]
  refine cZ ⟨n,g⟩ (fun h' hp hs'=>?_) (by rw[hl];exact hz);obtain⟨n',g'⟩:=hp;exact hP h' s.toks _ n' hs' g' (q.push qv)) hq hd hm hst rfl hi hs
theorem xJ{pl:Sem Bool}{x:Str}{px apos cpos pos:Pos}{e:Expr}{ds es:List PyData}(hx:ρ.lookup x=some (.own ds))(he:Ev X k env ρ e (.list es))(hz:ds.length+es.length<=sizeLine)(hq:Q .next (put ρ x (.own (ds++es))))(hd:autoParam ((x==("__debug__":Str))=false) aD)(hm:autoParam (eval (.Call (.Attribute (.Name x px) "extend" apos) [e] [] cpos) env=(do
   let ov<-eval (.Name x px) env
   standAt apos.atName let(f,first)<-holding [ov] (getMethod ov "extend" pl)callWith cpos f first (backTo cpos (starEach [e] env)) [])) aR)(hst:autoParam (starEach [e] env=[(false,eval e env)]) aR)(hi:autoParam (interactive env=false) aR)(hs:autoParam (swapsWith (.Call (.Attribute (.Name x px) "extend" apos) [e] [] cpos) none pos.line env=pure false) aR):jz X k env ρ (.Expr (.Call (.Attribute (.Name x px) "extend" apos) [e] [] cpos) pos) Q:=
 oG hx cT PySem.F.type_list_extend (fg he fq hst) (fun A bad s l vs n us P R g hb q qu hP=>by
  refine qu.oneE fun v qv=>?_;refine qv.listE fun b ws m hb' g' qw=>?_;have hl:vs.size=ds.length:=by rw[<-aE,q.length]
  have hl':ws.size=es.length:=by rw[<-aE,qw.length]
  have hz':vs.size+ws.size<=sizeLine:=by rw[hl,hl'];exact hz
  refine call_meets cT ⟨_,g,rfl⟩ PySem.F.entry_list_extend (PySem.F.args_list_extend_2 _ _) (PySem.AutoSeq1.list_extend_list_list_0 l vs n b ws m (extend_door hz') (fu 0xf11200f210a0f hz') (fu 0xf11182a10a0f210a0f hz')) ⟨g,g',?_⟩;refine hP _ _ (vs++ws) (if(vs++ws).size==vs.size then n else n+1) (cj ..) ?_ (by simpa using q.append qw);exact aw _ g rfl) hq hd hm hst rfl hi hs
set_option tactic.hygienic true in
theorem vD {pl:Sem Bool}{x:Str}{px apos cpos pos:Pos}{i e:Expr}{ds:List PyData}{d:PyData}(hx:ρ.lookup x=some (.own ds)) (h0:Ev X k env ρ i (.int 0)) (he:Ev X k env ρ e d) (hz:ds.length<=sizeLine) (hq:Q .next (put ρ x (.own (d::ds)))) (hd:autoParam ((x==("__debug__":Str))=false) aD) (hm:autoParam (eval (.Call (.Attribute (.Name x px) "insert" apos) [i,e] [] cpos) env=(do
   let ov<-eval (.Name x px) env
   standAt apos.atName let(f,first)<-holding [ov] (getMethod ov "insert" pl)callWith cpos f first (backTo cpos (starEach [i,e] env)) [])) aR) (hst:autoParam (starEach [i,e] env=[(false,eval i env),(false,eval e env)]) aR) (hst2:autoParam (starEach [e] env=[(false,eval e env)]) aR) (hi:autoParam (interactive env=false) aR) (hs:autoParam (swapsWith (.Call (.Attribute (.Name x px) "insert" apos) [i,e] [] cpos) none pos.line env=pure false) aR):jz X k env ρ (.Expr (.Call (.Attribute (.Name x px) "insert" apos) [i,e] [] cpos) pos) Q:=
 oG hx PySem.F.slot_list_insert PySem.F.type_list_insert (fg h0 (fg he fq hst2) (by rw[hst,hst2])) (fun A bad s l vs n us P R g hb q qu hP=>by
  refine qu.twoE fun _ v qi qv=>qi.intE fun t=>?_;have hl:vs.size=ds.length:=by rw[<-aE,q.length]
  refine call_meets PySem.F.slot_list_insert ⟨_,g,rfl⟩ PySem.F.entry_list_insert (PySem.F.args_list_insert_3 _ _ _) (PySem.AutoListH.list_insert_list_int_val_1 l vs n 0 t v (by decide) (by rw[hl];exact hz)) ⟨g,?_⟩;refine hP _ _ (#[v]++vs) (if(#[v]++vs).size==vs.size then n else n+1) (cj ..) ?_ (by simpa using RepL.cons qv q);rw[aw _ g rfl];simp[Obj.mapSeq]) hq hd hm (by rw[hst,hst2]) (by rw[hst2];rfl) hi hs
theorem RepL.set{bad:Addr->Prop}{h:Heap}{d:PyData}{v:Value}(r:gF bad h d v){ds:List PyData}{vs:List Value}(q:RepL bad h ds vs):∀n,RepL bad h (ds.set n d) (vs.set n v):=
 q.ind (P:=fun ds vs=>∀n,RepL bad h (ds.set n d) (vs.set n v)) (fun _=>.nil) fun a b ih n=>by cases n with|zero=>exact .cons r b|succ n=>exact .cons a (ih n)
end
section
variable{X:Cx}{k:Nat}{env:Env}{ρ:List (Str×B)}{Q:Fl->List (Str×B)->Prop}
theorem gE.keepZB{bad:Addr->Prop}{O:Str->Option Addr}{s:Shared}{h':Heap}{t:Nat}{Z:Addr->Prop}(r:gE X bad O env ρ s)(hk:∀b o,¬Z b->s.heap.get? b=some o->h'.get? b=some o)(hp:∀b,Z b->¬g6 env b)(hO:∀b,Z b->∀x,O x≠some b)(hb:∀b,Z b->bad b->∃o,h'.get? b=some o)(h0:∀b,Z b->X.h₀.get? b=none)(hs:∀b o vs n,Z b->¬bad b->s.heap.get? b=some o->o.data≠.seq vs n):gE X bad O env ρ {s with heap:=h',toks:=t}:=by
 have kq:iN (fv bad O) s.heap h':=fun b o vs n hn e ed=>hk b o (fun z=>hs b o vs n z (fun h=>hn (.inl h)) e ed) e
 have hlk:∀y u,Lk s.heap env y u->Lk h' env y u:=fun y u lk=>by
  rcases lk with⟨a,m',b,e⟩|⟨a,d,b,e⟩|⟨a,n,d,b,e⟩;·exact .inl ⟨a,m',b.at' fun o ho=>hk _ o (fun z=>hp _ z (.inl rfl)) ho,e⟩
  ·obtain⟨o,ho,hd⟩:=e;exact .inr (.inl ⟨a,d,b,o,hk _ o (fun z=>hp _ z (.inr ⟨y,b⟩)) ho,hd⟩)
  ·obtain⟨o,ho,hd⟩:=e;exact .inr (.inr ⟨a,n,d,b,o,hk _ o (fun z=>hp _ z (.inr ⟨y,b⟩)) ho,hd⟩)
 exact{
  wf:=r.wf
  base:=fun b o e=>hk b o (fun z=>by rw[h0 b z]at e;cases e) (r.base b o e)
  gens:=r.gens
  os:=r.os
  ok:=r.ok
  frm:=⟨r.frm.ns.imp fun _ a=>a.at' fun o ho=>hk _ o (fun z=>hp _ z (.inl rfl)) ho,fun n c e=>(r.frm.cell n c e).imp fun _ h=>h.imp fun o q=>⟨hk _ o (fun z=>hp _ z (.inr ⟨n,e⟩)) q.1,q.2⟩,r.frm.ne,r.frm.inj,r.frm.new,r.frm.newc⟩
  holds:=fun y c e=>(r.holds y c e).move (hlk y) (fun _ e=>e) (fun l o h e=>hk l o (fun z=>hO _ z y h) e) kq.map
  inj:=r.inj
  low:=fun a e=>by
   obtain⟨o,ho⟩:=r.low a e;by_cases z:Z a;·exact hb a z e
   ·exact⟨o,hk a o z ho⟩
  good:=r.good
  dat:=r.dat}
theorem gE.keepZ{bad:Addr->Prop}{O:Str->Option Addr}{s:Shared}{h':Heap}{t:Nat}{Z:Addr->Prop}(r:gE X bad O env ρ s)(hk:∀b o,¬Z b->s.heap.get? b=some o->h'.get? b=some o)(hp:∀b,Z b->¬g6 env b)(hO:∀b,Z b->∀x,O x≠some b)(hb:∀b,Z b->¬bad b)(h0:∀b,Z b->X.h₀.get? b=none)(hs:∀b o vs n,Z b->s.heap.get? b=some o->o.data≠.seq vs n):gE X bad O env ρ {s with heap:=h',toks:=t}:=
 r.keepZB hk hp hO (fun b z h=>absurd h (hb b z)) h0 fun b o vs n z _ e=>hs b o vs n z e
theorem gF.step{bad:Addr->Prop}{O O':Str->Option Addr}{s s':Shared}{h₀:Heap}{d:PyData}{v:Value}(q:gF (fv bad O) s.heap d v)(f:gk h₀ env s.heap)(st:f8 env O O' s s'):gF (fv bad O') s'.heap d v:=by
 have q':gF (fun a=>fv bad O a\/fv bad O' a) s.heap d v:=q.imp fun a o e h=>h.elim id fun h=>h.imp id fun⟨x,hx⟩=>by
  rcases st.new x a hx with h|h;·exact h
  ·rw[e]at h;cases h
 refine(q'.keep (h':=s'.heap) fun b o vs n hb e ed=>st.keep b o (fun hp=>?_) (fun x hx=>hb (.inl (.inr ⟨x,hx⟩))) e).imp fun _ _ _ h=>.inr h
 rcases hp with rfl|⟨n',hn⟩
 ·obtain⟨m,o',es,ep,ho,hd,_⟩:=f.ns;rw[ho]at e;cases e;rw[hd]at ed;cases ed
 ·obtain⟨v,o',ho,hd⟩:=f.cell n' b hn;rw[ho]at e;cases e;rw[hd]at ed;cases ed
def sk(X:Cx)(k:Nat)(env:Env)(ρ:List (Str×B))(target:Expr)(d:PyData)(ρ':List (Str×B)):Prop:=
 ∀(A:Around) (bad:Addr->Prop) (O:Str->Option Addr) (s:Shared) (v:Value),gG k A->gE X bad O env ρ s->gF (fv bad O) s.heap d v->wpAny (model X.prog X.w) A (assign target env v) (fun _ s'=>∃O',f8 env O O' s s'/\gE X bad O' env ρ' s') g8 s
theorem fo{x:Str}{p:Pos}{d:PyData}(hx:sO env x):sk X k env ρ (.Name x p) d (put ρ x (.val d)):=fun A bad O s v R r q=>
 cJ (k5 r hx q fun s' st r'=>⟨_,st,r'⟩)
def zW(X:Cx)(k:Nat)(env:Env)(ρ:List (Str×B))(ts:List Expr)(ds:List PyData)(ρ':List (Str×B)):Prop:=
 ∀(A:Around) (bad:Addr->Prop) (O:Str->Option Addr) (s:Shared) (vs:List Value),gG k A->gE X bad O env ρ s->RepL (fv bad O) s.heap ds vs->wpAny (model X.prog X.w) A (assignInOrder ((assignEach ts env).map (·.2)) vs) (fun _ s'=>∃O',f8 env O O' s s'/\gE X bad O' env ρ' s') g8 s
theorem jg:zW X k env ρ [] [] ρ:=fun A bad O s vs R r q=>q.nilE (aC ⟨O,f8.refl _ _ _,r⟩)
theorem RepL.step{bad:Addr->Prop}{O O':Str->Option Addr}{s s':Shared}{h₀:Heap}(f:gk h₀ env s.heap)(st:f8 env O O' s s'){ds:List PyData}{vs:List Value}(q:RepL (fv bad O) s.heap ds vs):RepL (fv bad O') s'.heap ds vs:=q.ind .nil fun a _ ih=>.cons (a.step f st) ih
theorem f9{t:Expr}{ts:List Expr}{d:PyData}{ds:List PyData}{ρ₁ ρ':List (Str×B)}(h:sk X k env ρ t d ρ₁)(hs:zW X k env ρ₁ ts ds ρ')(he:autoParam (assignEach (t::ts) env=(false,assign t env)::assignEach ts env) aR):zW X k env ρ (t::ts) (d::ds) ρ':=fun A bad O s vs R r q=>by
 refine q.consE fun _ _ qv qs=>?_
 rw[he]
 refine aA (ah (aF (h A bad O s _ R r qv) (fun _ s1 p=>?_) fun _ _ x=>x))
 refine gR p fun O1 st r1=>?_
 refine aF (hs A bad O1 s1 _ R r1 (qs.step r.frm st)) (fun _ s2 p=>?_) fun _ _ x=>x
 refine gR p fun O2 st2 r2=>?_
 exact⟨O2,st.trans st2,r2⟩
theorem kt{ts:List Expr}{n:Nat}{p:Pos}{ds:List PyData}{ρ':List (Str×B)}(h:zW X k env ρ ts ds ρ')(hn:(assignEach ts env).length=ds.length)(hstar:(assignEach ts env).findIdx? (·.1)=none):sk X k env ρ (.Tuple ts n p) (.tuple ds) ρ':=fun A bad O s v R r q=>by
 refine jq q.isTup ?_;rintro a vs rfl l qs
 have hl:vs.size=ds.length:=by rw[<-aE,qs.length]
 refine fF R.handled l (by rw[hl];exact hn) hstar fun h' he=>?_
 have x1:gQ s {s with heap:=h'}:=⟨fun b o e=>he b o (bQ (am e)) e,rfl,rfl⟩
 refine aF (h A bad O {s with heap:=h'} vs.toList R (r.ext x1) (qs.ext x1)) (fun _ s2 p=>?_) fun _ _ x=>x
 refine gR p fun O2 st2 r2=>?_
 exact⟨O2,(f8.of_ext x1).trans st2,r2⟩
end
structure It(X:Cx)(A:Around)(bad:Addr->Prop)(O:Str->Option Addr)(s s2:Shared)(items:List PyData)(I:Addr)(fp wr:List Addr)(P:Nat->Value->Prop)(St:Nat->Heap->Prop):Prop where
 walks:Walks X.prog X.w A I fp wr items.length P St
 start:St 0 s2.heap
 new:∀b∈wr,s.heap.get? b=none
 live:∀i h,St i h->∀b∈fp,∃o,h.get? b=some o
 noseq:∀i h,St i h->∀b∈wr,∀o vs n,h.get? b=some o->o.data≠.seq vs n
 item:∀i v,P i v->∃d,items[i]?=some d/\gF (fv bad O) s2.heap d v
 lets:∀i (s:Shared) (target:Expr) (v:Value) (Q:Unit->Shared->Prop) (E:Value->Shared->Prop),St i s.heap->Q () s->wpAny (model X.prog X.w) A (letOwnedTupleGo target (.ref I) v) Q E s
def oJ(O:Str->Option Addr)(env:Env)(fp wr:List Addr):Prop:=∀b∈fp,b∈wr\/(¬g6 env b/\∀x,O x≠some b)
def Do(X:Cx)(k:Nat)(env:Env)(ρ:List (Str×B))(e:Expr)(items:List PyData):Prop:=
 ∀(A:Around) (bad:Addr->Prop) (O:Str->Option Addr) (s:Shared),gG k A->gE X bad O env ρ s->wpAny (model X.prog X.w) A (eval e env) (fun v s1=>wpAny (model X.prog X.w) A (pyIter v) (fun it s2=>gQ s s2/\∃I fp wr P St,it=.ref I/\It X A bad O s s2 items I fp wr P St) g8 s1) g8 s
def yh(X:Cx)(k:Nat)(env:Env)(ρ:List (Str×B))(e:Expr)(items:List PyData):Prop:=
 ∀(A:Around) (bad:Addr->Prop) (O:Str->Option Addr) (s:Shared),gG k A->gE X bad O env ρ s->wpAny (model X.prog X.w) A (eval e env) (fun v s1=>wpAny (model X.prog X.w) A (pyIter v) (fun it s2=>gQ s s2/\∃I fp wr P St,it=.ref I/\It X A bad O s s2 items I fp wr P St/\oJ O env fp wr) g8 s1) g8 s
theorem yh.weak{X:Cx}{k:Nat}{env:Env}{ρ:List (Str×B)}{e:Expr}{items:List PyData}(h:yh X k env ρ e items):Do X k env ρ e items:=fun A bad O s R r=>
 aF (h A bad O s R r) (fun v s1 h1=>aF h1 (fun it s2 h2=>h2.imp id fun h=>E9 h fun I fp wr P St e t _=>⟨I,fp,wr,P,St,e,t⟩) fun _ _ x=>x) fun _ _ x=>x
structure x8(wr:List Addr)(env:Env)(O O':Str->Option Addr)(s s':Shared):Prop where
 keep:∀b o,b∉wr->¬g6 env b->(∀x,O x≠some b)->s.heap.get? b=some o->s'.heap.get? b=some o
 alive:∀b o,s.heap.get? b=some o->∃o',s'.heap.get? b=some o'
 new:∀x l,O' x=some l->(∃y,O y=some l)\/s.heap.get? l=none
theorem x8.then{wr:List Addr}{env:Env}{O O' O'':Str->Option Addr}{s s' s'':Shared}(a:x8 wr env O O' s s')(b:f8 env O' O'' s' s''):x8 wr env O O'' s s'' where
 keep:=fun c o hw hp ho e=>b.keep c o hp (fun x hx=>by
  rcases a.new x c hx with⟨y,hy⟩|h;·exact ho y hy
  ·rw[e]at h;cases h) (a.keep c o hw hp ho e)
 alive:=fun c o e=>(a.alive c o e).elim (b.alive c)
 new:=fun x l e=>by
  rcases b.new x l e with⟨y,hy⟩|h;·exact a.new y l hy
  ·refine .inr ?_;cases q:s.heap.get? l with|none=>rfl|some o=>obtain⟨o',e'⟩:=a.alive l o q;rw[e']at h;cases h
theorem x8.step{wr:List Addr}{env:Env}{O O':Str->Option Addr}{s s2 s':Shared}(x:gQ s s2)(hw:∀b∈wr,s.heap.get? b=none)(a:x8 wr env O O' s2 s'):f8 env O O' s s' where
 keep:=fun b o hp ho e=>a.keep b o (fun h=>by rw[hw b h]at e;cases e) hp ho (x.keep _ _ e)
 alive:=fun b o e=>a.alive b o (x.keep _ _ e)
 new:=fun y l e=>(a.new y l e).imp id x.none
section
variable{X:Cx}{k:Nat}{env:Env}{ρ:List (Str×B)}{Q:Fl->List (Str×B)->Prop}
theorem gF.stz{wr:List Addr}{bad:Addr->Prop}{O O':Str->Option Addr}{s s':Shared}{h₀:Heap}{d:PyData}{v:Value}(q:gF (fv bad O) s.heap d v)(f:gk h₀ env s.heap)(hns:∀b∈wr,∀o vs n,s.heap.get? b=some o->o.data≠.seq vs n)(st:x8 wr env O O' s s'):gF (fv bad O') s'.heap d v:=by
 have q':gF (fun a=>fv bad O a\/fv bad O' a) s.heap d v:=q.imp fun a o e h=>h.elim id fun h=>h.imp id fun⟨x,hx⟩=>by
  rcases st.new x a hx with h|h;·exact h
  ·rw[e]at h;cases h
 refine(q'.keep (h':=s'.heap) fun b o vs n hb e ed=>st.keep b o (fun hw=>hns b hw o vs n e ed) (fun hp=>?_) (fun x hx=>hb (.inl (.inr ⟨x,hx⟩))) e).imp fun _ _ _ h=>.inr h
 rcases hp with rfl|⟨n',hn⟩
 ·obtain⟨m,o',es,ep,ho,hd,_⟩:=f.ns;rw[ho]at e;cases e;rw[hd]at ed;cases ed
 ·obtain⟨v,o',ho,hd⟩:=f.cell n' b hn;rw[ho]at e;cases e;rw[hd]at ed;cases ed
theorem mc{P:Addr->Prop}{a:Addr}{l:List Addr}(h:P a)(t:∀x∈l,P x):∀x∈a::l,P x:=List.forall_mem_cons.mpr ⟨h,t⟩
theorem m1{P:Addr->Prop}{a:Addr}(h:P a):∀x∈[a],P x:=List.forall_mem_singleton.mpr h
theorem Am{a b:Addr}{l:List Addr}(h:a≠b)(g:a∉l):a∉b::l:=List.not_mem_cons_of_ne_of_not_mem h g
theorem pQ{h:Heap}{b:Addr}{o':Obj}{D:Data}(e:h.get? b=some o')(d:o'.data=D)(hd:∀vs n,D≠.seq vs n)(o:Obj)(vs:Array Value)(n:Nat)(eo:h.get? b=some o)(ed:o.data=.seq vs n):False:=hd vs n (d.symm.trans ((congrArg Obj.data (Option.some.inj (e.symm.trans eo))).trans ed))
structure Dr(X:Cx)(A:Around)(bad:Addr->Prop)(O:Str->Option Addr)(env:Env)(s s2:Shared)(target:Expr)(items:List PyData)(I:Addr)(fp wr:List Addr)(St:Nat->Heap->Prop):Prop where
 sub:∀b∈wr,b∈fp
 frame:∀i h h',St i h->(∀b∈fp,∀o,h.get? b=some o->h'.get? b=some o)->St i h'
 start:St 0 s2.heap
 new:∀b∈wr,s.heap.get? b=none
 live:∀i h,St i h->∀b∈fp,∃o,h.get? b=some o
 noseq:∀i h,St i h->∀b∈wr,∀o vs n,h.get? b=some o->o.data≠.seq vs n
 apart:oJ O env fp wr
 item:∀i d (s':Shared) (N:Shared->Prop) (K:Value->Shared->Prop) (E E':Value->Shared->Prop),items[i]?=some d->St i s'.heap->(∀v h' tk,St (i+1) h'->(∀b o,b∉wr->s'.heap.get? b=some o->h'.get? b=some o)->(∀bd:Addr->Prop,(∀a,s'.heap.get? a=none->¬bd a)->(∀d v,gF (fv bad O) s2.heap d v->gF bd h' d v)->gF bd h' d v)->K v {s' with heap:=h',toks:=tk})->wpAny (model X.prog X.w) A (pyNext (.ref I)) (fun r s1=>match r with|none=>N s1|some v=>wpAny (model X.prog X.w) A (letOwnedTupleGo target (.ref I) v) (fun _ s2=>K v s2) E s1) E' s'
 done:∀(s':Shared) (Q:Option Value->Shared->Prop) (E:Value->Shared->Prop),St items.length s'.heap->(∀h' tk,(∀b o,b∉wr->s'.heap.get? b=some o->h'.get? b=some o)->Q none {s' with heap:=h',toks:=tk})->wpAny (model X.prog X.w) A (pyNext (.ref I)) Q E s'
theorem It.dr{A:Around}{bad:Addr->Prop}{O:Str->Option Addr}{s s2:Shared}{items:List PyData}{I:Addr}{fp wr:List Addr}{P:Nat->Value->Prop}{St:Nat->Heap->Prop}{target:Expr}(T:It X A bad O s s2 items I fp wr P St)(ap:oJ O env fp wr):Dr X A bad O env s s2 target items I fp wr St where
 sub:=T.walks.sub
 frame:=T.walks.frame
 start:=T.start
 new:=T.new
 live:=T.live
 noseq:=T.noseq
 apart:=ap
 item:=fun i d s' N K E E' hd hSt hK=>T.walks.item i s' _ _ (List.getElem?_eq_some_iff.mp hd).1 hSt fun v h' tk hP hSt' hk=>T.lets (i+1) _ _ _ _ _ hSt' (hK v h' tk hSt' hk fun bd _ tr=>by refine gR (T.item i v hP) fun d' hd' q=>?_;cases hd.symm.trans hd';exact tr _ _ q)
 done:=T.walks.done
theorem rc{h₀ h:Heap}{b:Addr}(f:gk h₀ env h)(e:h.get? b=none):¬g6 env b:=fun p=>by
 obtain⟨o,ho⟩:=iM f p
 cases e.symm.trans ho
theorem yl{h h':Heap}{b:Addr}(k:∀b o,h.get? b=some o->∃o',h'.get? b=some o')(e:h'.get? b=none):h.get? b=none:=by
 cases q:h.get? b with
 |none=>rfl
 |some o=>obtain⟨o',e'⟩:=k b o q;cases e.symm.trans e'
theorem x8.refl{wr:List Addr}{O:Str->Option Addr}{s:Shared}:x8 wr env O O s s:=⟨fun _ _ _ _ _ e=>e,fun b o e=>⟨o,e⟩,fun x l e=>.inl ⟨x,e⟩⟩
section
variable{A:Around}{bad:Addr->Prop}{O O':Str->Option Addr}{s s2 s':Shared}{target:Expr}{items:List PyData}{I:Addr}{fp wr:List Addr}{St:Nat->Heap->Prop}
theorem Dr.out(T:Dr X A bad O env s s2 target items I fp wr St)(r:gE X bad O env ρ s)(st:x8 wr env O O' s2 s'):oJ O' env fp []:=fun b hb=>.inr (by
 have key:¬g6 env b/\∀x,O x≠some b:=(T.apart b hb).elim (fun h=>⟨rc r.frm (T.new b h),fun x hx=>i3 r (T.new b h) (.inr ⟨x,hx⟩)⟩) id
 refine⟨key.1,fun x hx=>?_⟩
 obtain⟨o,ho⟩:=T.live 0 _ T.start b hb
 rcases st.new x b hx with⟨y,hy⟩|h
 ·exact key.2 y hy
 ·cases h.symm.trans ho)
theorem oJ.keep(a:oJ O env fp [])(st:f8 env O O' s s'){b:Addr}(hb:b∈fp){o:Obj}(e:s.heap.get? b=some o):s'.heap.get? b=some o:=
 (a b hb).elim (fun h=>nomatch h) fun h=>st.keep b o h.1 h.2 e
theorem Dr.drawn(T:Dr X A bad O env s s2 target items I fp wr St)(r:gE X bad O env ρ s)(st:x8 wr env O O' s2 s'){ρ':List (Str×B)}(r':gE X bad O' env ρ' s'){i:Nat}(hSt:St i s'.heap){h':Heap}{tk:Nat}(hk:∀b o,b∉wr->s'.heap.get? b=some o->h'.get? b=some o):gE X bad O' env ρ' {s' with heap:=h',toks:=tk}:=
 r'.keepZ (Z:=fun b=>b∈wr) hk (fun b hb=>rc r.frm (T.new b hb)) (fun b hb=>(T.out r st b (T.sub b hb)).elim (fun h=>nomatch h) And.right) (fun b hb h=>i3 r (T.new b hb) (.inl h)) (fun b hb=>yl (fun b o e=>⟨o,r.base b o e⟩) (T.new b hb)) (fun b o vs n hb e=>T.noseq i _ hSt b hb o vs n e)
theorem Dr.turned(T:Dr X A bad O env s s2 target items I fp wr St)(st:x8 wr env O O' s2 s'){i:Nat}{h':Heap}{tk:Nat}(hSt:St i h')(hk:∀b o,b∉wr->s'.heap.get? b=some o->h'.get? b=some o):x8 wr env O O' s2 {s' with heap:=h',toks:=tk}:=
 ⟨fun b o hw hp ho e=>hk b o hw (st.keep b o hw hp ho e),fun b o e=>by
  obtain⟨o',e'⟩:=st.alive b o e;by_cases hw:b∈wr;·exact T.live i _ hSt b (T.sub b hw)
  ·exact⟨o',hk b o' hw e'⟩,st.new⟩
end
theorem wS{n i:Nat}(h:i<n):n+1-(i+1)<n+1-i:=Nat.sub_lt_sub_left (ca h) (dU i)
noncomputable abbrev SP:=(Addr->Prop)->(Str->Option Addr)->Shared->Prop
def rT(X:Cx)(env:Env)(bad:Addr->Prop)(O:Str->Option Addr)(s:Shared)(Q:Fl->List (Str×B)->SP)(fl:Flow)(s':Shared):Prop:=
 ∃f ρ' O',Q f ρ' bad O' s'/\EZ bad s'.heap f fl/\f8 env O O' s s'/\gE X bad O' env ρ' s'
def l6(X:Cx)(k:Nat)(env:Env)(ρ:List (Str×B))(P:SP)(ss:List Stmt)(Q:Fl->List (Str×B)->SP):Prop:=
 ∀(A:Around) (bad:Addr->Prop) (O:Str->Option Addr) (s:Shared),gG k A->gE X bad O env ρ s->P bad O s->wpAny (model X.prog X.w) A (execs ss env) (rT X env bad O s Q) g8 s
def sh(X:Cx)(k:Nat)(env:Env)(ρ:List (Str×B))(P:SP)(st:Stmt)(Q:Fl->List (Str×B)->SP):Prop:=
 ∀(A:Around) (bad:Addr->Prop) (O:Str->Option Addr) (s:Shared),gG k A->gE X bad O env ρ s->P bad O s->wpAny (model X.prog X.w) A (exec st env) (rT X env bad O s Q) g8 s
def n9(X:Cx)(env:Env)(P:SP):Prop:=∀bad O O' s s' ρ,gE X bad O env ρ s->f8 env O O' s s'->P bad O s->P bad O' s'
def iJ(env:Env)(W:Addr->Prop)(O:Str->Option Addr)(s:Shared):Prop:=∀b,W b->∃o,s.heap.get? b=some o/\(∀vs n,o.data≠.seq vs n)/\¬g6 env b/\∀x,O x≠some b
def CR(J:List (Str×B)->SP)(Q:Fl->List (Str×B)->SP)(f:Fl)(ρ:List (Str×B)):SP:=fun bad O s=>match f with
 |.next|.cont=>J ρ bad O s
 |.brk=>Q .next ρ bad O s
 |.ret d=>Q (.ret d) ρ bad O s
theorem rH{Q:Fl->List (Str×B)->SP}{target:Expr}{body:List Stmt}{items:List PyData}{A:Around}{bad:Addr->Prop}{O:Str->Option Addr}{s s2:Shared}{I:Addr}{fp wr:List Addr}{St:Nat->Heap->Prop}(R:gG k A)(r:gE X bad O env ρ s)(x2:gQ s s2)(T:Dr X A bad O env s s2 target items I fp wr St)(J:Nat->List (Str×B)->(Addr->Prop)->SP)(h0:∀W:Addr->Prop,(∀b,W b->s.heap.get? b=none)->J 0 ρ W bad O s2)(hst:∀i ρ W,n9 X env (J i ρ W))(hdr:∀i ρ W bad O s h' tk,J i ρ W bad O s->(∀b o,¬W b->s.heap.get? b=some o->h'.get? b=some o)->J i ρ W bad O {s with heap:=h',toks:=tk}) (turn:∀i d ρ' W,items[i]?=some d->(∃bad O s,J i ρ' W bad O s)->∃ρ₁,sk X k env ρ' target d ρ₁/\l6 X k env ρ₁ (fun bad O s=>J i ρ' W bad O s/\iJ env W O s) body (CR (fun ρ=>J (i+1) ρ W) Q)) (hend:∀ρ' W bad O s,J items.length ρ' W bad O s->Q .next ρ' bad O s):codeAny (model X.prog X.w) A (.forLoop target (.ref I) body [] env) (fun r s'=>match r with|.ok f=>rT X env bad O s Q f s'|.error e=>cameBackBy (model X.prog X.w) A env g8 e s') s2:=by
 refine codeAny_forLoop_any (fun n s'=>∃i ρ' O',n=items.length+1-i/\i<=items.length/\J i ρ' (fun b=>b∈wr) bad O' s'/\x8 wr env O O' s2 s'/\St i s'.heap/\gE X bad O' env ρ' s') ?_ (items.length+1) ⟨0,ρ,O,rfl,aV _,h0 _ T.new,.refl,T.start,r.ext x2⟩
 rintro n s' ⟨i,ρ',O',rfl,hi,hJ,st,hSt,r'⟩
 rcases Nat.lt_or_eq_of_le hi with hlt|rfl
 ·obtain⟨d,hd⟩:∃d,items[i]?=some d:=⟨_,aK hlt⟩;refine T.item i d s' _ _ _ _ hd hSt fun v h' tk hSt' hk hv=>?_;have st1:=T.turned (tk:=tk) st hSt' hk;have qv:=hv _ (fun a e=>i3 r' e) fun d v q=>q.stz (r.ext x2).frm (T.noseq 0 _ T.start) st1;refine gR (turn i d ρ' (fun b=>b∈wr) hd ⟨_,_,_,hJ⟩) fun ρ₁ ha hb=>?_;have hJ1:=hdr _ _ _ _ _ s' h' tk hJ hk;have rd:=T.drawn (tk:=tk) r st r' hSt hk;refine aF (ha A bad O' _ v R rd qv) (fun _ s3 p=>?_) fun _ _ x=>x.elim;refine gR p fun O3 st3 r3=>?_;have hJ3:=hst _ _ _ _ _ _ _ _ _ rd st3 hJ1;have hSt3:St (i+1) s3.heap:=T.frame _ _ _ hSt' fun b hb o=>(T.out r st1).keep st3 hb;replace st1:=st1.then st3;clear hv qv ha st3 hSt' hk r' st hJ hd hSt hJ1 rd;refine aF (hb A bad O3 s3 R r3 ⟨hJ3,fun b hb=>let⟨o,ho⟩:=T.live _ _ hSt3 b (T.sub b hb);let q:=((T.out r st1) b (T.sub b hb)).elim (fun h=>nomatch h) id;⟨o,ho,fun vs n=>T.noseq _ _ hSt3 b hb o vs n ho,q.1,q.2⟩⟩) (fun fl s4 p=>?_) fun _ _ x=>x.elim;obtain⟨f,ρ₂,O4,q,fi,st4,r4⟩:=p;have st14:=st1.then st4;have hSt4:St (i+1) s4.heap:=T.frame _ _ _ hSt3 fun b hb o=>(T.out r st1).keep st4 hb;clear st1 hSt3 hb;have hs:=st14.step x2 T.new;cases f with
  |next=>cases fi;exact⟨_,wS hlt,i+1,ρ₂,O4,rfl,hlt,q,st14,hSt4,r4⟩|cont=>cases fi;exact⟨_,wS hlt,i+1,ρ₂,O4,rfl,hlt,q,st14,hSt4,r4⟩|brk=>cases fi;exact⟨.next,ρ₂,O4,q,rfl,hs,r4⟩|ret d=>obtain⟨v,rfl,rv⟩:=fi;exact⟨.ret d,ρ₂,O4,q,⟨v,rfl,rv⟩,hs,r4⟩
 ·refine T.done s' _ _ hSt fun h' tk hk=>cf ⟨.next,ρ',O',hend ρ' _ _ _ _ (hdr _ _ _ _ _ s' h' tk hJ hk),rfl,?_,T.drawn r st r' hSt hk⟩;have s0:=st.step x2 T.new;have out:∀b o,s.heap.get? b=some o->b∉wr:=fun b o e hw=>by rw[T.new b hw]at e;cases e
  exact⟨fun b o hp ho e=>hk b o (out b o e) (s0.keep b o hp ho e),fun b o e=>(s0.alive b o e).imp fun o' e'=>hk b o' (out b o e) e',s0.new⟩
theorem sj{target:Expr}{body:List Stmt}{items:List PyData}{A:Around}{bad:Addr->Prop}{O:Str->Option Addr}{s s2:Shared}{I:Addr}{fp wr:List Addr}{St:Nat->Heap->Prop}(R:gG k A)(r:gE X bad O env ρ s)(x2:gQ s s2)(T:Dr X A bad O env s s2 target items I fp wr St)(J:Nat->List (Str×B)->Prop)(h0:J 0 ρ)(turn:∀i d ρ',items[i]?=some d->J i ρ'->∀Q',vU (J (i+1)) Q Q'->∃ρ₁,sk X k env ρ' target d ρ₁/\iP X k env ρ₁ body Q')(hend:∀ρ',J items.length ρ'->Q .next ρ'):codeAny (model X.prog X.w) A (.forLoop target (.ref I) body [] env) (fun r s'=>match r with|.ok f=>ox X env bad O s Q f s'|.error e=>cameBackBy (model X.prog X.w) A env g8 e s') s2:=
 au (rH (Q:=fun f ρ _ _ _=>Q f ρ) R r x2 T (fun i ρ _ _ _ _=>J i ρ) (fun _ _=>h0) (fun _ _ _ _ _ _ _ _ _ _ _ p=>p) (fun _ _ _ _ _ _ _ _ p _=>p) (fun i d ρ' W hd ⟨_,_,_,hJ⟩=>let⟨ρ₁,ha,hb⟩:=turn i d ρ' hd hJ _ Ck;⟨ρ₁,ha,fun A bad O s R r _=>aF (hb A bad O s R r) (fun fl s' ⟨f,ρ,O',q,p⟩=>⟨f,ρ,O',by cases f<;>exact q,p⟩) fun _ _ x=>x⟩) fun ρ' _ _ _ _ h=>hend ρ' h) fun res s' h=>by cases res<;>exact h
theorem tS{target:Expr}{body:List Stmt}{items:List PyData}{A:Around}{bad:Addr->Prop}{O:Str->Option Addr}{s s2:Shared}{it:Value}(R:gG k A)(r:gE X bad O env ρ s)(h2:gQ s s2/\∃I fp wr P St,it=.ref I/\It X A bad O s s2 items I fp wr P St/\oJ O env fp wr)(J:Nat->List (Str×B)->Prop)(h0:J 0 ρ)(turn:∀i d ρ',items[i]?=some d->J i ρ'->∀Q',vU (J (i+1)) Q Q'->∃ρ₁,sk X k env ρ' target d ρ₁/\iP X k env ρ₁ body Q')(hend:∀ρ',J items.length ρ'->Q .next ρ'):codeAny (model X.prog X.w) A (.forLoop target it body [] env) (fun r s'=>match r with|.ok f=>ox X env bad O s Q f s'|.error e=>cameBackBy (model X.prog X.w) A env g8 e s') s2:=by
 obtain⟨x2,I,fp,wr,P,St,rfl,T,Tap⟩:=h2
 exact sj R r x2 (T.dr Tap) J h0 turn hend
theorem ip{target iter:Expr}{body:List Stmt}{pos:Pos}{items:List PyData}(hit:yh X k env ρ iter items)(J:Nat->List (Str×B)->Prop)(h0:J 0 ρ)(turn:∀i d ρ',items[i]?=some d->J i ρ'->∀Q',vU (J (i+1)) Q Q'->∃ρ₁,sk X k env ρ' target d ρ₁/\iP X k env ρ₁ body Q')(hend:∀ρ',J items.length ρ'->Q .next ρ')(hs:autoParam (∀x,foldedSetIterable iter env x=pure x) aI):jz X k env ρ (.For target iter body [] pos) Q:=fun A bad O s R r=>by
 exact wpAny_For (aF (hit A bad O s R r) (fun v s1 h1=>aF h1 (fun it s2 h2=>tS R r h2 J h0 turn hend) fun _ _ x=>x) fun _ _ x=>x) hs
end
theorem pi{M:Model}{A:Around}{s:Shared}{I:Addr}{o:Obj}{T:String}{target:Expr}{v:Value}{Q:Unit->Shared->Prop}{E:Value->Shared->Prop}(ho:s.heap.get? I=some o)(hc:o.cls=.type T)(hT:["enumerate","zip","dict_itemiterator","dict_reverseitemiterator","odict_iterator","itertools.zip_longest","itertools.pairwise"].contains T=false)(h:Q () s):wpAny M A (letOwnedTupleGo target (.ref I) v) Q E s:=by
  have go:∀a b c,wpAny M A (letOwnedTupleGo (.Tuple a b c) (.ref I) v) Q E s:=fun a b c=>by cases v<;>first
      |exact aC h| (refine aA (wpAny_load ho ?_);rw[hc];cases o.data<;>first
           |exact aC h|(dsimp only;rw[hT];exact aC h))
  cases target<;>first|exact aC h|exact go [] 0 ⟨0,0,0,0⟩
section
variable{X:Cx}{k:Nat}{env:Env}{ρ:List (Str×B)}{Q:Fl->List (Str×B)->Prop}
theorem nV{A:Around}{bad:Addr->Prop}{O:Str->Option Addr}{s s1:Shared}{a:Addr}{vs:Array Value}{n:Nat}{items:List PyData}{P:Value->Shared->Prop}(R:gG k A)(x1:gQ s s1)(g:s1.heap.get? a=some {cls:=.type "list",data:=.seq vs n}) (qs:RepL (fv bad O) s1.heap items vs.toList) (hP:∀s2 I,gQ s s2->(∃P St,It X A bad O s s2 items I [I,a] [I] P St)->P (.ref I) s2):wpAny (model X.prog X.w) A (pyIter (.ref a)) P g8 s1:=by
 have il:s1.heap.IsList a vs:=⟨_,g,rfl,_,rfl⟩
 have hl:vs.size=items.length:=by rw[<-aE,qs.length]
 have hne:a≠s1.heap.objs.size:=bQ (am g)
 refine wpAny_pyIter_list il (hP _ _ (x1.trans (gQ.push _ _)) ⟨fun i v=>vs[i]?=some v,fun i h=>h.IsListIter s1.heap.objs.size a i/\h.IsList a vs,?_⟩)
 exact{
  walks:=hl▸Walks.list R.handled _ _ hne vs
  start:=⟨⟨_,aT _ rfl,rfl,rfl⟩,⟨_,aG _ g,rfl,_,rfl⟩⟩
  new:=fun b hb=>by simp at hb;subst hb;exact x1.none (iG _)
  live:=fun i h st b hb=>by
   simp at hb;rcases hb with rfl|rfl;·obtain⟨o,ho,_⟩:=st.1;exact⟨o,ho⟩
   ·obtain⟨o,ho,_⟩:=st.2;exact⟨o,ho⟩
  noseq:=fun i h st b hb o vs n e ed=>by simp at hb;subst hb;obtain⟨o',ho,hc,hd⟩:=st.1;rw[ho]at e;cases e;rw[hd]at ed;cases ed
  item:=fun i v hv=>by refine gR (qs.getV (by rw[ab];exact hv)) fun d hd q=>?_;exact⟨d,hd,q.keep fun b o _ _ _ e _=>aG _ e⟩
  lets:=fun i s target v Q E st hq=>by obtain⟨o',ho,hc,hd⟩:=st.1;exact pi ho hc (by decide) hq}
theorem iE{h₀ h:Heap}{a:Addr}{o:Obj}{vs:Array Value}{n:Nat}(f:gk h₀ env h)(g:h.get? a=some o)(ed:o.data=.seq vs n):¬g6 env a:=fun hp=>by
 rcases hp with rfl|⟨n',hn⟩
 ·obtain⟨m,o',es,ep,ho,hd,_⟩:=f.ns;rw[g]at ho;cases ho;rw[hd]at ed;cases ed
 ·obtain⟨v,o',ho,hd⟩:=f.cell n' _ hn;rw[g]at ho;cases ho;rw[hd]at ed;cases ed
theorem jK{e:Expr}{items:List PyData}(h:Ev X k env ρ e (.list items)):yh X k env ρ e items:=fun A bad O s R r=>h.use R r fun v s1 x1 r1 q1=>by
 refine q1.listE fun a vs n hb g qs=>?_
 refine nV R x1 g qs fun s2 I x2 t=>?_
 obtain⟨P,St,t⟩:=t
 refine⟨x2,I,_,_,P,St,rfl,t,fun b hb'=>?_⟩
 simp at hb'
 rcases hb' with rfl|rfl
 ·exact .inl (by simp)
 ·exact .inr ⟨iE r1.frm g rfl,fun x hx=>hb (.inr ⟨x,hx⟩)⟩
theorem zm{e:Expr}{items:List PyData}(h:uJ X k env ρ e items):Do X k env ρ e items:=fun A bad O s R r=>h.use R r fun a vs s1 x1 r1 l1 q1=>by
 obtain⟨n,g⟩:=l1
 refine nV R x1 g q1 fun s2 I x2 t=>?_
 obtain⟨P,St,t⟩:=t
 exact⟨x2,I,_,_,P,St,rfl,t⟩
theorem gE.freeze{bad:Addr->Prop}{O:Str->Option Addr}{s:Shared}{x:Str}{ds:List PyData}(r:gE X bad O env ρ s)(hx:ρ.lookup x=some (.own ds)):gE X bad (lC O x) env (put ρ x (.val (.list ds))) s:=by
 refine qY (r.own x ds hx) fun l vs n ho lk g q=>?_
 have hb:¬fv bad (lC O x) l:=fun h=>by
  rcases h with h|⟨y,e⟩;·exact(r.good x l ho).1 h
  ·exact(iX e).1 (r.inj y x l (iX e).2 ho)
 have km:∀a o vs n,¬fv bad O a->s.heap.get? a=some o->o.data=.seq vs n->¬fv bad (lC O x) a/\s.heap.get? a=some o:=fun a o vs n h e ed=>⟨fun h'=>h (kC h'),e⟩
 exact r.drops r.base rfl rfl r.frm (fun b o e=>⟨o,e⟩) (.val lk (.list hb g (q.map km))) fun y c hy h=>h.move (fun _ l=>l) (fun l=>vE hy) (fun _ _ _ e=>e) km
theorem jA{x:Str}{ds:List PyData}{ss:List Stmt}(hx:ρ.lookup x=some (.own ds))(h:iP X k env (put ρ x (.val (.list ds))) ss Q):iP X k env ρ ss Q:=fun A bad O s R r=>
 h.from R (O':=lC O x) ⟨fun _ _ _ _ e=>e,fun b o e=>⟨o,e⟩,fun y l e=>.inl ⟨y,by delta lC at e;split at e;cases e;exact e⟩⟩ (r.freeze hx)
end
noncomputable def gO(a c:Int)(n:Nat):List PyData:=(List.range n).map fun(i:Nat)=>PyData.int (a+(i:Int)*c)
theorem fx(a c:Int)(n:Nat):(gO a c n).length=n:=by simp[gO]
theorem hH{a c:Int}{n i:Nat}(h:i<n):(gO a c n)[i]?=some (.int (a+(i:Int)*c)):=by simp[gO,h]
section
variable{X:Cx}{k:Nat}{env:Env}{ρ:List (Str×B)}{Q:Fl->List (Str×B)->Prop}
theorem qJ{A:Around}{bad:Addr->Prop}{O:Str->Option Addr}{s s1:Shared}{r:Addr}{a b c:Int}{t u v:Tok}(R:gG k A)(x1:gQ s s1)(hr:IsRange s1.heap r a b c t u v)(hs:Builtin.Range.small a b c=true)(m:Nat)(h0:Builtin.Range.rangeSize a b c=m):wpAny (model X.prog X.w) A (pyIter (.ref r)) (fun it s2=>gQ s s2/\∃I fp wr P St,it=.ref I/\It X A bad O s s2 (gO a c m) I fp wr P St/\oJ O env fp wr) g8 s1:=by
 refine wpAny_pyIter_range hr hs ⟨x1.trans (gQ.push _ _),s1.heap.objs.size,[s1.heap.objs.size],[s1.heap.objs.size],fun i v=>i<m/\∃t,v=.int (a+i*c) t,fun i h=>IsRangeIter h s1.heap.objs.size (a+(i:Nat)*c) ((m:Int)-(i:Nat)) c,rfl,?_,fun b hb=>.inl hb⟩
 exact{
  walks:=by have W:=Walks.range (prog:=X.prog) (w:=X.w) (A:=A) R.handled s1.heap.objs.size a c m;rw[fx];exact{sub:=W.sub,frame:=W.frame,done:=W.done,self:=W.self,item:=fun i s Q E hi st hQ=>W.item i s Q E hi st fun v h' tk hP=>hQ v h' tk ⟨hi,hP⟩}
  start:=by show Heap.get? _ _=_;rw[aT _ rfl];simp[h0]
  new:=fun b hb=>by simp at hb;subst hb;exact x1.none (iG _)
  live:=fun i h st b hb=>by simp at hb;subst hb;exact⟨_,st⟩
  noseq:=fun i h st b hb o vs n e ed=>by simp at hb;subst hb;have:=st.symm.trans e;cases this;cases ed
  item:=fun i v hv=>by obtain⟨hi,t,rfl⟩:=hv;exact⟨_,hH hi,.int _ _⟩
  lets:=fun i s target v Q E st hq=>pi st rfl (by decide) hq}
theorem jJ{a b:Int}:Builtin.Range.rangeSize a b 1=((b-a).toNat:Int):=by
 delta Builtin.Range.rangeSize
 simp only[show((1:Int)>0)=True by simp,fO,Int.ediv_one]
 split
 ·rename_i h;exact iz [] [_,_] 0xf1108f18ff110f11ff0c181801dda5f104f0801d5 h
 ·rename_i h;exact iz [] [_,_] 0xf108f118ff1f0c085f1046f0801d5 h
theorem lj{a b:Int}:Builtin.Range.rangeSize a b (-1)=((a-b).toNat:Int):=by
 delta Builtin.Range.rangeSize
 simp only[show((-1:Int)>0)=False by simp,bZ,Int.neg_neg,Int.ediv_one]
 split
 ·rename_i h;exact iz [] [_,_] 0xf1108f18ff110f11ff0c181801dda5f104f0801d5 h
 ·rename_i h;exact iz [] [_,_] 0xf108f118ff1f0c085f1046f0801d5 h
theorem nA{a b:Int}(ha:-(2^40)<=a/\a<=2^40)(hb:-(2^40)<=b/\b<=2^40):Builtin.Range.small a b 1=true:=by
 delta Builtin.Range.small
 rw[jJ]
 simp only[Builtin.Range.rangeFitsLong,ad,aQ,ch,ea]
 simp only[show((1:Int)>0)=True by simp,fO,ad,aQ]
 exact iz [] [_,_] 0xf1f1f100010f10010f108f100118ff1f1f1f10001f1001f101f11f8000000000000000e91818d1a41818d1a8000000000000000e9e37080c588000000000000000e90c40c8000000000000000e9e378000000000000000e9184188000000000000000e9e378000000000000000e91418000000000000000e9e378000000000000000e90408000000000000000e9e377777f10000000000991311000000000099e310000000000990301000000000099e3f0801d5 ha.1 ha.2 hb.1 hb.2
theorem vS{a b:Int}(ha:-(2^40)<=a/\a<=2^40)(hb:-(2^40)<=b/\b<=2^40):Builtin.Range.small a b (-1)=true:=by
 delta Builtin.Range.small
 rw[lj]
 simp only[Builtin.Range.rangeFitsLong,ad,aQ,ch,ea]
 simp only[show((-1:Int)>0)=False by simp,bZ,ad,aQ]
 exact iz [] [_,_] 0xf1f1f100010f10010f108f11018ff1f1f1f10001f1001f101f11f8000000000000000e91818ea1a41818ea1a8000000000000000e9e37080c588000000000000000e90c40c8000000000000000e9e378000000000000000e918e418e8000000000000000e9e378000000000000000e91418000000000000000e9e378000000000000000e90408000000000000000e9e377777f10000000000991311000000000099e310000000000990301000000000099e3f0810d5 ha.1 ha.2 hb.1 hb.2
theorem kD{A:Around}{bad:Addr->Prop}{O:Str->Option Addr}{s:Shared}{x:Str}{T:String}{p pos:Pos}{e:Expr}{es:List Expr}{ds:List PyData}{P:Value->Shared->Prop}(R:gG k A)(r:gE X bad O env ρ s)(hx:X.gl x=some (.type T))(hk:env.kindOf x=some .globalImplicit)(ha:qy X k env ρ pos (e::es) ds)(hq:∀vs s',gQ s s'->gE X bad O env ρ s'->RepL (fv bad O) s'.heap ds vs->wpAny (model X.prog X.w) A (call (.type T) vs) P g8 s')(hd:autoParam ((x==("__debug__":Str))=false) aD)(he:autoParam (starEach (e::es) env=(false,eval e env)::starEach es env) aR)(hplain:autoParam ((backTo pos (starEach (e::es) env)).any (·.1)=false) aR):wpAny (model X.prog X.w) A (eval (.Call (.Name x p) (e::es) [] pos) env) P g8 s:=by
 refine bE (g9 r hx hk ?_ hd)
 exact eC hplain (ha.args he R r fun vs s1 x1 r1 q1=>hq vs s1 x1 r1 q1)
theorem i9{p pos:Pos}{e:Expr}{n:Int}(hx:X.gl ("range":Str)=some (.type "range"))(hk:env.kindOf ("range":Str)=some .globalImplicit)(h:Ev X k env ρ e (.int n))(hn:-(2^40)<=n/\n<=2^40)(he:autoParam (starEach [e] env=[(false,eval e env)]) aR):yh X k env ρ (.Call (.Name "range" p) [e] [] pos) (gO 0 1 n.toNat):=fun A bad O s R r=>
 kD R r hx hk (fg h fq he) (fun vs s1 x1 r1 q1=>by refine q1.oneE fun v qa=>qa.intE fun t=>?_;refine call_range_1 ?_;refine qJ (a:=0) (b:=n) (c:=1) R ?_ (aT _ rfl) (nA (iz [] [] 0xf1f1f1000000000099083081000000000099e37ff) hn) _ (by rw[jJ,Int.sub_zero]);exact x1.trans ⟨fun b o e=>aG _ e,rfl,rfl⟩) (by decide) he (by rw[he];rfl)
theorem lI{p pos:Pos}{e e':Expr}{a b:Int}(hx:X.gl ("range":Str)=some (.type "range"))(hk:env.kindOf ("range":Str)=some .globalImplicit)(h:Ev X k env ρ e (.int a))(h':Ev X k env ρ e' (.int b))(ha:-(2^40)<=a/\a<=2^40)(hb:-(2^40)<=b/\b<=2^40)(he:autoParam (starEach [e,e'] env=[(false,eval e env),(false,eval e' env)]) aR)(he':autoParam (starEach [e'] env=[(false,eval e' env)]) aR):yh X k env ρ (.Call (.Name "range" p) [e,e'] [] pos) (gO a 1 (b-a).toNat):=fun A bad O s R r=>
 kD R r hx hk (fg h (fg h' fq he') (by rw[he,he'])) (fun vs s1 x1 r1 q1=>by refine q1.twoE fun v w qa qb=>qa.intE fun t=>qb.intE fun u=>?_;refine call_range_2 ?_;refine qJ (a:=a) (b:=b) (c:=1) R ?_ (aT _ rfl) (nA ha hb) _ jJ;exact x1.trans ⟨fun b o e=>aG _ e,rfl,rfl⟩) (by decide) (by rw[he,he']) (by rw[he];rfl)
theorem uV{p pos:Pos}{e e' e'':Expr}{a b:Int}(hx:X.gl ("range":Str)=some (.type "range"))(hk:env.kindOf ("range":Str)=some .globalImplicit)(h:Ev X k env ρ e (.int a))(h':Ev X k env ρ e' (.int b))(h'':Ev X k env ρ e'' (.int (-1)))(ha:-(2^40)<=a/\a<=2^40)(hb:-(2^40)<=b/\b<=2^40)(he:autoParam (starEach [e,e',e''] env=[(false,eval e env),(false,eval e' env),(false,eval e'' env)]) aR)(he':autoParam (starEach [e',e''] env=[(false,eval e' env),(false,eval e'' env)]) aR)(he'':autoParam (starEach [e''] env=[(false,eval e'' env)]) aR):yh X k env ρ (.Call (.Name "range" p) [e,e',e''] [] pos) (gO a (-1) (a-b).toNat):=fun A bad O s R r=>
 kD R r hx hk (fg h (fg h' (fg h'' fq he'') (by rw[he',he''])) (by rw[he,he'])) (fun vs s1 x1 r1 q1=>by refine q1.consE fun _ _ qa qr=>qr.twoE fun _ _ qb qc=>qa.intE fun _=>qb.intE fun _=>qc.intE fun _=>?_;refine call_range_3 (by decide) ?_ (.inl (PyProof.noPylong_of_log2 (by decide+kernel)));refine qJ (a:=a) (b:=b) (c:=-1) R ?_ (aT _ rfl) (vS ha hb) _ lj;exact x1.trans ⟨fun b o e=>aG _ e,rfl,rfl⟩) (by decide) (by rw[he,he']) (by rw[he];rfl)
end
theorem q8{elt t i:Expr}{ifs:List Expr}{gens:List Comprehension}{sc:Scope}{p:Pos}{d:Nat}{it acc:Value}{env:Env}(hg:gens[d]?=some ⟨t,i,ifs,0⟩)(hn:gens[d+1]?=none):compTurn (.ListComp elt gens sc p) d it acc env=(do standAt i.pos match<-pyNext it with
   |none=>pure (.done .next)|some v=>
    letOwnedTupleGo t it v
    assign t env v let mut ok:=true
    for c in ifs do if ok then ok<-isTrue c env (eval c env)
    if ok then(do let _<-call (.builtin "list.append") [acc,<-eval elt env])
    again (.compLoop (.ListComp elt gens sc p) d it acc env)):=by
 delta compTurn
 dsimp only
 rw[hg,hn]
 rfl
theorem rB{prog:Program}{w:World}{A:Around}{R:Result->Shared->Prop}{s:Shared}{elt t i:Expr}{ifs:List Expr}{gens:List Comprehension}{sc:Scope}{p:Pos}{d:Nat}{it acc:Value}{env:Env}(hg:gens[d]?=some ⟨t,i,ifs,0⟩)(h0:codeAny (model prog w) A (.compLoop (.ListComp elt gens sc p) d it acc env) R s)(h:wpAny (model prog w) A (pyIter it) (fun it' s'=>codeAny (model prog w) A (.compLoop (.ListComp elt gens sc p) d it' acc env) R s') g8 s):codeAny (model prog w) A (.compStart (.ListComp elt gens sc p) d it acc env) R s:=by
 refine codeAny_of_tree ?_
 show wpAny _ _ ((compStart (.ListComp elt gens sc p) d it acc env).onRaise (fun x=>do noteFrame x env;standAt theWindowsPlace)) _ _ s
 refine wpAny_notedAt ?_
 delta compStart
 have e1:(clausesOf (.ListComp elt gens sc p))[d]?=some ⟨t,i,ifs,0⟩:=hg
 rw[e1]
 show wpAny _ _ (ask>>=_) _ _ s
 refine aA (wpAny_askSetting (wpAny_ite ?_))
 split
 ·first|exact aA (aC (aC (And.intro rfl h0)))|exact aC (And.intro rfl h0)
 ·first|exact aA (ce (aA (cr (aA (aF h (fun it' s' h'=>aC (And.intro rfl h')) fun _ _ x=>x.elim)))))|exact ce (aA (cr (aA (aF h (fun it' s' h'=>aC (And.intro rfl h')) fun _ _ x=>x.elim))))
noncomputable abbrev nO:Str->Option Addr:=fun _=>none
theorem nf{bad:Addr->Prop}{a:Addr}(h:fv bad nO a):bad a:=h.elim id fun⟨_,e⟩=>by cases e
structure Aj(X:Cx)(bad:Addr->Prop)(env:Env)(ρ:List (Str×B))(D:Addr)(outs:List PyData)(s:Shared):Prop where
 rel:gE X bad nO env ρ s
 acc:∃vs n,s.heap.get? D=some {cls:=.type "list",data:=.seq vs n}/\RepL bad s.heap outs vs.toList
 new:X.h₀.get? D=none
def Ea(env:Env)(D:Addr)(s s':Shared):Prop:=∀b o,b≠env.locals->b≠D->s.heap.get? b=some o->s'.heap.get? b=some o
theorem Aj.ext{X:Cx}{bad:Addr->Prop}{env:Env}{ρ:List (Str×B)}{D:Addr}{outs:List PyData}{s s':Shared}(c:Aj X bad env ρ D outs s)(x:gQ s s'):Aj X bad env ρ D outs s':=
 ⟨c.rel.ext x,c.acc.imp fun _ h=>h.imp fun _ q=>⟨x.keep _ _ q.1,q.2.ext x⟩,c.new⟩
theorem gE.sub{X:Cx}{bad:Addr->Prop}{env:Env}{ρ ρ':List (Str×B)}{s:Shared}(r:gE X bad nO env ρ' s)(h:∀y b,ρ.lookup y=some b->ρ'.lookup y=some b):gE X bad nO env ρ s:=
 ⟨r.wf,r.base,r.gens,r.os,r.ok,r.frm,fun y c e=>r.holds y c (h y _ e),r.inj,r.low,fun y l e=>(by cases e),r.dat⟩
section
variable{X:Cx}{k:Nat}{env:Env}{ρ:List (Str×B)}
theorem gE.turnB{bad:Addr->Prop}{s:Shared}{D:Addr}{h':Heap}{t:Nat}{o':Obj}(r:gE X bad nO env ρ s)(hD:bad D)(h0:X.h₀.get? D=none)(hp:¬g6 env D)(hs:Heap.SameBut D s.heap h')(ha:h'.get? D=some o'):gE X bad nO env ρ {s with heap:=h',toks:=t}:=by
 have nb:∀b o,b≠D->s.heap.get? b=some o->h'.get? b=some o:=fun b o n e=>(hs.2 b n).trans e
 have kq:iN (fv bad nO) s.heap h':=fun b o vs n hb e ed=>nb b o (fun q=>hb (.inl (q▸hD))) e
 have hlk:∀y u,Lk s.heap env y u->Lk h' env y u:=fun y u lk=>by
  rcases lk with⟨a,m',b,e⟩|⟨a,d,b,e⟩|⟨a,n,d,b,e⟩;·exact .inl ⟨a,m',b.at' fun o ho=>nb _ o (fun z=>hp (z▸.inl rfl)) ho,e⟩
  ·obtain⟨o,ho,hd⟩:=e;exact .inr (.inl ⟨a,d,b,o,nb _ o (fun z=>hp (z▸.inr ⟨y,b⟩)) ho,hd⟩)
  ·obtain⟨o,ho,hd⟩:=e;exact .inr (.inr ⟨a,n,d,b,o,nb _ o (fun z=>hp (z▸.inr ⟨y,b⟩)) ho,hd⟩)
 exact{
  wf:=r.wf
  base:=fun b o e=>nb b o (fun z=>by rw[z,h0]at e;cases e) (r.base b o e)
  gens:=r.gens
  os:=r.os
  ok:=r.ok
  frm:=⟨r.frm.ns.imp fun _ a=>a.at' fun o ho=>nb _ o (fun z=>hp (z▸.inl rfl)) ho,fun n c e=>(r.frm.cell n c e).imp fun _ h=>h.imp fun o q=>⟨nb _ o (fun z=>hp (z▸.inr ⟨n,e⟩)) q.1,q.2⟩,r.frm.ne,r.frm.inj,r.frm.new,r.frm.newc⟩
  holds:=fun y c e=>(r.holds y c e).move (hlk y) (fun _ e=>e) (fun _ _ h=>by cases h) kq.map
  inj:=r.inj
  low:=fun a e=>(r.low a e).elim (lF hs ha a)
  good:=fun _ _ e=>by cases e
  dat:=r.dat}
def BS(X:Cx)(k:Nat)(env:Env)(ρ:List (Str×B))(target:Expr)(d:PyData)(ρ':List (Str×B)):Prop:=
 ∀(A:Around) (bad:Addr->Prop) (s:Shared) (v:Value),gG k A->gE X bad nO env ρ s->gF (fv bad nO) s.heap d v->wpAny (model X.prog X.w) A (assign target env v) (fun _ s'=>(∀b o,b≠env.locals->s.heap.get? b=some o->s'.heap.get? b=some o)/\gE X bad nO env ρ' s') g8 s
theorem Db(x:Str):lC nO x=nO:=by funext y;delta lC;split<;>rfl
theorem j7{x:Str}{p:Pos}{d:PyData}(hx:env.kindOf x=some .local):BS X k env ρ (.Name x p) d (put ρ x (.val d)):=fun A bad s v R r q=>
 cJ (qK r (.inl hx) q fun s' st r' hk=>by rw[Db]at r';exact⟨hk hx,r'⟩)
def vc(X:Cx)(k:Nat)(env:Env)(ρ:List (Str×B))(ts:List Expr)(ds:List PyData)(ρ':List (Str×B)):Prop:=
 ∀(A:Around) (bad:Addr->Prop) (s:Shared) (vs:List Value),gG k A->gE X bad nO env ρ s->RepL (fv bad nO) s.heap ds vs->wpAny (model X.prog X.w) A (assignInOrder ((assignEach ts env).map (·.2)) vs) (fun _ s'=>(∀b o,b≠env.locals->s.heap.get? b=some o->s'.heap.get? b=some o)/\gE X bad nO env ρ' s') g8 s
theorem rF:vc X k env ρ [] [] ρ:=fun A bad s vs R r q=>q.nilE (aC ⟨fun _ _ _ e=>e,r⟩)
theorem nS{h₀ h h':Heap}(f:gk h₀ env h)(hk:∀b o,b≠env.locals->h.get? b=some o->h'.get? b=some o)(bad:Addr->Prop):iN bad h h':=fun b o vs n _ e ed=>hk b o (fun q=>by
 subst q
 obtain⟨m,o',es,ep,ho,hd,_⟩:=f.ns
 rw[ho]at e;cases e;rw[hd]at ed;cases ed) e
theorem lR{t:Expr}{ts:List Expr}{d:PyData}{ds:List PyData}{ρ₁ ρ':List (Str×B)}(h:BS X k env ρ t d ρ₁)(hs:vc X k env ρ₁ ts ds ρ')(he:autoParam (assignEach (t::ts) env=(false,assign t env)::assignEach ts env) aR):vc X k env ρ (t::ts) (d::ds) ρ':=fun A bad s vs R r q=>by
 refine q.consE fun _ _ qv qs=>?_
 rw[he]
 refine aA (ah (aF (h A bad s _ R r qv) (fun _ s1 p=>?_) fun _ _ x=>x))
 refine aF (hs A bad s1 _ R p.2 (qs.keep (nS r.frm p.1 _))) (fun _ s2 p2=>⟨fun b o hb e=>p2.1 b o hb (p.1 b o hb e),p2.2⟩) fun _ _ x=>x
theorem pz{ts:List Expr}{n:Nat}{p:Pos}{ds:List PyData}{ρ':List (Str×B)}(h:vc X k env ρ ts ds ρ')(hn:(assignEach ts env).length=ds.length)(hstar:(assignEach ts env).findIdx? (·.1)=none):BS X k env ρ (.Tuple ts n p) (.tuple ds) ρ':=fun A bad s v R r q=>by
 refine jq q.isTup ?_;rintro a vs rfl l qs
 have hl:vs.size=ds.length:=by rw[<-aE,qs.length]
 refine fF R.handled l (by rw[hl];exact hn) hstar fun h' he=>?_
 have x1:gQ s {s with heap:=h'}:=⟨fun b o e=>he b o (bQ (am e)) e,rfl,rfl⟩
 exact aF (h A bad {s with heap:=h'} vs.toList R (r.ext x1) (qs.ext x1)) (fun _ s2 p2=>⟨fun b o hb e=>p2.1 b o hb (x1.keep _ _ e),p2.2⟩) fun _ _ x=>x
def DY(X:Cx)(k:Nat)(env:Env)(ρ:List (Str×B))(ifs:List Expr)(b:Bool):Prop:=
 ∀(A:Around) (bad:Addr->Prop) (s:Shared),gG k A->gE X bad nO env ρ s->wpAny (model X.prog X.w) A (forIn ifs true fun c r=>if r=true then do let ok<-isTrue c env (eval c env);pure (ForInStep.yield ok)else pure (ForInStep.yield r)) (fun ok s'=>gQ s s'/\ok=b) g8 s
theorem pg:DY X k env ρ [] true:=fun A bad s R r=>wpAny_tests_nil ⟨gQ.refl s,rfl⟩
theorem zf{c:Expr}{b:Bool}(h:mM X k env ρ c b):DY X k env ρ [c] b:=fun A bad s R r=>wpAny_tests_one (h A bad nO s R r)
def FP(X:Cx)(k:Nat)(env:Env)(ρ:List (Str×B))(tree:Value->Sem PUnit)(o:List PyData):Prop:=
 ∀(A:Around) (bad:Addr->Prop) (D:Addr) (s:Shared) (outs:List PyData),gG k A->bad D->outs.length+o.length<=sizeLine->Aj X bad env ρ D outs s->wpAny (model X.prog X.w) A (tree (.ref D)) (fun _ s'=>Ea env D s s'/\Aj X bad env ρ D (outs++o) s') g8 s
theorem j9{elt:Expr}{d:PyData}(h:Ev X k env ρ elt d):FP X k env ρ (fun acc=>do let _<-call (.builtin "list.append") [acc,<-eval elt env]) [d]:=fun A bad D s outs R hD hz c=>
 aA (h.use R c.rel fun v s1 x1 r1 q1=>by
  have c1:=c.ext x1;refine yT c1.acc fun vs n g q=>?_;have hl:vs.size=outs.length:=by rw[<-aE,q.length]
  simp at hz;refine aA (cZ ⟨n,g⟩ (fun h' hp hs=>aC ?_) (fu 0xf181200f2181a0102f hl hz));obtain⟨n',g'⟩:=hp;refine⟨fun b o _ hb e=>(hs.2 b hb).trans (x1.keep _ _ e),r1.turnB hD c.new (iE r1.frm g rfl) hs g',⟨_,n',g',?_⟩,c.new⟩;refine RepL.push (q.keep fun b o _ _ hb e _=>(hs.2 b fun z=>hb (z▸hD)).trans e) ?_;exact(q1.imp fun a _ _ h=>.inl h).keep fun b o _ _ hb e _=>(hs.2 b fun z=>hb (z▸hD)).trans e)
end
noncomputable abbrev wT(ifs:List Expr)(env:Env):Sem Bool:=forIn ifs true fun c r=>if r=true then do let ok<-isTrue c env (eval c env);pure (ForInStep.yield ok)else pure (ForInStep.yield r)
theorem xI{X:Cx}{A:Around}{env:Env}{elt t i:Expr}{ifs:List Expr}{gens:List Comprehension}{sc:Scope}{p:Pos}{d:Nat}{acc:Value}(hg:gens[d]?=some ⟨t,i,ifs,0⟩)(hn:gens[d+1]?=none){it:Value}{P:Fin->Shared->Prop}{s:Shared}(h:wpAny (model X.prog X.w) A (pyNext it) (fun r s1=>match r with|none=>P (.done .next) s1|some v=>wpAny (model X.prog X.w) A (letOwnedTupleGo t it v) (fun _ s2=>wpAny (model X.prog X.w) A (assign t env v) (fun _ s3=>wpAny (model X.prog X.w) A (wT ifs env) (fun ok s4=>if ok=true then wpAny (model X.prog X.w) A (do let _<-call (.builtin "list.append") [acc,<-eval elt env]) (fun(_:PUnit)s5=>P (.again (.compLoop (.ListComp elt gens sc p) d it acc env)) s5) g8 s4 else P (.again (.compLoop (.ListComp elt gens sc p) d it acc env)) s4) g8 s3) g8 s2) g8 s1) g8 s):wpAny (model X.prog X.w) A (compTurn (.ListComp elt gens sc p) d it acc env) P g8 s:=by
 rw[q8 hg hn]
 refine aA (cr (aA (aF h (fun r s₁ h₁=>?_) fun _ _ h'=>h')))
 cases r with
 |none=>exact aC h₁
 |some v=>refine aA (aF h₁ (fun _ s₂ h₂=>aA (aF h₂ (fun _ s₃ h₃=>aA (aF h₃ (fun ok s₄ h₄=>?_) fun _ _ h'=>h')) fun _ _ h'=>h')) fun _ _ h'=>h');cases ok with|false=>exact aC h₄|true=>exact aA (aF h₄ (fun _ s₅ h₅=>aC h₅) fun _ _ h'=>h')
section
variable{X:Cx}{k:Nat}{env:Env}{ρ:List (Str×B)}
def DD(X:Cx)(k:Nat)(env:Env)(ρ:List (Str×B))(t:Expr)(ifs:List Expr)(tree:Value->Sem PUnit)(x:PyData)(o:List PyData):Prop:=
 ∃ρ₁ b,BS X k env ρ t x ρ₁/\(∀y c,ρ.lookup y=some c->ρ₁.lookup y=some c)/\DY X k env ρ₁ ifs b/\(b=true->FP X k env ρ₁ tree o)/\(b=false->o=[])
def AJ(c:Code)(P I:Shared->Prop):Fin->Shared->Prop
 |.done f,s=>f=.next/\P s
 |.again c',s=>c'=c/\I s
def EQ(X:Cx)(c:Expr)(d:Nat)(t:Expr)(ifs:List Expr)(tree:Value->Sem PUnit)(env:Env):Prop:=
 ∀{A:Around}{D I:Addr}{P:Fin->Shared->Prop}{s:Shared},wpAny (model X.prog X.w) A (pyNext (.ref I)) (fun r s1=>match r with|none=>P (.done .next) s1|some v=>wpAny (model X.prog X.w) A (letOwnedTupleGo t (.ref I) v) (fun _ s2=>wpAny (model X.prog X.w) A (assign t env v) (fun _ s3=>wpAny (model X.prog X.w) A (wT ifs env) (fun ok s4=>if ok=true then wpAny (model X.prog X.w) A (tree (.ref D)) (fun _ s5=>P (.again (.compLoop c d (.ref I) (.ref D) env)) s5) g8 s4 else P (.again (.compLoop c d (.ref I) (.ref D) env)) s4) g8 s3) g8 s2) g8 s1) g8 s->wpAny (model X.prog X.w) A (compTurn c d (.ref I) (.ref D) env) P g8 s
noncomputable abbrev kE(elt:Expr)(env:Env):Value->Sem PUnit:=fun acc=>do let _<-call (.builtin "list.append") [acc,<-eval elt env]
theorem nI{elt t i:Expr}{ifs:List Expr}{gens:List Comprehension}{sc:Scope}{p:Pos}{d:Nat}(hg:gens[d]?=some ⟨t,i,ifs,0⟩)(hn:gens[d+1]?=none):EQ X (.ListComp elt gens sc p) d t ifs (kE elt env) env:=by
 intro A D I P s h;exact xI hg hn h
end
section
variable{X:Cx}{k:Nat}{env:Env}{ρ ρc:List (Str×B)}
structure pW(env:Env)(ρ ρc:List (Str×B))(sc:Scope)(cl:List (Str×Addr)):Prop where
 clos:closureFor sc env=pure cl
 nocell:∀x∈sc.names,x.2≠.cell
 kind:sc.kind=.function
 names:∀x∈sc.names,x.2=.local->sc.names.lookup x.1=some .local
 sub:∀n c,cl.lookup n=some c->env.cells.lookup n=some c
 cap:∀y b,ρc.lookup y=some b->¬b.owns/\ρ.lookup y=some b/\env.kindOf y=some .cell/\(relabel sc env).names.lookup y=some .cell/\∃c,cl.lookup y=some c
structure Fd(X:Cx)(A:Around)(bad:Addr->Prop)(s:Shared)(target:Expr)(items:List PyData)(I:Addr)(fp wr:List Addr)(St:Nat->Heap->Prop):Prop where
 sub:∀b∈wr,b∈fp
 frame:∀i h h',St i h->(∀b∈fp,∀o,h.get? b=some o->h'.get? b=some o)->St i h'
 live:∀i h,St i h->∀b∈fp,∃o,h.get? b=some o
 noseq:∀i h,St i h->∀b∈wr,¬bad b->∀o vs n,h.get? b=some o->o.data≠.seq vs n
 item:∀i d (s':Shared) (N:Shared->Prop) (K:Value->Shared->Prop) (E E':Value->Shared->Prop),items[i]?=some d->St i s'.heap->(∀v h' tk,St (i+1) h'->(∀b o,b∉wr->s'.heap.get? b=some o->h'.get? b=some o)->(∀bd:Addr->Prop,(∀a,s'.heap.get? a=none->¬bd a)->(∀d v,gF bad s.heap d v->gF bd h' d v)->gF bd h' d v)->K v {s' with heap:=h',toks:=tk})->wpAny (model X.prog X.w) A (pyNext (.ref I)) (fun r s1=>match r with|none=>N s1|some v=>wpAny (model X.prog X.w) A (letOwnedTupleGo target (.ref I) v) (fun _ s2=>K v s2) E s1) E' s'
 done:∀(s':Shared) (Q:Option Value->Shared->Prop) (E:Value->Shared->Prop),St items.length s'.heap->(∀h' tk,(∀b o,b∉wr->s'.heap.get? b=some o->h'.get? b=some o)->Q none {s' with heap:=h',toks:=tk})->wpAny (model X.prog X.w) A (pyNext (.ref I)) Q E s'
structure Eh(X:Cx)(bad:Addr->Prop)(env:Env)(D:Addr)(outs:List PyData)(s:Shared):Prop where
 acc:∃vs n,s.heap.get? D=some {cls:=.type "list",data:=.seq vs n}/\RepL bad s.heap outs vs.toList
 ns:∃m,s.heap.Ns env.locals m
 gens:s.gens=#[]
 os:s.os=X.os₀
theorem uU{A:Around}{bad:Addr->Prop}{D I:Addr}{s:Shared}{elt t:Expr}{gens:List Comprehension}{sc:Scope}{p:Pos}{d:Nat}{ifs:List Expr}{tree:Value->Sem PUnit}{items outs:List PyData}{g:PyData->List PyData}{fp wr:List Addr}{St:Nat->Heap->Prop}(hturn:EQ X (.ListComp elt gens sc p) d t ifs tree env)(hb:∀x∈items,DD X k env ρ t ifs tree x (g x))(R:gG k A)(hD:bad D)(hz:outs.length+(items.flatMap g).length<=sizeLine)(W:Fd X A bad s t items I fp wr St)(hfD:D∉fp)(hfL:env.locals∉fp)(hfc:∀n c,env.cells.lookup n=some c->c∉wr)(hw0:∀b∈wr,X.h₀.get? b=none)(c:Aj X bad env ρ D outs s)(h0:St 0 s.heap):codeAny (model X.prog X.w) A (.compLoop (.ListComp elt gens sc p) d (.ref I) (.ref D) env) (fun r s'=>r=.ok .next/\Eh X bad env D (outs++items.flatMap g) s'/\∀b o,b∉wr->b≠env.locals->b≠D->s.heap.get? b=some o->s'.heap.get? b=some o) s:=by
 have wrfp:=W.sub
 have hwp:∀b∈wr,¬g6 env b:=fun b hb hp=>by
  rcases hp with rfl|⟨n,hn⟩;·exact hfL (wrfp _ hb)
  ·exact hfc n b hn hb
 refine codeAny_loop rfl (fun n s'=>∃i,n=items.length+1-i/\i<=items.length/\Aj X bad env ρ D (outs++(items.take i).flatMap g) s'/\St i s'.heap/\∀b o,b∉wr->b≠env.locals->b≠D->s.heap.get? b=some o->s'.heap.get? b=some o) ?_ (items.length+1) ⟨0,rfl,aV _,by simpa using c,h0,fun _ _ _ _ _ e=>e⟩
 rintro n s' ⟨i,rfl,hi,c',hSt,hk'⟩
 show wpAny _ A ((compTurn (.ListComp elt gens sc p) d (.ref I) (.ref D) env).onRaise (fun x=>do noteFrame x env;theTreesLotGoes x)) _ _ s'
 refine wpAny_noted ?_
 refine aF (Q:=AJ (.compLoop (.ListComp elt gens sc p) d (.ref I) (.ref D) env) (fun s'=>Eh X bad env D (outs++items.flatMap g) s'/\∀b o,b∉wr->b≠env.locals->b≠D->s.heap.get? b=some o->s'.heap.get? b=some o) (fun s'=>∃m,m<items.length+1-i/\∃i,m=items.length+1-i/\i<=items.length/\Aj X bad env ρ D (outs++(items.take i).flatMap g) s'/\St i s'.heap/\∀b o,b∉wr->b≠env.locals->b≠D->s.heap.get? b=some o->s'.heap.get? b=some o)) (E:=g8) ?_ (fun fin s' h=>?_) fun _ _ x=>x.elim
 rotate_left
 ·cases fin with|done f=>obtain⟨rfl,h⟩:=h;exact⟨rfl,h⟩|again c=>exact h
 have drawn:∀(j:Nat) (h':Heap) (tk:Nat),St j h'->(∀b o,b∉wr->s'.heap.get? b=some o->h'.get? b=some o)->Aj X bad env ρ D (outs++(items.take i).flatMap g) {s' with heap:=h',toks:=tk}:=fun j h' tk hS hk=>⟨c'.rel.keepZB (Z:=fun b=>b∈wr) hk hwp (fun b hb x hx=>by cases hx) (fun b hb _=>W.live j _ hS b (wrfp _ hb)) hw0 (fun b o vs n hb hn e=>W.noseq i _ hSt b hb hn o vs n e),by refine yT c'.acc fun vs n e q=>?_;exact⟨vs,n,hk D _ (fun h=>hfD (wrfp _ h)) e,q.keep fun b o vs n hn e ed=>hk b o (fun z=>W.noseq i _ hSt b z hn o vs n e ed) e⟩,c'.new⟩
 refine hturn ?_
 rcases a9 i items.length with hlt|hge
 ·obtain⟨x,hx⟩:∃x,items[i]?=some x:=⟨_,aK hlt⟩;refine W.item i x s' _ _ _ _ hx hSt fun v h' tk hSt' hk hv=>?_;have c1:=drawn _ h' tk hSt' hk;have k1:∀b o,b∉wr->b≠env.locals->b≠D->s.heap.get? b=some o->h'.get? b=some o:=fun b o a1 a2 a3 e=>hk b o a1 (hk' b o a1 a2 a3 e);have qv:gF bad h' x v:=hv bad (fun a e h=>by obtain⟨o,ho⟩:=c'.rel.low a h;rw[e]at ho;cases ho) fun d v qx=>qx.keep fun b o vs n hb e ed=>k1 b o (fun z=>W.noseq 0 _ h0 b z hb o vs n e ed) (fun z=>by subst z;obtain⟨m,o',es,ep,ho,hd,_⟩:=c.rel.frm.ns;rw[ho]at e;cases e;rw[hd]at ed;cases ed) (fun z=>hb (z▸hD)) e;obtain⟨ρ₁,b,ha,hsub,ht,hB,hN⟩:=hb x (ay hx);have hxs:items.take (i+1)=items.take i++[x]:=by rw[cI,hx];rfl
  have fold:(items.take (i+1)).flatMap g=(items.take i).flatMap g++g x:=by rw[hxs,cL];simp
  have hlen:(outs++(items.take i).flatMap g).length+(g x).length<=sizeLine:=by
   have e1:(items.flatMap g).length=((items.take (i+1)).flatMap g).length+((items.drop (i+1)).flatMap g).length:=by rw[<-aP,<-cL,bP]
   rw[fold,aP]at e1;rw[aP];exact jr 0xf1112430aa0f543aa12210a0f hz e1
  refine aF (ha A bad _ v R c1.rel (qv.imp fun a _ _ h=>nf h)) (fun _ s3 p3=>?_) fun _ _ x=>x;have hSt3:St (i+1) s3.heap:=W.frame _ _ _ hSt' fun b hb o e=>p3.1 b o (fun z=>hfL (z▸hb)) e;refine aF (ht A bad s3 R p3.2) (fun ok s4 p4=>?_) fun _ _ x=>x;obtain⟨x4,rfl⟩:=p4;have DL:D≠env.locals:=fun z=>by refine yT c1.acc fun vs n e q=>?_;obtain⟨m,o',es,ep,ho,hd,_⟩:=c1.rel.frm.ns;rw[z,ho]at e;cases e;cases hd
  have c4:Aj X bad env ρ₁ D (outs++(items.take i).flatMap g) s4:=⟨p3.2.ext x4,by refine yT c1.acc fun vs n e q=>?_;refine⟨vs,n,x4.keep _ _ (p3.1 _ _ DL e),(q.keep (nS c1.rel.frm p3.1 _)).ext x4⟩,c1.new⟩;have hSt4:St (i+1) s4.heap:=W.frame _ _ _ hSt3 fun b hb o e=>x4.keep _ _ e;have k4:∀b o,b∉wr->b≠env.locals->b≠D->s.heap.get? b=some o->s4.heap.get? b=some o:=fun b o a1 a2 a3 e=>x4.keep _ _ (p3.1 b o a2 (k1 b o a1 a2 a3 e));cases ok with
  |false=>rw[aL (by simp)];refine⟨rfl,items.length+1-(i+1),by exact fk 0xf1018f110108f321f101f0181a1180a181a0 hlt,i+1,rfl,hlt,?_,hSt4,k4⟩;rw[fold,hN rfl,ar];exact⟨c4.rel.sub hsub,c4.acc,c4.new⟩|true=>
   rw[aN rfl];refine aF (hB rfl A bad D s4 _ R hD hlen c4) (fun _ s5 p5=>?_) fun _ _ x=>x;refine⟨rfl,items.length+1-(i+1),by exact fk 0xf1018f110108f321f101f0181a1180a181a0 hlt,i+1,rfl,hlt,?_,?_,?_⟩
   ·rw[fold,<-av];exact⟨p5.2.rel.sub hsub,p5.2.acc,p5.2.new⟩
   ·exact W.frame _ _ _ hSt4 fun b hb o e=>p5.1 b o (fun z=>hfL (z▸hb)) (fun z=>hfD (z▸hb)) e
   ·exact fun b o a1 a2 a3 e=>p5.1 b o a2 a3 (k4 b o a1 a2 a3 e)
 ·have e:i=items.length:=Nat.le_antisymm hi hge;subst e;rw[d8]at c';refine W.done s' _ _ hSt fun h' tk hk=>⟨rfl,⟨?_,?_,c'.rel.gens,c'.rel.os⟩,fun b o a1 a2 a3 e=>hk b o a1 (hk' b o a1 a2 a3 e)⟩;·refine yT c'.acc fun vs n e q=>?_;exact⟨vs,n,hk D _ (fun h=>hfD (wrfp _ h)) e,q.keep fun b o vs n hn e ed=>hk b o (fun z=>W.noseq _ _ hSt b z hn o vs n e ed) e⟩
  ·obtain⟨m,hm⟩:=c'.rel.frm.ns;exact⟨m,hm.at' fun o ho=>hk _ o (fun z=>hfL (wrfp _ z)) ho⟩
structure Es(X:Cx)(A:Around)(bad:Addr->Prop)(O:Str->Option Addr)(s s2:Shared)(target:Expr)(items:List PyData)(I:Addr)(fp wr:List Addr)(bz:Addr->Prop)(St:Nat->Heap->Prop):Prop where
 sub:∀b∈wr,b∈fp
 frame:∀i h h',St i h->(∀b∈fp,∀o,h.get? b=some o->h'.get? b=some o)->St i h'
 start:St 0 s2.heap
 new:∀b∈wr,s.heap.get? b=none
 bw:∀b,bz b->b∈wr
 live:∀i h,St i h->∀b∈fp,∃o,h.get? b=some o
 noseq:∀i h,St i h->∀b∈wr,¬bz b->∀o vs n,h.get? b=some o->o.data≠.seq vs n
 item:∀i d (s':Shared) (N:Shared->Prop) (K:Value->Shared->Prop) (E E':Value->Shared->Prop),items[i]?=some d->St i s'.heap->(∀v h' tk,St (i+1) h'->(∀b o,b∉wr->s'.heap.get? b=some o->h'.get? b=some o)->(∀bd:Addr->Prop,(∀a,s'.heap.get? a=none->¬bd a)->(∀d v,gF (fun a=>fv bad O a\/bz a) s2.heap d v->gF bd h' d v)->gF bd h' d v)->K v {s' with heap:=h',toks:=tk})->wpAny (model X.prog X.w) A (pyNext (.ref I)) (fun r s1=>match r with|none=>N s1|some v=>wpAny (model X.prog X.w) A (letOwnedTupleGo target (.ref I) v) (fun _ s2=>K v s2) E s1) E' s'
 done:∀(s':Shared) (Q:Option Value->Shared->Prop) (E:Value->Shared->Prop),St items.length s'.heap->(∀h' tk,(∀b o,b∉wr->s'.heap.get? b=some o->h'.get? b=some o)->Q none {s' with heap:=h',toks:=tk})->wpAny (model X.prog X.w) A (pyNext (.ref I)) Q E s'
 self:∀i (s:Shared) (Q:Value->Shared->Prop) (E:Value->Shared->Prop),St i s.heap->Q (.ref I) s->wpAny (model X.prog X.w) A (pyIter (.ref I)) Q E s
def FF(X:Cx)(k:Nat)(env:Env)(ρ:List (Str×B))(e target:Expr)(items:List PyData):Prop:=
 ∀(A:Around) (bad:Addr->Prop) (O:Str->Option Addr) (s:Shared),gG k A->gE X bad O env ρ s->wpAny (model X.prog X.w) A (eval e env) (fun v s1=>wpAny (model X.prog X.w) A (pyIter v) (fun it s2=>gQ s s2/\∃I fp wr bz St,it=.ref I/\Es X A bad O s s2 target items I fp wr bz St) g8 s1) g8 s
theorem oP{A:Around}{bad:Addr->Prop}{O:Str->Option Addr}{s s2:Shared}{I:Addr}{fp wr:List Addr}{bz:Addr->Prop}{St:Nat->Heap->Prop}{elt t iter:Expr}{gs:List Comprehension}{tree:Env->Value->Sem PUnit}{ifs:List Expr}{sc:Scope}{p:Pos}{cl:List (Str×Addr)}{items:List PyData}{g:PyData->List PyData}{RR:Value->Addr->Result->Shared->Prop}(R:gG k A)(r:gE X bad O env ρ s)(x2:gQ s s2)(T:Es X A bad O s s2 t items I fp wr bz St)(hc:pW env ρ ρc sc cl)(hturn:∀C,EQ X (.ListComp elt (⟨t,iter,ifs,0⟩::gs) sc p) 0 t ifs (tree (compEnvC sc cl C env)) (compEnvC sc cl C env))(hb:∀C,∀x∈items,DD X k (compEnvC sc cl C env) ρc t ifs (tree (compEnvC sc cl C env)) x (g x))(hz:(items.flatMap g).length<=sizeLine)(hRR:∀D C s' vs n m',s2.heap.get? D=none->s2.heap.get? C=none->D≠C->s'.heap.Ns C m'->s'.heap.get? D=some {cls:=.type "list",data:=.seq vs n}->RepL (fun a=>fv bad O a\/a=D) s'.heap (items.flatMap g) vs.toList->(∀b o,b∉wr->s2.heap.get? b=some o->s'.heap.get? b=some o)->s'.gens=s2.gens->s'.os=s2.os->RR (.ref D) C (.ok .next) s'):wpAny (model X.prog X.w) A (newList []) (fun acc s3=>wpAny (model X.prog X.w) A (newFunctionEnv sc env.globals cl [] env.qual none .none (some env)) (fun cenv s4=>codeAny (model X.prog X.w) A (.compStart (.ListComp elt (⟨t,iter,ifs,0⟩::gs) sc p) 0 (.ref I) acc {cenv with scope:=relabel sc env}) (RR acc cenv.locals) s4) g8 s3) g8 s2:=by
 have r2:=r.ext x2
 refine dn (wpAny_newFunctionEnv hc.nocell (by intro y hy;simp at hy) (fun h₁ hns₁ hsb₁=>?_) hc.kind)
 dsimp only at hns₁ hsb₁|-
 generalize hH2:s2.heap.push {cls:=.type "list",dict:=none,data:=.seq ([]:List Value).toArray}=H2 at hns₁ hsb₁|-
 have hC:H2.objs.size=s2.heap.objs.size+1:=by rw[<-hH2,dw]
 have hDC:s2.heap.objs.size≠H2.objs.size:=by rw[hC];exact bQ (dU _)
 have old:∀b o,s2.heap.get? b=some o->h₁.get? b=some o:=fun b o e=>hsb₁.extBut b o (by rw[hC];exact bQ (ca (am e))) (aG _ (hH2▸aG _ e))
 have hacc:h₁.get? s2.heap.objs.size=some {cls:=.type "list",data:=.seq #[]}:=hsb₁.extBut _ _ hDC (aG _ (hH2▸aT _ rfl))
 have fresh:∀a,s2.heap.objs.size<=a->s2.heap.get? a=none:=fun a ha=>by cases e:s2.heap.get? a with
  |none=>rfl|some o'=>exact absurd (am e) (Nat.not_lt.mpr ha)
 have fresh0:∀a,s2.heap.get? a=none->X.h₀.get? a=none:=fun a ha=>by cases e:X.h₀.get? a with
  |none=>rfl|some o'=>rw[r2.base _ _ e]at ha;cases ha
 have fD:=fresh _ (aH s2.heap.objs.size)
 have fC:=fresh H2.objs.size (by rw[hC];exact f5 0xf1180a00ff)
 generalize s2.heap.objs.size=D at*
 generalize H2.objs.size=C at*
 have live:=T.live 0 _ T.start
 have hDf:D∉fp:=fun h=>by obtain⟨o,ho⟩:=live _ h;rw[fD]at ho;cases ho
 have hCf:C∉fp:=fun h=>by obtain⟨o,ho⟩:=live _ h;rw[fC]at ho;cases ho
 have celA:∀n c,cl.lookup n=some c->∃v,s2.heap.IsCell c v:=fun n c e=>r2.frm.cell n c (hc.sub n c e)
 have up:∀{d v},gF (fun a=>fv bad O a\/bz a) s2.heap d v->gF (fun a=>fv bad O a\/a=D\/bz a) h₁ d v:=fun q=>(q.imp fun a o e h=>h.elim .inl fun z=>z.elim (fun z=>by rw[z,fD]at e;cases e) .inr).keep fun b o _ _ _ e _=>old b o e
 have rel:∀tk,gE X (fun a=>fv bad O a\/a=D\/bz a) nO (compEnvC sc cl C env) ρc {s2 with heap:=h₁,toks:=tk}:=fun tk=>{
  wf:=r.wf
  base:=fun b o e=>old _ _ (r2.base b o e)
  gens:=r2.gens
  os:=r2.os
  ok:=⟨hc.kind,r.ok.globals,r.ok.builtins⟩
  frm:=⟨⟨_,hns₁⟩,fun n c e=>(celA n c e).imp fun _ h=>h.imp fun _ q=>⟨old _ _ q.1,q.2⟩,fun n c e z=>(by obtain⟨v,o,ho,hd⟩:=celA n c e;have z':c=C:=z;rw[z',fC]at ho;cases ho),fun n n' c e e'=>r2.frm.inj n n' c (hc.sub n c e) (hc.sub n' c e'),fresh0 _ fC,fun n c e=>r2.frm.newc n c (hc.sub n c e)⟩
  holds:=fun y b e=>by
   refine Bb (hc.cap y _ e) ?_;rintro e1 e2 e3 e4 ⟨c,e5⟩;have lkc:∀v,Lk s.heap env y v->Lk h₁ (compEnvC sc cl C env) y v:=fun v lk=>by
    refine .inr (.inl ⟨e4,c,e5,?_⟩);rcases lk with⟨a,_⟩|⟨a,c',b,o,ho,hd⟩|⟨a,_⟩;·rw[e3]at a;cases a
    ·rw[hc.sub y c e5]at b;cases b;exact⟨o,old _ _ (x2.keep _ _ ho),hd⟩
    ·rw[e3]at a;cases a
   cases r.holds y b e2 with
   |val lk q=>exact .val (lkc _ lk) ((up ((q.imp fun a o e h=>h.elim id fun z=>by rw[T.new a (T.bw a z)]at e;cases e).ext x2)).imp fun a _ _ h=>nf h)|raw lk=>exact .raw (lkc _ lk)|free=>exact .free|own _ _ _ _=>exact(e1 trivial).elim|«at» _ _=>exact(e1 trivial).elim|lst _ _ _=>exact(e1 trivial).elim
  dat:=fun d v e=>(r.dat d v e).imp fun a o e' h=>by
   rcases h with(h|⟨y,hy⟩)|h|h;·exact h
   ·rw[(r.good y a hy).2.1]at e';cases e'
   ·rw[h,fresh0 _ fD]at e';cases e'
   ·have:=T.new a (T.bw a h);rw[r.base _ _ e']at this;cases this
  inj:=fun x y l e=>by cases e
  low:=fun a e=>e.elim (fun e=>(gZ r2 a e).imp fun _ ho=>old _ _ ho) fun e=>e.elim (fun e=>e▸⟨_,hacc⟩) fun e=>(live a (T.sub a (T.bw a e))).imp fun _ ho=>old _ _ ho
  good:=fun x l e=>by cases e}
 have loop:codeAny (model X.prog X.w) A (.compLoop (.ListComp elt (⟨t,iter,ifs,0⟩::gs) sc p) 0 (.ref I) (.ref D) (compEnvC sc cl C env)) (RR (.ref D) C) {s2 with heap:=h₁,toks:=s2.toks+([]:List (Str×Value)).length}:=by
  have W:Fd X A (fun a=>fv bad O a\/a=D\/bz a) {s2 with heap:=h₁,toks:=s2.toks+([]:List (Str×Value)).length} t items I fp wr St:=⟨T.sub,T.frame,T.live,fun i h st b hb hn=>T.noseq i h st b hb fun z=>hn (.inr (.inr z)),fun i d s' N K E E' hd hSt hK=>T.item i d s' N K E E' hd hSt fun v h' tk a1 a2 a3=>hK v h' tk a1 a2 fun bd fr tr=>a3 bd fr fun d v q=>tr d v (up q),T.done⟩;refine au (uU (g:=g) (bad:=fun a=>fv bad O a\/a=D\/bz a) (tree:=tree (compEnvC sc cl C env)) (hturn C) (hb C) R (.inr (.inl rfl)) (by simpa using hz) W hDf hCf (fun n c e hw=>?_) (fun b hw=>?_) ⟨rel _,⟨#[],_,hacc,.nil⟩,fresh0 _ fD⟩ (T.frame _ _ _ T.start fun b _ o e=>old b o e)) fun res s' hr=>?_
  ·obtain⟨v,o,ho,hd⟩:=r.frm.cell n c (hc.sub n c e);rw[T.new c hw]at ho;cases ho
  ·cases e:X.h₀.get? b with
   |none=>rfl|some o=>have:=r.base _ _ e;rw[T.new b hw]at this;cases this
  ·refine qd hr ?_;rintro rfl c' kp;refine yT c'.acc fun vs n hg q=>?_;obtain⟨m,hm⟩:=c'.ns;exact hRR D C s' vs n m fD fC hDC hm hg (q.imp fun a _ _ h=>h.imp id .inl) (fun b o hw e=>kp b o hw (fun z=>by have z':b=C:=z;rw[z',fC]at e;cases e) (fun z=>by rw[z,fD]at e;cases e) (old b o e)) (c'.gens.trans r2.gens.symm) (c'.os.trans r2.os.symm)
 exact rB (gens:=⟨t,iter,ifs,0⟩::gs) rfl loop (T.self 0 _ _ _ (T.frame _ _ _ T.start fun b _ o e=>old b o e) loop)
theorem oF{elt t iter:Expr}{gs:List Comprehension}{tree:Env->Value->Sem PUnit}{ifs:List Expr}{sc:Scope}{p:Pos}{cl:List (Str×Addr)}{items:List PyData}(g:PyData->List PyData)(hit:FF X k env ρ iter t items)(hc:pW env ρ ρc sc cl)(hturn:∀C,EQ X (.ListComp elt (⟨t,iter,ifs,0⟩::gs) sc p) 0 t ifs (tree (compEnvC sc cl C env)) (compEnvC sc cl C env))(hb:∀C,∀x∈items,DD X k (compEnvC sc cl C env) ρc t ifs (tree (compEnvC sc cl C env)) x (g x))(hz:(items.flatMap g).length<=sizeLine)(hs:autoParam (∀x,foldedSetIterable iter env x=pure x) aI):vr X k env ρ (.ListComp elt (⟨t,iter,ifs,0⟩::gs) sc p) (items.flatMap g):=fun A bad O s R r=>by
 rw[eval_ListComp]
 refine wpAny_comprehension_free (use:=none) (g:=⟨t,iter,ifs,0⟩) (gs:=gs) rfl hs hc.clos hc.kind hc.names (aF (hit A bad O s R r) (fun xv s1 h1=>aF h1 (fun it s2 h2=>?_) fun _ _ e=>e) fun _ _ e=>e)
 obtain⟨x2,I,fp,wr,bz,St,rfl,T⟩:=h2
 refine oP (RR:=fun acc C=>compPost (model X.prog X.w) A g8 none _ acc C) R r x2 T hc hturn hb hz ?_
 intro D C s' vs n m' fD fC hDC hn hg q kp eg eo
 refine⟨m',hn,fun h'' hs''=>?_⟩
 have kp':∀b o,s.heap.get? b=some o->h''.get? b=some o:=fun b o e=>hs''.extBut b o (fun z=>by rw[z]at e;rw[x2.keep _ _ e]at fC;cases fC) (kp b o (fun hw=>by rw[T.new b hw]at e;cases e) (x2.keep _ _ e))
 refine⟨⟨kp',eg.trans x2.gens,eo.trans x2.os⟩,D,vs,n,rfl,?_,hs''.extBut _ _ hDC hg,q.keep fun b o vs n _ e ed=>hs''.extBut b o (fun z=>?_) e⟩
 ·cases e:s.heap.get? D with|none=>rfl|some o=>rw[x2.keep _ _ e]at fD;cases fD
 ·obtain⟨o',es,ep,ho,hd,_⟩:=hn;rw[z,ho]at e;cases e;rw[hd]at ed;cases ed
theorem It.drb{A:Around}{bad:Addr->Prop}{O:Str->Option Addr}{s s2:Shared}{items:List PyData}{I:Addr}{fp wr:List Addr}{P:Nat->Value->Prop}{St:Nat->Heap->Prop}{target:Expr}(T:It X A bad O s s2 items I fp wr P St):Es X A bad O s s2 target items I fp wr (fun _=>False) St where
 sub:=T.walks.sub
 frame:=T.walks.frame
 start:=T.start
 new:=T.new
 bw:=fun _ h=>h.elim
 live:=T.live
 noseq:=fun i h st b hb _=>T.noseq i h st b hb
 item:=fun i d s' N K E E' hd hSt hK=>T.walks.item i s' _ _ (List.getElem?_eq_some_iff.mp hd).1 hSt fun v h' tk hP hSt' hk=>T.lets (i+1) _ _ _ _ _ hSt' (hK v h' tk hSt' hk fun bd _ tr=>by refine gR (T.item i v hP) fun d' hd' q=>?_;cases hd.symm.trans hd';exact tr _ _ (q.imp fun _ _ _ h=>h.elim id False.elim))
 done:=T.walks.done
 self:=T.walks.self
theorem Do.d{e target:Expr}{items:List PyData}(h:Do X k env ρ e items):FF X k env ρ e target items:=fun A bad O s R r=>
 aF (h A bad O s R r) (fun v s1 h1=>aF h1 (fun it s2 h2=>h2.imp id fun h=>Ff h fun I fp wr P St e t=>⟨I,fp,wr,_,St,e,t.drb⟩) fun _ _ x=>x) fun _ _ x=>x
theorem tX{elt t iter:Expr}{ifs:List Expr}{sc:Scope}{p:Pos}{cl:List (Str×Addr)}{items:List PyData}(g:PyData->List PyData)(hit:Do X k env ρ iter items)(hc:pW env ρ ρc sc cl)(hb:∀C,∀x∈items,DD X k (compEnvC sc cl C env) ρc t ifs (kE elt (compEnvC sc cl C env)) x (g x))(hz:(items.flatMap g).length<=sizeLine)(hs:autoParam (∀x,foldedSetIterable iter env x=pure x) aI):vr X k env ρ (.ListComp elt [⟨t,iter,ifs,0⟩] sc p) (items.flatMap g):=oF (tree:=kE elt) g hit.d hc (fun _=>nI rfl rfl) hb hz hs
end
section
variable{X:Cx}{k:Nat}{env:Env}{ρ ρc:List (Str×B)}{Q:Fl->List (Str×B)->Prop}
theorem tB{y:Str}{py spos:Pos}{elt t iter:Expr}{gs:List Comprehension}{tree:Env->Value->Sem PUnit}{ifs:List Expr}{sc:Scope}{p:Pos}{cl:List (Str×Addr)}{items:List PyData}(g:PyData->List PyData)(hit:Do X k env ρ iter items)(hc:pW env ρ ρc sc cl)(hturn:∀C,EQ X (.ListComp elt (⟨t,iter,ifs,0⟩::gs) sc p) 0 t ifs (tree (compEnvC sc cl C env)) (compEnvC sc cl C env))(hb:∀C,∀x∈items,DD X k (compEnvC sc cl C env) ρc t ifs (tree (compEnvC sc cl C env)) x (g x))(hz:(items.flatMap g).length<=sizeLine)(hy:sO env y)(hq:Q .next (put ρ y (.own (items.flatMap g))))(hsw:autoParam (swapsWith (.ListComp elt (⟨t,iter,ifs,0⟩::gs) sc p) (some (.Name y py)) spos.line env=pure true) aR)(hs:autoParam (∀x,foldedSetIterable iter env x=pure x) aI):jz X k env ρ (.Assign [.Name y py] (.ListComp elt (⟨t,iter,ifs,0⟩::gs) sc p) spos) Q:=fun A bad O s R r=>by
 rw[exec_Assign_Name_used _ _ _ _ hsw]
 refine aA (cr (aA ?_))
 show wpAny _ A (do let _<-comprehension (.ListComp elt (⟨t,iter,ifs,0⟩::gs) sc p) sc env _ (newList []) false (eval iter env) (some (assign (.Name y py) env))) _ _ s
 refine aA (aF (wpAny_comprehension_free (use:=some (assign (.Name y py) env)) (Q:=fun _ s'=>ox X env bad O s Q .next s') (g:=⟨t,iter,ifs,0⟩) (gs:=gs) rfl hs hc.clos hc.kind hc.names (aF (hit A bad O s R r) (fun xv s1 h1=>aF h1 (fun it s2 h2=>?_) fun _ _ e=>e) fun _ _ e=>e)) (fun _ s' hq=>aC (aC hq)) fun _ _ e=>e)
 obtain⟨x2,I,fp,wr,P,St,rfl,T⟩:=h2
 refine oP (RR:=fun acc C=>compPost (model X.prog X.w) A g8 (some (assign (.Name y py) env)) _ acc C) R r x2 T.drb hc hturn hb hz ?_
 intro D C s' vs n m' fD fC hDC hn hg q kp eg eo
 have x1:gQ s s':=⟨fun b o e=>kp b o (fun hw=>by rw[T.new b hw]at e;cases e) (x2.keep _ _ e),eg.trans x2.gens,eo.trans x2.os⟩
 have none':∀b,s2.heap.get? b=none->s.heap.get? b=none:=fun b f=>by cases e:s.heap.get? b with|none=>rfl|some o=>rw[x2.keep _ _ e]at f;cases f
 have gC:=none' _ fC
 have hCp:¬g6 env C:=fun hp=>by obtain⟨o,ho⟩:=iM r.frm hp;rw[gC]at ho;cases ho
 show wpAny _ A (assign (.Name y py) env (.ref D)) _ _ s'
 refine cJ (pu r x1 hy (none' _ fD) hg q fun s3 st r3 hpl=>?_)
 refine gR hpl fun pl hpl hsb=>?_
 have hn3:s3.heap.Ns C m':=hn.sameBut hsb fun z=>hCp (z▸hpl)
 refine⟨m',hn3,fun h' hs'=>⟨.next,_,qX O y D,hq,rfl,?_,?_⟩⟩
 ·have ne:∀b o,s.heap.get? b=some o->b≠C:=fun b o e z=>by rw[z,gC]at e;cases e
  exact⟨fun b o hp ho e=>hs'.extBut b o (ne b o e) (st.keep b o hp ho e),fun b o e=>let⟨o',e'⟩:=st.alive b o e;⟨o',hs'.extBut b o' (ne b o e) e'⟩,st.new⟩
 ·refine r3.keepZ (t:=s3.toks) (Z:=fun b=>b=C) (fun b o hz e=>hs'.extBut b o hz e) (fun b z=>z▸hCp) (fun b z x hx=>?_) (fun b z h=>?_) (fun b z=>?_) (fun b o vs n z e ed=>?_)
  ·subst z;unfold qX at hx;split at hx;·exact hDC (Option.some.inj hx)
   ·obtain⟨o,ho⟩:=gZ r b (.inr ⟨x,hx⟩);rw[gC]at ho;cases ho
  ·subst z;obtain⟨o,ho⟩:=r.low b h;rw[gC]at ho;cases ho
  ·subst z;cases e:X.h₀.get? b with
   |none=>rfl|some o=>rw[r.base _ _ e]at gC;cases gC
  ·subst z;obtain⟨o',es,ep,ho,hd,_⟩:=hn3;rw[ho]at e;cases e;rw[hd]at ed;cases ed
theorem me{y:Str}{py spos:Pos}{elt t iter:Expr}{ifs:List Expr}{sc:Scope}{p:Pos}{cl:List (Str×Addr)}{items:List PyData}(g:PyData->List PyData)(hit:Do X k env ρ iter items)(hc:pW env ρ ρc sc cl)(hb:∀C,∀x∈items,DD X k (compEnvC sc cl C env) ρc t ifs (kE elt (compEnvC sc cl C env)) x (g x))(hz:(items.flatMap g).length<=sizeLine)(hy:sO env y)(hq:Q .next (put ρ y (.own (items.flatMap g))))(hsw:autoParam (swapsWith (.ListComp elt [⟨t,iter,ifs,0⟩] sc p) (some (.Name y py)) spos.line env=pure true) aR)(hs:autoParam (∀x,foldedSetIterable iter env x=pure x) aI):jz X k env ρ (.Assign [.Name y py] (.ListComp elt [⟨t,iter,ifs,0⟩] sc p) spos) Q:=tB (tree:=kE elt) g hit hc (fun _=>nI rfl rfl) hb hz hy hq hsw hs
end
section
variable{X:Cx}{k:Nat}{env:Env}{ρ ρ₁ ρ':List (Str×B)}{Q:Fl->List (Str×B)->Prop}
theorem r8{x:Str}{p pos:Pos}{e:Expr}{a b:Int}(ha:ρ.lookup x=some (.val (.int a)))(he:Ev X k env ρ e (.int b))(hx:sO env x)(hq:Q .next (put ρ x (.val (.int (a+b))))):jz X k env ρ (.AugAssign (.Name x p) .Add e pos) Q:=fun A bad O s R r=>by
 refine gR (r.val x _ ha) fun v lk q=>?_
 refine wpAny_AugAssign_Name (lk.load r.ok.kind (he.use R r fun u s1 x1 r1 q1=>?_))
 refine q.intE fun t=>q1.intE fun t'=>?_
 have x2:=x1.trans (gQ.toks s1 (s1.toks+1))
 exact iadd_int (k5 (r.ext x2) hx (.int _ _) fun s3 st r3=>⟨.next,_,_,hq,rfl,(f8.of_ext x2).trans st,r3⟩)
theorem mh{t₁ t₂ e:Expr}{pos:Pos}{d:PyData}(he:Ev X k env ρ e d)(h1:sk X k env ρ t₁ d ρ₁)(h2:sk X k env ρ₁ t₂ d ρ')(hq:Q .next ρ')(hm:autoParam ((assignEach [t₁,t₂] env).map (·.2)=[assign t₁ env,assign t₂ env]) aR)(hw:autoParam (swappedStores [t₁,t₂] e env=pure none) aR):jz X k env ρ (.Assign [t₁,t₂] e pos) Q:=fun A bad O s R r=>
 ef (he.use R r fun v s1 x1 r1 q1=>aF (h1 A bad O s1 v R r1 q1) (fun _ s2 p2=>by refine gR p2 fun O2 st2 r2=>?_;refine aF (h2 A bad O2 s2 v R r2 (q1.step r1.frm st2)) (fun _ s3 p3=>?_) fun _ _ x=>x;refine gR p3 fun O3 st3 r3=>?_;exact⟨.next,_,_,hq,rfl,(f8.of_ext x1).trans (st2.trans st3),r3⟩) fun _ _ x=>x) hm hw
theorem uz{t₁ t₂ t₃ e:Expr}{pos:Pos}{d:PyData}{ρ₂:List (Str×B)}(he:Ev X k env ρ e d)(h1:sk X k env ρ t₁ d ρ₁)(h2:sk X k env ρ₁ t₂ d ρ₂)(h3:sk X k env ρ₂ t₃ d ρ')(hq:Q .next ρ')(hm:autoParam ((assignEach [t₁,t₂,t₃] env).map (·.2)=[assign t₁ env,assign t₂ env,assign t₃ env]) aR)(hw:autoParam (swappedStores [t₁,t₂,t₃] e env=pure none) aR):jz X k env ρ (.Assign [t₁,t₂,t₃] e pos) Q:=fun A bad O s R r=>
 wpAny_Assign_three (he.use R r fun v s1 x1 r1 q1=>aF (h1 A bad O s1 v R r1 q1) (fun _ s2 p2=>by refine gR p2 fun O2 st2 r2=>?_;have q2:=q1.step r1.frm st2;refine aF (h2 A bad O2 s2 v R r2 q2) (fun _ s3 p3=>?_) fun _ _ x=>x;refine gR p3 fun O3 st3 r3=>?_;refine aF (h3 A bad O3 s3 v R r3 (q2.step r2.frm st3)) (fun _ s4 p4=>?_) fun _ _ x=>x;refine gR p4 fun O4 st4 r4=>?_;exact⟨.next,_,_,hq,rfl,(f8.of_ext x1).trans (st2.trans (st3.trans st4)),r4⟩) fun _ _ x=>x) hm hw
def Bq(X:Cx)(k:Nat)(env:Env)(ρ:List (Str×B))(xs:List Str)(ds:List PyData)(ρ':List (Str×B)):Prop:=
 ∀(A:Around) (bad:Addr->Prop) (O:Str->Option Addr) (s:Shared) (vs:List Value),gG k A->gE X bad O env ρ s->RepL (fv bad O) s.heap ds vs->wpAny (model X.prog X.w) A (assignInOrder (xs.map fun n=>bindName env n) vs) (fun _ s'=>∃O',f8 env O O' s s'/\gE X bad O' env ρ' s') g8 s
theorem kL:Bq X k env ρ [] [] ρ:=fun A bad O s vs R r q=>q.nilE (aC ⟨O,f8.refl _ _ _,r⟩)
theorem gU{x:Str}{xs:List Str}{d:PyData}{ds:List PyData}(hx:sO env x)(h:Bq X k env (put ρ x (.val d)) xs ds ρ'):Bq X k env ρ (x::xs) (d::ds) ρ':=fun A bad O s vs R r q=>by
 refine q.consE fun _ _ qv qs=>?_
 refine aA (ah (wpAny_bindName (k5 r hx qv fun s1 st r1=>?_)))
 refine aF (h A bad _ s1 _ R r1 (qs.step r.frm st)) (fun _ s2 p=>?_) fun _ _ x=>x
 refine gR p fun O2 st2 r2=>?_
 exact⟨O2,st.trans st2,r2⟩
theorem RepL.rev{bad:Addr->Prop}{h:Heap}{ds:List PyData}{vs:List Value}(q:RepL bad h ds vs):RepL bad h ds.reverse vs.reverse:=
 q.ind (P:=fun ds vs=>RepL bad h ds.reverse vs.reverse) .nil fun a _ ih=>by rw[List.reverse_cons,List.reverse_cons];exact ih.append (.cons a .nil)
theorem lO{t e:Expr}{pos:Pos}{ds:List PyData}{xs:List Str}(he:Ev X k env ρ e (.tuple ds))(h1:Bq X k env ρ xs.reverse ds.reverse ρ')(hq:Q .next ρ')(hl:xs.length=ds.length)(hs:swapsWithSole [t] e pos.line env=pure false)(hw:swappedStores [t] e env=pure (some xs)):jz X k env ρ (.Assign [t] e pos) Q:=fun A bad O s R r=>by
 rw[exec_Assign_arm]
 refine aA (cr ?_)
 rw[hs]
 refine aA (aC ?_)
 rw[aL (by decide)]
 refine aA (he.use R r fun v s1 x1 r1 q1=>?_)
 rw[hw]
 refine aA (aC ?_)
 refine jq q1.isTup ?_;rintro a vs rfl l qs
 have hz:xs.length=vs.size:=by rw[<-aE,<-qs.length];exact hl
 delta assignStores
 dsimp only
 rw[hz]
 refine aA (ce (aA (wpAny_unpackItems_tuple R.handled l fun h' he'=>?_)))
 have x2:gQ s1 {s1 with heap:=h'}:=⟨fun b o e=>he' b o (bQ (am e)) e,rfl,rfl⟩
 refine aA (aF (h1 A bad O {s1 with heap:=h'} vs.toList.reverse R (r1.ext x2) (qs.ext x2).rev) (fun _ s2 p=>aC ?_) fun _ _ x=>x)
 refine gR p fun O2 st2 r2=>?_
 exact⟨.next,_,_,hq,rfl,(f8.of_ext (x1.trans x2)).trans st2,r2⟩
end
theorem qm{prog:Program}{w:World}{A:Around}{E:Value->Shared->Prop}{s:Shared}{l:Addr}{items:Array Value}{n:Nat}{i:Int}{t:Tok}{v:Value}{Q:Unit->Shared->Prop}(ho:s.heap.get? l=some {cls:=.type "list",data:=.seq items n}) (h0:0<=i) (hfit:i<2^63) (hn:i<items.size) (hQ:∀h' n',h'.get? l=some {cls:=.type "list",data:=.seq (items.setIfInBounds i.toNat v) n'}->Heap.SameBut l s.heap h'->Q () {s with heap:=h'}):wpAny (model prog w) A (setItem (.ref l) (.int i t) v) Q E s:=by
 have hl:s.heap.IsList l items:=⟨_,ho,rfl,_,rfl⟩
 delta setItem
 try with_reducible refine ah ?_
 first|refine aA (aC ?_)|skip
 refine aA (wpAny_sequenceKey hl.typeIs (by decide) ?_)
 refine aA (cb (name:=Str.ofString "__setitem__") hl.typeIs slot_list_setitem (b7 slot_list_setitem hl.typeIs entry_list_setitem ?_ (args_list_setitem _ _ _)))
 show wpAny _ _ (Builtin.List.listSubscript? (.int i t)>>=_) _ _ s
 refine aA (wpAny_listSubscript_int (fitsIndex_of h0 hfit) ?_)
 clear hfit
 obtain⟨j,rfl⟩:=Int.eq_ofNat_of_zero_le h0
 have hj:j<items.size:=by exact fk 0xf11101f1c0c4f hn
 have hx':items[j]?=some items[j]:=eB hj
 show wpAny _ _ ((seqItemAt l j>>=fun r=>pure (r.map (j,·)))>>=_) _ _ s
 refine aA (aA (wpAny_seqItemAt ho rfl (aC ?_)))
 rw[hx']
 show wpAny _ _ (setSeqItemAt l j v>>=_) _ _ s
 have e1:∃n',Obj.mapSeq (·.setIfInBounds j v) {cls:=.type "list",data:=.seq items n}={cls:=.type "list",data:=.seq (items.setIfInBounds j v) n'}:=by refine⟨if(items.setIfInBounds j v).size==items.size then n else n+1,?_⟩;simp[Obj.mapSeq]
 obtain⟨n',e1⟩:=e1
 have hfin:(s.heap.update l (Obj.mapSeq (·.setIfInBounds j v))).get? l=some {cls:=.type "list",data:=.seq (items.setIfInBounds j v) n'}:=by rw[aw _ ho (by rw[e1];rfl),e1]
 refine aA (wpAny_setSeqItemAt ho rfl ?_)
 first|exact aA (aC (aC ⟨.none,rfl,aC (hQ _ n' hfin (cj ..))⟩))|exact aC ⟨.none,rfl,aC (hQ _ n' hfin (cj ..))⟩
section
variable{X:Cx}{k:Nat}{env:Env}{ρ ρ₁ ρ':List (Str×B)}{Q:Fl->List (Str×B)->Prop}
theorem vK{x:Str}{px p pos:Pos}{i e:Expr}{ds:List PyData}{d:PyData}{j:Nat}(hx:ρ.lookup x=some (.own ds))(hi:Ev X k env ρ i (.int j))(he:Ev X k env ρ e d)(hj:j<ds.length)(hz:ds.length<=sizeLine)(hq:Q .next (put ρ x (.own (ds.set j d))))(hd:autoParam ((x==("__debug__":Str))=false) aD)(hs:autoParam (swapsWith e (some (.Subscript (.Name x px) i p)) pos.line env=pure false) aR):jz X k env ρ (.Assign [.Subscript (.Name x px) i p] e pos) Q:=fun A bad O s R r=>by
 refine wpAny_Assign_Subscript (he.use R r fun v s1 x1 r1 q1=>?_) hs
 refine qY (oB r1 hx) fun l vs n ho lk g q=>?_
 refine bW (lk.load r.ok.kind ?_) hd
 refine hi.use R r1 fun u s2 x2 r2 q2=>?_
 refine q2.intE fun t=>?_
 have hl:vs.size=ds.length:=by rw[<-aE,q.length]
 have hz':(sizeLine:Int)<2^63:=by decide
 have hzz:(ds.length:Int)<=(sizeLine:Int):=by exact_mod_cast hz
 refine qm (x2.keep _ _ g) (f5 0xf10c083ff) (fu 0xf11118000000000000000e90c4f8000000000000000e92c4210101f hj hz hz') (fu 0xf1112c0c4f122101f hj hl) fun h' n' g' hs'=>?_
 obtain⟨st,r3⟩:=r2.turn (t:=s2.toks) hx ho hs' g' (ds':=ds.set j d) (by rw[cw];exact(q.ext x2).set (q1.ext x2) _)
 exact⟨.next,_,_,hq,rfl,(f8.of_ext (x1.trans x2)).trans st,r3⟩
end
theorem xk{o:Obj}{es:Array DictEntry}{ep:Nat}{name:Str}(hd:o.data=.dict es ep)(hk:StrKeys es):lookIn name o=some (nsFind es name):=by
 delta lookIn nsFind findBy
 rw[hd]
 dsimp only
 have hr:es.toList.any (·.refKey)=false:=by rw[List.any_eq_false];intro e he;obtain⟨n,t,e'⟩:=hk e (Array.mem_toList_iff.mp he);simp[DictEntry.refKey,e']
 rw[<-Array.find?_toList]
 cases e:es.toList.find? (·.key.isStr name)with
 |none=>simp[hr]
 |some en=>simp
def CW(h:Heap)(a:Addr)(m:Str->Option Value)(N:Nat):Prop:=∃o es ep,h.get? a=some o/\o.data=.dict es ep/\StrKeys es/\(∀name,nsFind es name=m name)/\es.size<=N
theorem CW.ns{h:Heap}{a:Addr}{m:Str->Option Value}{N:Nat}(n:CW h a m N):h.Ns a m:=FV n fun o es ep a b c d _=>⟨o,es,ep,a,b,c,d⟩
theorem B9{M:Model}{A:Around}{E:Value->Shared->Prop}{s:Shared}{a:Addr}{m:Str->Option Value}{N:Nat}{name:Str}{v:Value}{Q:Unit->Shared->Prop}(hn:CW s.heap a m N)(h:∀h',CW h' a (fun x=>if x=name then some v else m x) (if(m name).isSome then N else N+1)->Heap.SameBut a s.heap h'->Q () {s with heap:=h',toks:=s.toks+1}):wpAny M A (nsSet a name v) Q E s:=fun Γ p hΓ=>by
 obtain⟨o,es,ep,ho,hd,hk,hm,hN⟩:=hn
 simp only[nsSet,strHash,Sem.wp_bind',Sem.wp_cmd_ask,Sem.wp_pure',Sem.wp_cmd_mkText]
 rw[Sem.wp_loadPart_of M Γ _ p {s with toks:=s.toks+1} (o:=o) _ ho]
 have hany:es.any (·.refKey)=false:=by rw[Array.any_eq_false'];intro e he;obtain⟨n,t,h⟩:=hk e he;simp[DictEntry.refKey,h]
 simp only[hd,aRefKeyMayBeTheName_eq,aRefKeyMayBeTheNameByArray,hany,Bool.and_false,ae,bZ,Sem.wp_cmd_updatePart]
 refine⟨by rw[ho];rfl,h _ ?_ (cj ..)⟩
 obtain⟨c,d,dt,sl⟩:=o
 subst hd
 cases hi:es.findIdx? (·.key.isStr name)with
 |some i=>
  refine⟨_,_,ep,aw _ ho (by simp only[fG,Obj.putNameByArray,hi];rfl),by simp only[fG,Obj.putNameByArray,hi];rfl,hk.modify _ _,fun x=>?_,?_⟩
  ·show _=if x=name then some v else m x;rw[<-hm];exact findBy_modify (fun n v=>v.isStr n) Value.isStr_inj es name x v i hi
  ·rw[Array.size_modify];split<;>lia
 |none=>
  refine⟨_,_,ep+1,aw _ ho (by simp only[fG,Obj.putNameByArray,hi];rfl),by simp only[fG,Obj.putNameByArray,hi];rfl,hk.push _ _ _ _,fun x=>?_,?_⟩
  ·show _=if x=name then some v else m x;rw[<-hm];exact findBy_push (fun n v=>v.isStr n) es name x _ _ v (fun y=>by
    show(name==y)=decide (y=name);by_cases h:y=name;·subst h;simp
    ·simp[h,Ne.symm h]) hi
  ·rw[dc];have:m name=none:=by
    rw[<-hm];delta nsFind findBy;have:es.find? (·.key.isStr name)=none:=by rw[Array.findIdx?_eq_none_iff]at hi;rw[Array.find?_eq_none];intro e he;simp[hi e he]
    rw[this];rfl
   rw[this];simp;exact hN
structure ir(h:Heap)(C x dx:Addr)(m:Str->Option Value)(N:Nat):Prop where
 obj:h.get? x=some (instObj C dx)
 nsb:CW h dx m N
theorem ir.ns{h:Heap}{C x dx:Addr}{m:Str->Option Value}{N:Nat}(I:ir h C x dx m N):h.Ns dx m:=I.nsb.ns
theorem ir.at{h:Heap}{C x dx:Addr}{m:Str->Option Value}{N:Nat}(I:ir h C x dx m N):∃od,InstAt h x (instObj C dx) C (some od)/\∀name,lookIn name od=some (m name):=by
 obtain⟨o,es,ep,ho,hd,hk,hf⟩:=I.ns
 exact⟨o,⟨I.obj,rfl,rfl,ho⟩,fun name=>by rw[xk hd hk,hf]⟩
structure lU(K:Frag)(C:Addr)(cd:ClassData):Prop where
 cls:clsIn K C=some cd
 dict:cd.hasDict=true
 ga:findIn K (.ref C) "__getattribute__"=some (some (.builtin "object.__getattribute__"))
 gt:findIn K (.ref C) "__getattr__"=some none
 sa:findIn K (.ref C) "__setattr__"=some (some (.builtin "object.__setattr__"))
 plain:plainOver K C=true
section
variable{prog:Program}{w:World}{A:Around}{E:Value->Shared->Prop}{s:Shared}{K:Frag}{C x dx:Addr}{cd:ClassData}{m:Str->Option Value}{name:Str}{N:Nat}
theorem yw{expr:Bool}{v:Value}{Q:Value->Shared->Prop}(X:K.In s.heap)(I:ir s.heap C x dx m N)(hC:lU K C cd)(hn:findIn K (.ref C) name=some none)(hm:m name=some v)(hv:handedIn v=true)(h:Q v {s with toks:=s.toks+1}):wpAny (model prog w) A (getAttr (.ref x) name expr) Q E s:=by
 refine gR I.at fun od J hl=>?_
 refine get_value X J hC.ga (v:=v) ?_ hv h
 delta findObj
 rw[hC.cls,cv,hn,cv]
 delta W.ownOf
 rw[hC.dict,aN rfl]
 dsimp only
 rw[cv,cv,hl,hm,cv]
theorem jm{pl:Sem Bool}{f:Addr}{Q:Value×List Value->Shared->Prop}(X:K.In s.heap)(I:ir s.heap C x dx m N)(hC:lU K C cd)(hf:findIn K (.ref C) name=some (some (.ref f)))(ht:typeIn K (.ref f)=some (.type "function"))(hm:m name=none)(h:Q (.ref f,[.ref x]) s):wpAny (model prog w) A (getMethod (.ref x) name pl) Q E s:=by
 refine gR I.at fun od J hl=>?_
 exact method_fn X J hC.ga hC.gt hf ht (by show(lookIn name od).map (·.isSome)=_;rw[hl,hm];rfl) h
theorem yg{v:Value}{Q:Unit->Shared->Prop}(X:K.In s.heap)(I:ir s.heap C x dx m N)(hC:lU K C cd)(hn:takerIn K C name=some none)(hN:N<1000)(h:∀h' t,ir h' C x dx (fun y=>if y=name then some v else m y) (if(m name).isSome then N else N+1)->Heap.SameBut dx s.heap h'->Q () {s with heap:=h',toks:=t}):wpAny (model prog w) A (setAttr (.ref x) name v) Q E s:=by
 refine gR I.at fun od J hl=>?_
 have hxd:x≠dx:=fun e=>by obtain⟨o,es,ep,ho,hd,_⟩:=I.ns;rw[<-e,I.obj]at ho;cases ho;cases hd
 refine set_plain X J hC.sa (osa_open (s:={s with toks:=s.toks+1}) X J hC.plain hn fun b=>?_)
 dsimp only
 refine aA (aC (aA (aA (wpAny_loadPart I.obj (aA ((looks_clsIn (h:=s.heap) X hC.cls) _ _ _ _ (fun _ _ e=>e) ?_))))))
 rw[hC.dict]
 refine aC (a:=some dx) (aA (aC (aA ?_)))
 refine B9 (s:={s with toks:=s.toks+1}) I.nsb fun h' hn' hs'=>?_
 have hn2:=hn'
 obtain⟨o,es,ep,ho,hd,_,_,hz⟩:=hn2
 refine aA (wpAny_lookBehind ho (by rw[hd];exact pastItsLine_dict (by rw[fR];split at hz<;>lia)) ?_)
 exact aC (h h' _ ⟨(hs'.2 x hxd).trans I.obj,hn'⟩ hs')
end
inductive sW(bad:Addr->Prop)(h:Heap):B->Value->Prop
 |val {d:PyData}{v:Value}:gF bad h d v->sW bad h (.val d) v
 |raw (v:Value):sW bad h (.raw v) v
inductive ka(bad:Addr->Prop)(h:Heap):List B->List Value->Prop
 |nil:ka bad h [] []
 |cons {b:B}{bs:List B}{v:Value}{vs:List Value}:sW bad h b v->ka bad h bs vs->ka bad h (b::bs) (v::vs)
theorem nL:∀{names:List Str}{bs:List B}{vs:List Value}{bad:Addr->Prop}{h:Heap}{x:Str}{b:B},ka bad h bs vs->(names.zip bs).lookup x=some b->∃v,(x,v)∈names.zip vs/\sW bad h b v
 |[],_,_,_,_,_,_,_,e=>by simp at e
 |n::names,[],_,_,_,_,_,_,e=>by simp at e
 |n::names,c::bs,_,bad,h,x,b,.cons (v:=v) (vs:=vs) r q,e=>by
  simp only[eI,bm]at e;split at e
  ·rename_i hx;cases e;have:=ea.mp hx;subst this;exact⟨v,.head _,r⟩
  ·refine gR (nL q e) fun v' m q'=>?_;exact⟨v',.tail _ m,q'⟩
structure kf(X:Cx)(f:Addr)(fd:FuncData)(body:List Stmt)(names:List Str):Prop where
 obj:∃o,X.h₀.get? f=some o/\o.data=.func fd
 code:X.h₀.CodeRec fd.code fd.qualname
 body:fd.body=.stmts body
 clo:fd.closure=[]
 g:fd.globals=mainGlobals
 b:fd.builtins=builtinsNs
 bind:∀(s:Shared) (vs:List Value),(∀b o,X.h₀.get? b=some o->s.heap.get? b=some o)->vs.length=names.length->BindsTo s fd ⟨vs,[]⟩ (names.zip vs)
 nodup:names.Nodup
 par:∀x∈names,fd.scope.names.lookup x=some .local\/(fd.scope.names.lookup x=some .cell/\∀n,((cellsFrom n fd.scope.names []).lookup x).isSome=true)
 co:fd.scope.isCoroutine=false
 gen:fd.scope.isGenerator=false
 kind:fd.scope.kind=.function
theorem te{prog:Program}{w:World}{A:Around}{s:Shared}{R:Result->Shared->Prop}{a:Addr}{o:Obj}{fd:FuncData}{body:List Stmt}{vals:List Value}{binds:List (Str×Value)}(hroom:A.depth<recursionLimit)(ho:s.heap.get? a=some o)(hdata:o.data=.func fd)(hlim:s.heap.NoLimit)(hcd:s.heap.CodeRec fd.code fd.qualname)(hbody:fd.body=.stmts body)(hbind:BindsTo s fd ⟨vals,[]⟩ binds)(hclo:fd.closure=[])(hkind:∀x∈binds,fd.scope.names.lookup x.1=some .local\/(fd.scope.names.lookup x.1=some .cell/\((cellsFrom (s.heap.objs.size+1) fd.scope.names []).lookup x.1).isSome=true))(h:∀s₁,InCallC s (callEnvC fd s.heap.objs.size a).locals (bindL (callEnvC fd s.heap.objs.size a).kindOf binds fun _=>none) (callEnvC fd s.heap.objs.size a).cells (bindC (callEnvC fd s.heap.objs.size a).kindOf binds fun _=>none) s₁->wpAny (model prog w) (A.deeper (callEnvC fd s.heap.objs.size a)) (execs body (callEnvC fd s.heap.objs.size a)) (fun f s'=>R (.ok (.ret (match f with|.ret v=>v|_=>.none))) s') (fun e s'=>wpAny (model prog w) (A.deeper (callEnvC fd s.heap.objs.size a)) (leaving (callEnvC fd s.heap.objs.size a) e) (fun _ s''=>R (.error e) s'') (fun e' s''=>R (.error e') s'') s') s₁) (hco:fd.scope.isCoroutine=false) (hgen:fd.scope.isGenerator=false) (hk:fd.scope.kind=.function):codeAny (model prog w) A (.call (.ref a) ⟨vals,[]⟩) R s:=by
 refine codeAny_call_function hroom ho hdata hco hgen hbody hcd (hbind _ _ _ _ ?_)
 rw[hclo]
 refine wpAny_newFunctionEnv_cells hk hkind fun env he s' x=>?_
 subst he
 exact⟨hlim.keeps x.toInCall.keep,codeAny_func (h s' x)⟩
def E8(R:Result->Shared->Prop)(f:Flow)(s':Shared):Prop:=R (.ok (.ret (match f with|.ret v=>v|_=>.none))) s'
theorem mI{X:Cx}{k:Nat}{f:Addr}{fd:FuncData}{body:List Stmt}{names:List Str}(D:kf X f fd body names){A:Around}{bad:Addr->Prop}{s:Shared}{vs:List Value}{bs:List B}{R:Result->Shared->Prop}(Rm:gG (k+1) A)(a:At X s)(low:∀a,bad a->∃o,s.heap.get? a=some o)(hdat:∀d v,X.dat d v->gF bad X.h₀ d v)(q:ka bad s.heap bs vs)(hl:vs.length=names.length)(h:∀L A' s₁,gG k A'->gE X bad nO (callEnvC fd L f) (names.zip bs) s₁->(∀b o,s.heap.get? b=some o->s₁.heap.get? b=some o)->(∀b o,s.heap.get? b=some o->¬g6 (callEnvC fd L f) b)->s₁.gens=s.gens->s₁.os=s.os->wpAny (model X.prog X.w) A' (execs body (callEnvC fd L f)) (E8 R) g8 s₁):codeAny (model X.prog X.w) A (.call (.ref f) ⟨vs,[]⟩) R s:=by
 refine gR D.obj fun o ho hdata=>?_
 refine te (o:=o) (fd:=fd) (body:=body) (binds:=names.zip vs) (by have:=Rm.depth;show A.depth<1000;exact fk 0xf113e81901f38419181a0ab0a0f this) (a.base _ _ ho) hdata (a.wf.nolimit.keeps a.base) (D.code.keeps a.base) D.body (D.bind s vs a.base hl) D.clo (fun x hx=>?_) (fun s₁ I=>?_) D.co D.gen D.kind
 ·rcases D.par x.1 (dF (a:=x.1) (b:=x.2) hx).1 with e|⟨e,e'⟩;·exact .inl e
  ·exact .inr ⟨e,e' _⟩
 ·obtain⟨⟨⟨h',tk,rfl⟩,ns,keep,fresh⟩,cell,apart,above⟩:=I;have nodup:=kl (vs:=vs) D.nodup;have hnone:∀c,s.heap.objs.size<=c->X.h₀.get? c=none:=fun c hc=>by cases e:X.h₀.get? c with
   |none=>rfl|some o=>exact absurd (am (a.base _ _ e)) (Nat.not_lt.mpr hc)
  have hcs:∀n c,(callEnvC fd s.heap.objs.size f).cells.lookup n=some c->s.heap.objs.size<c:=fun n c e=>above n c (mem_of_lookup e);have hpl:∀b o,s.heap.get? b=some o->¬g6 (callEnvC fd s.heap.objs.size f) b:=fun b o e hp=>by
   have:=am e;rcases hp with rfl|⟨n,hn⟩;·exact cq _ this
   ·exact cq _ (Nat.lt_trans this (hcs n b hn))
  have hlk:∀x v,(x,v)∈names.zip vs->Lk h' (callEnvC fd s.heap.objs.size f) x v:=fun x v hm=>by
   rcases D.par x (dF hm).1 with e|⟨e,e'⟩;·exact .inl ⟨e,_,ns,n6 (kindOf:=(callEnvC fd s.heap.objs.size f).kindOf) e _ _ nodup hm⟩
   ·obtain⟨c,hc⟩:=Option.isSome_iff_exists.mp (e' (s.heap.objs.size+1));refine .inr (.inl ⟨e,c,hc,?_⟩);have:=cell x c hc;rwa [nu (kindOf:=(callEnvC fd s.heap.objs.size f).kindOf) (by show fd.scope.names.lookup x≠_;rw[e];exact fun q=>by cases q) _ _ nodup hm]at this
  have r:gE X bad nO (callEnvC fd s.heap.objs.size f) (names.zip bs) {s with heap:=h',toks:=tk}:={
   wf:=a.wf
   base:=fun b o e=>keep _ _ (a.base b o e)
   gens:=a.gens
   os:=a.os
   ok:=⟨D.kind,D.g,D.b⟩
   frm:=⟨⟨_,ns⟩,fun n c e=>⟨_,cell n c e⟩,fun n c e=>cm (hcs n c e),fun n n' c e e'=>name_of_addr apart (mem_of_lookup e) (mem_of_lookup e'),hnone _ (aH _),fun n c e=>hnone _ (cS (hcs n c e))⟩
   holds:=fun x b e=>by refine gR (nL q e) fun v hm bo=>?_;cases bo with
    |val rv=>exact .val (hlk x v hm) (rv.map fun a o _ _ hb e _=>⟨fun h=>hb (nf h),keep _ _ e⟩)|raw=>exact .raw (hlk x v hm)
   inj:=fun x y l e=>by cases e
   low:=fun b e=>(low b e).imp fun _ ho=>keep _ _ ho
   good:=fun x l e=>by cases e
   dat:=hdat};refine aF (h s.heap.objs.size _ _ ⟨Rm.handled,?_,?_⟩ r keep hpl rfl rfl) (fun fl s' p=>p) fun _ _ x=>x.elim;·have:=Rm.depth;show A.depth+1+_<=_;exact fk 0xf113841910ab180aa0f38419181a0ab0a0f this
  ·have:=Rm.units;show A.units+3+_<=_;exact fk 0xf11232829164b380aa0f232829181a64b0a0f this
abbrev fn(ρ:List (Str×B))(x:Str)(b:B):Prop:=ρ.lookup x=some b
section
variable{X:Cx}{k:Nat}{env:Env}{ρ:List (Str×B)}{Q:Fl->List (Str×B)->Prop}
theorem Lk.keepP{h h':Heap}{x:Str}{v:Value}(l:Lk h env x v)(k:∀b o,g6 env b->h.get? b=some o->h'.get? b=some o):Lk h' env x v:=by
 rcases l with⟨a,m',b,e⟩|⟨a,d,b,e⟩|⟨a,n,d,b,e⟩
 ·exact .inl ⟨a,m',b.at' fun o ho=>k _ o (.inl rfl) ho,e⟩
 ·obtain⟨o,ho,hd⟩:=e;exact .inr (.inl ⟨a,d,b,o,k _ o (.inr ⟨x,b⟩) ho,hd⟩)
 ·obtain⟨o,ho,hd⟩:=e;exact .inr (.inr ⟨a,n,d,b,o,k _ o (.inr ⟨x,b⟩) ho,hd⟩)
theorem gk.keepP{h₀ h h':Heap}(f:gk h₀ env h)(k:∀b o,g6 env b->h.get? b=some o->h'.get? b=some o):gk h₀ env h':=
 ⟨f.ns.imp fun _ a=>a.at' fun o ho=>k _ o (.inl rfl) ho,fun n c e=>(f.cell n c e).imp fun _ h=>h.imp fun o q=>⟨k _ o (.inr ⟨n,e⟩) q.1,q.2⟩,f.ne,f.inj,f.new,f.newc⟩
theorem gE.key_change{bad:Addr->Prop}{O:Str->Option Addr}{s s':Shared}{x:Str}{a:Addr}{o':Obj}{b:B}(r:gE X bad O env ρ s)(hO:O x=some a)(hk:∀b o,b≠a->s.heap.get? b=some o->s'.heap.get? b=some o)(ha:s'.heap.get? a=some o')(hg:s'.gens=s.gens)(hos:s'.os=s.os)(hb:b.owns)(hh:Holds bad O env s' x b):f8 env O O s s'/\gE X bad O env (put ρ x b) s':=by
 refine FA (r.good x a hO) fun nbad n0 np _=>?_
 have kq:iN (fv bad O) s.heap s'.heap:=fun b o _ _ hb e _=>hk b o (fun q=>hb (q▸.inr ⟨x,hO⟩)) e
 have al:∀b o,s.heap.get? b=some o->∃o',s'.heap.get? b=some o':=fun b o e=>by
  by_cases q:b=a;·exact⟨o',q▸ha⟩
  ·exact⟨o,hk b o q e⟩
 have kp:∀b o,g6 env b->s.heap.get? b=some o->s'.heap.get? b=some o:=fun b o hp e=>hk b o (fun q=>np (q▸hp)) e
 exact⟨⟨fun b o hb hO' e=>hk b o (fun q=>hO' x (q▸hO)) e,al,fun y l e=>.inl ⟨y,e⟩⟩,r.turns (fun b o e=>hk b o (fun q=>by rw[q,n0]at e;cases e) (r.base b o e)) hg hos (r.frm.keepP kp) al hO hb hh fun y c hy h=>h.move (fun _ l=>l.keepP kp) (fun _ e=>e) (fun l ob h=>hk l ob fun z=>hy (r.inj y x a (z▸h) hO)) kq.map⟩
theorem gE.at_change{bad:Addr->Prop}{O:Str->Option Addr}{s s':Shared}{x:Str}{a:Addr}{o o':Obj}(r:gE X bad O env ρ s)(hx:ρ.lookup x=some (.at a o))(hk:∀b o,b≠a->s.heap.get? b=some o->s'.heap.get? b=some o)(ha:s'.heap.get? a=some o')(hg:s'.gens=s.gens)(hos:s'.os=s.os):f8 env O O s s'/\gE X bad O env (put ρ x (.at a o')) s':=
 r.key_change (r.pt x a o hx).1 hk ha hg hos trivial (.at (r.pt x a o hx).1 ha)
theorem gE.at_take{bad:Addr->Prop}{O:Str->Option Addr}{s:Shared}{x:Str}{a:Addr}{o:Obj}(r:gE X bad O env ρ s)(ho:s.heap.get? a=some o)(hn:∀vs n,o.data≠.seq vs n)(h0:X.h₀.get? a=none)(hp:¬g6 env a)(hb:¬fv bad O a):gE X bad (qX O x a) env (put ρ x (.at a o)) s:=by
 exact r.joins r.base rfl rfl r.frm (fun b o e=>⟨o,e⟩) hb h0 hp trivial (.at nT ho) fun y c hy h=>h.move (fun _ l=>l) (fun _=>ry hy) (fun _ _ _ e=>e) fun b ob vs n hb e ed=>⟨fun h=>(lw h).elim hb fun q=>(by subst q;rw[ho]at e;cases e;exact hn vs n ed),e⟩
theorem gE.at_new{bad:Addr->Prop}{O:Str->Option Addr}{s s1:Shared}(x:Str){a:Addr}{o:Obj}(r:gE X bad O env ρ s)(x1:gQ s s1)(hl:s.heap.get? a=none)(ho:s1.heap.get? a=some o):f8 env O (qX O x a) s s1/\gE X bad (qX O x a) env (put ρ x (.at a o)) s1:=by
 have hb:¬fv bad O a:=i3 r hl
 have hp:¬g6 env a:=fun h=>by obtain⟨o,ho⟩:=iM r.frm h;rw[hl]at ho;cases ho
 exact⟨⟨fun b o _ _ e=>x1.keep _ _ e,fun b o e=>⟨o,x1.keep _ _ e⟩,fun y l e=>(iK e).elim (fun h=>.inr (h.2▸hl)) fun h=>.inl ⟨y,h.2⟩⟩,r.joins (fun b o e=>x1.keep _ _ (r.base b o e)) x1.gens x1.os (r.frm.keep x1.keep) (fun b o e=>⟨o,x1.keep _ _ e⟩) hb (r.none0 hl) hp trivial (.at nT ho) fun y c hy h=>h.move (fun _ l=>l.keep x1.keep) (fun _=>ry hy) (fun _ _ _ e=>x1.keep _ _ e) fun b ob _ _ hb e _=>⟨fun h=>(lw h).elim hb fun q=>(by rw[q,hl]at e;cases e),x1.keep _ _ e⟩⟩
theorem uL{bad:Addr->Prop}{O:Str->Option Addr}{x y:Str}{l a:Addr}(hO:O x=some l)(h:fv bad (qX (lC O x) y l) a):fv bad O a:=(lw h).elim kC fun e=>.inr ⟨x,e▸hO⟩
theorem gE.moved{bad:Addr->Prop}{O:Str->Option Addr}{s:Shared}{x y:Str}{l:Addr}{b:B}(r:gE X bad O env ρ s)(hO:O x=some l)(hb:b.owns)(hold:Holds bad (qX (lC O x) y l) env s y b):f8 env O (qX (lC O x) y l) s s/\gE X bad (qX (lC O x) y l) env (put (put ρ x .free) y b) s:=
 have g:=r.good x l hO
 ⟨⟨fun _ _ _ _ e=>e,fun b o e=>⟨o,e⟩,fun z l' e=>(iK e).elim (fun h=>.inl ⟨x,h.2▸hO⟩) fun h=>.inl ⟨z,(iX h.2).2⟩⟩,{
  wf:=r.wf
  base:=r.base
  gens:=r.gens
  os:=r.os
  ok:=r.ok
  frm:=r.frm
  holds:=fun z c e=>by
   rcases mD e with⟨h,h'⟩|⟨hz,e⟩;·rw[h,h'];exact hold
   ·rcases mD e with⟨_,h'⟩|⟨hx,e⟩;·rw[h'];exact .free
    ·exact(r.holds z c e).move (fun _ l=>l) (fun _ h=>ry hz (vE hx h)) (fun _ _ _ e=>e) fun a o _ _ h e _=>⟨fun h'=>h (uL hO h'),e⟩
  inj:=fun z z' l' e e'=>by
   rcases iK e with⟨h,q⟩|⟨_,e⟩
   ·rcases iK e' with⟨h',_⟩|⟨_,e'⟩;·exact h.trans h'.symm
    ·obtain⟨n,e'⟩:=iX e';exact absurd (r.inj z' x l' e' (q▸hO)) n
   ·obtain⟨n,e⟩:=iX e;rcases iK e' with⟨_,q⟩|⟨_,e'⟩;·exact absurd (r.inj z x l' e (q▸hO)) n
    ·exact r.inj z z' l' e (iX e').2
  low:=r.low
  good:=fun z l' e=>by
   rcases iK e with⟨h,q⟩|⟨h,e⟩;·subst h q;exact⟨g.1,g.2.1,g.2.2.1,b,hs,hb⟩
   ·obtain⟨n,e⟩:=iX e;exact jt.pt (jt.pt (r.good z l' e) n) h
  dat:=r.dat}⟩
theorem yH{x y:Str}{a:Addr}{o:Obj}{ss:List Stmt}(hx:ρ.lookup x=some (.at a o))(hne:x≠y)(h:iP X k env (put (put ρ x .free) y (.at a o)) ss Q):iP X k env ρ ss Q:=fun A bad O s R r=>by
 obtain⟨hO,hcur⟩:=r.pt x a o hx
 obtain⟨st,r'⟩:=r.moved (y:=y) (b:=.at a o) hO trivial (.at nT hcur)
 exact h.from R st r'
end
noncomputable def Cx.on(X:Cx)(h:Heap)(D:PyData->Value->Prop):Cx:={X with h₀:=h,dat:=D}
theorem Wf.on{X:Cx}(w:Wf X){h:Heap}{D:PyData->Value->Prop}(k:∀b o,X.h₀.get? b=some o->h.get? b=some o):Wf (X.on h D):=⟨w.nolimit.keeps k,w.g.keeps k,w.b.keeps k,w.gl,w.kin.keeps k⟩
theorem kf.on{X:Cx}{f:Addr}{fd:FuncData}{body:List Stmt}{names:List Str}(D:kf X f fd body names){h:Heap}{D':PyData->Value->Prop}(k:∀b o,X.h₀.get? b=some o->h.get? b=some o):kf (X.on h D') f fd body names:=
 ⟨D.obj.imp fun _ q=>⟨k _ _ q.1,q.2⟩,D.code.keeps k,D.body,D.clo,D.g,D.b,fun s vs kb hl=>D.bind s vs (fun b o e=>kb b o (k b o e)) hl,D.nodup,D.par,D.co,D.gen,D.kind⟩
section
variable{X:Cx}{k:Nat}{env:Env}{ρ:List (Str×B)}{Q:Fl->List (Str×B)->Prop}
def qQ(X:Cx)(k:Nat)(env:Env)(ρ:List (Str×B))(e:Expr)(v:Value):Prop:=
 ∀(A:Around) (bad:Addr->Prop) (O:Str->Option Addr) (s:Shared),gG k A->gE X bad O env ρ s->wpAny (model X.prog X.w) A (eval e env) (fun u s'=>gQ s s'/\u=v) g8 s
theorem qQ.use{e:Expr}{v:Value}(h:qQ X k env ρ e v){A:Around}{bad:Addr->Prop}{O:Str->Option Addr}{s:Shared}{P:Value->Shared->Prop}(R:gG k A)(r:gE X bad O env ρ s)(hq:∀s',gQ s s'->gE X bad O env ρ s'->P v s'):wpAny (model X.prog X.w) A (eval e env) P g8 s:=
 aF (h A bad O s R r) (fun u s' q=>q.2▸hq s' q.1 (r.ext q.1)) fun _ _ x=>x
theorem gN{x:Str}{pos:Pos}{v:Value}(h:ρ.lookup x=some (.raw v))(hd:autoParam ((x==("__debug__":Str))=false) aD):qQ X k env ρ (.Name x pos) v:=fun A bad O s R r=>
 bW (Lk.load r.ok.kind (r.raw x v h) ⟨gQ.refl s,rfl⟩) hd
theorem jH{n:Nat}{pos:Pos}:qQ X k env ρ (.Constant .none n pos) .none:=fun _ _ _ s _ _=>aC (a:=Value.none) ⟨gQ.refl s,rfl⟩
theorem lg{e:Expr}{v:Value}{d:PyData}(h:qQ X k env ρ e v)(hd:X.dat d v):Ev X k env ρ e d:=fun A bad O s R r=>h.use R r fun s1 x1 r1=>⟨x1,r1.datR hd⟩
theorem xV{e:Expr}{b:Bool}(h:qQ X k env ρ e (.bool b)):Ev X k env ρ e (.bool b):=fun A bad O s R r=>h.use R r fun s1 x1 r1=>⟨x1,.bool _⟩
def Bw(X:Cx)(k:Nat)(env:Env)(ρ:List (Str×B))(pos:Pos)(es:List Expr)(vs:List Value):Prop:=
 ∀(A:Around) (bad:Addr->Prop) (O:Str->Option Addr) (s:Shared),gG k A->gE X bad O env ρ s->wpAny (model X.prog X.w) A (spliced (backTo pos (starEach es env))) (fun us s'=>gQ s s'/\us=vs) g8 s
theorem pF{pos:Pos}:Bw X k env ρ pos [] []:=fun A bad O s R r=>a0 ⟨gQ.refl s,rfl⟩
theorem mQ{pos:Pos}{e:Expr}{es:List Expr}{v:Value}{vs:List Value}(h:qQ X k env ρ e v)(hs:Bw X k env ρ pos es vs)(he:autoParam (starEach (e::es) env=(false,eval e env)::starEach es env) aR):Bw X k env ρ pos (e::es) (v::vs):=fun A bad O s R r=>
 af (h.use R r fun s1 x1 r1=>aF (hs A bad O s1 R r1) (fun us s2 q2=>⟨x1.trans q2.1,by rw[q2.2]⟩) fun _ _ x=>x) he
def gr(o:Obj)(m:Str->Option Value)(N:Nat):Prop:=∃es ep,o.data=.dict es ep/\StrKeys es/\(∀name,nsFind es name=m name)/\es.size<=N
theorem gr.noseq{o:Obj}{m:Str->Option Value}{N:Nat}(h:gr o m N):∀vs n,o.data≠.seq vs n:=fun vs n e=>by obtain⟨es,ep,hd,_⟩:=h;rw[hd]at e;cases e
theorem gr.nsb{h:Heap}{a:Addr}{o:Obj}{m:Str->Option Value}{N:Nat}(q:gr o m N)(ho:h.get? a=some o):CW h a m N:=yT q fun es ep hd r=>⟨o,es,ep,ho,hd,r⟩
theorem CW.aobj{h:Heap}{a:Addr}{m:Str->Option Value}{N:Nat}(q:CW h a m N):∃o,h.get? a=some o/\gr o m N:=Cf q fun o es ep ho r=>⟨o,ho,es,ep,r⟩
theorem gr.mono{o:Obj}{m:Str->Option Value}{N N':Nat}(q:gr o m N)(h:N<=N'):gr o m N':=Fk q fun es ep hd hk hm hz=>⟨es,ep,hd,hk,hm,bA hz h⟩
structure lB(X:Cx)(ρ:List (Str×B))(C x dx:Addr)(key:Str)(m:Str->Option Value)(N:Nat):Prop where
 obj:X.h₀.get? x=some (instObj C dx)
 dict:(∃o,ρ.lookup key=some (.at dx o)/\gr o m N)\/(∃o,X.h₀.get? dx=some o/\gr o m N)
theorem lB.inst{C x dx:Addr}{key:Str}{m:Str->Option Value}{N:Nat}(S:lB X ρ C x dx key m N){bad:Addr->Prop}{O:Str->Option Addr}{s:Shared}(r:gE X bad O env ρ s):ir s.heap C x dx m N:=
 ⟨r.base _ _ S.obj,by
  rcases S.dict with⟨o,ho,q⟩|⟨o,ho,q⟩;·exact q.nsb (r.pt _ _ _ ho).2
  ·exact q.nsb (r.base _ _ ho)⟩
theorem gX{C x dx:Addr}{cd:ClassData}{key:Str}{m:Str->Option Value}{N:Nat}{y name:Str}{yp pos:Pos}{v:Value}(hy:ρ.lookup y=some (.raw (.ref x)))(S:lB X ρ C x dx key m N)(hC:lU X.K C cd)(hn:findIn X.K (.ref C) name=some none)(hm:m name=some v)(hv:autoParam (handedIn v=true) aR)(hd:autoParam ((y==("__debug__":Str))=false) aD):qQ X k env ρ (.Attribute (.Name y yp) name pos) v:=fun A bad O s R r=>
 Attribute_name ((gN hy hd).use R r fun s1 x1 r1=>yw (r1.wf.kin.keeps r1.base) (S.inst r1) hC hn hm hv ⟨x1.trans (gQ.toks _ _),rfl⟩)
def rD(X:Cx)(k:Nat)(env:Env)(ρ:List (Str×B))(t:Expr)(v:Value)(P:List (Str×B)->Prop):Prop:=
 ∀(A:Around) (bad:Addr->Prop) (O:Str->Option Addr) (s:Shared),gG k A->gE X bad O env ρ s->wpAny (model X.prog X.w) A (assign t env v) (fun _ s'=>∃O' ρ',P ρ'/\f8 env O O' s s'/\gE X bad O' env ρ' s') g8 s
theorem gy{x:Str}{p:Pos}{v:Value}{P:List (Str×B)->Prop}(hx:sO env x)(h:P (put ρ x (.raw v))):rD X k env ρ (.Name x p) v P:=fun A bad O s R r=>
 cJ (mK r hx fun s' st r' _=>⟨_,_,h,st,r'⟩)
noncomputable def ja(m:Str->Option Value)(name:Str)(v:Value):Str->Option Value:=fun y=>if y=name then some v else m y
theorem gW{C x dx:Addr}{cd:ClassData}{key:Str}{m:Str->Option Value}{N:Nat}{o:Obj}{y name:Str}{yp pos:Pos}{v:Value}{P:List (Str×B)->Prop}(hy:ρ.lookup y=some (.raw (.ref x)))(hx:X.h₀.get? x=some (instObj C dx))(hk:ρ.lookup key=some (.at dx o))(ha:gr o m N)(hC:lU X.K C cd)(hn:takerIn X.K C name=some none)(hN:N<1000)(h:∀o',gr o' (ja m name v) (N+1)->P (put ρ key (.at dx o')))(hd:autoParam ((y==("__debug__":Str))=false) aD):rD X k env ρ (.Attribute (.Name y yp) name pos) v P:=fun A bad O s R r=>by
 rw[assign_Attribute]
 refine aA (ah ((gN hy hd).use R r fun s1 x1 r1=>aA (cr (aA (ah ?_)))))
 refine yg (r1.wf.kin.keeps r1.base) (lB.inst ⟨hx,.inl ⟨o,hk,ha⟩⟩ r1) hC hn hN fun h' t I hs=>?_
 refine gR I.nsb.aobj fun o' ho' hao=>?_
 obtain⟨st,r2⟩:=r1.at_change (s':={s1 with heap:=h',toks:=t}) hk (fun b ob hb e=>(hs.2 b hb).trans e) ho' rfl rfl
 exact wpAny_releaseD ⟨_,_,h o' (hao.mono (by split<;>lia)),(f8.of_ext x1).trans st,r2⟩
theorem ig{t e:Expr}{pos:Pos}{v:Value}(he:qQ X k env ρ e v)(h1:rD X k env ρ t v (Q .next))(hs:autoParam (swapsWithSole [t] e pos.line env=pure false) aR)(hw:autoParam (swappedStores [t] e env=pure none) aR)(hm:autoParam ((assignEach [t] env).map (·.2)=[assign t env]) aR):jz X k env ρ (.Assign [t] e pos) Q:=fun A bad O s R r=>by
 refine cM (he.use R r fun s1 x1 r1=>?_) hs hw
 rw[hm]
 refine aF (h1 A bad O s1 R r1) (fun _ s2 p2=>?_) fun _ _ x=>x
 refine jq p2 fun O2 ρ2 q st2 r2=>?_
 exact⟨.next,ρ2,O2,q,rfl,(f8.of_ext x1).trans st2,r2⟩
theorem l4{t₁ t₂ e:Expr}{pos:Pos}{v:Value}(he:qQ X k env ρ e v)(h1:rD X k env ρ t₁ v fun ρ₁=>rD X k env ρ₁ t₂ v (Q .next))(hm:autoParam ((assignEach [t₁,t₂] env).map (·.2)=[assign t₁ env,assign t₂ env]) aR)(hw:autoParam (swappedStores [t₁,t₂] e env=pure none) aR):jz X k env ρ (.Assign [t₁,t₂] e pos) Q:=fun A bad O s R r=>
 ef (he.use R r fun s1 x1 r1=>aF (h1 A bad O s1 R r1) (fun _ s2 p2=>by refine jq p2 fun O2 ρ2 q2 st2 r2=>?_;refine aF (q2 A bad O2 s2 R r2) (fun _ s3 p3=>?_) fun _ _ x=>x;refine jq p3 fun O3 ρ3 q3 st3 r3=>?_;exact⟨.next,_,_,q3,rfl,(f8.of_ext x1).trans (st2.trans st3),r3⟩) fun _ _ x=>x) hm hw
theorem nJ{bad:Addr->Prop}{O:Str->Option Addr}{s:Shared}(r:gE X bad O env ρ s){l:Addr}(h:s.heap.objs.size<=l):(l==sysModules)=false:=by
 have:=(r.wf.g.keeps r.base).lt
 have h1:mainGlobals=3:=by first|rfl|decide
 have h2:sysModules=1:=rfl
 rw[beq_eq_false_iff_ne]
 intro e
 rw[h1]at this
 have h':s.heap.objs.size<=l:=h
 have h3:(3:Nat)<s.heap.objs.size:=this
 have h4:l=1:=e.trans h2
 have h5:s.heap.objs.size<=1:=h4▸h'
 exact f5 0xf119f18000381f this h5
def Cl(X:Cx)(k:Nat)(env:Env)(ρ:List (Str×B))(e:Expr)(Po:Obj->Prop):Prop:=
 ∀(A:Around) (bad:Addr->Prop) (O:Str->Option Addr) (s:Shared),gG k A->gE X bad O env ρ s->wpAny (model X.prog X.w) A (eval e env) (fun u s'=>gQ s s'/\∃l o,u=.ref l/\s.heap.get? l=none/\s'.heap.get? l=some o/\(l==sysModules)=false/\Po o) g8 s
theorem qE{pos:Pos}:Cl X k env ρ (.Dict [] [] pos) (fun o=>o={cls:=.type "dict",data:=.dict #[]}):=fun A bad O s R r=>
 wpAny_Dict_empty ⟨gQ.push _ _,_,_,rfl,iG _,aT _ rfl,nJ r (aH _),rfl⟩
theorem s8{pos:Pos}:Cl X k env ρ (.List [] pos) (fun o=>o={cls:=.type "list",data:=.seq #[]}):=fun A bad O s R r=>
 wpAny_List (a0 ⟨by simp,gQ.push _ _,_,_,rfl,iG _,aT _ rfl,nJ r (aH _),rfl⟩)
theorem mj{t e:Expr}{pos:Pos}{Po:Obj->Prop}(key:Str)(he:Cl X k env ρ e Po)(h1:∀l o,(l==sysModules)=false->Po o->rD X k env (put ρ key (.at l o)) t (.ref l) (Q .next))(hs:autoParam (swapsWithSole [t] e pos.line env=pure false) aR)(hw:autoParam (swappedStores [t] e env=pure none) aR)(hm:autoParam ((assignEach [t] env).map (·.2)=[assign t env]) aR):jz X k env ρ (.Assign [t] e pos) Q:=fun A bad O s R r=>by
 refine cM (aF (he A bad O s R r) (fun u s1 h=>?_) fun _ _ x=>x) hs hw
 obtain⟨x1,l,o,rfl,hl,ho,hw',hP⟩:=h
 obtain⟨st1,r1⟩:=r.at_new key x1 hl ho
 rw[hm]
 refine aF (h1 l o hw' hP A bad _ s1 R r1) (fun _ s2 p2=>?_) fun _ _ x=>x
 refine jq p2 fun O2 ρ2 q st2 r2=>?_
 exact⟨.next,ρ2,O2,q,rfl,st1.trans st2,r2⟩
theorem kh{t₁ t₂ e:Expr}{pos:Pos}{Po:Obj->Prop}(key:Str)(he:Cl X k env ρ e Po)(h1:∀l o,(l==sysModules)=false->Po o->rD X k env (put ρ key (.at l o)) t₁ (.ref l) fun ρ₁=>rD X k env ρ₁ t₂ (.ref l) (Q .next))(hm:autoParam ((assignEach [t₁,t₂] env).map (·.2)=[assign t₁ env,assign t₂ env]) aR)(hw:autoParam (swappedStores [t₁,t₂] e env=pure none) aR):jz X k env ρ (.Assign [t₁,t₂] e pos) Q:=fun A bad O s R r=>
 ef (aF (he A bad O s R r) (fun u s1 h=>by obtain⟨x1,l,o,rfl,hl,ho,hw',hP⟩:=h;obtain⟨st1,r1⟩:=r.at_new key x1 hl ho;refine aF (h1 l o hw' hP A bad _ s1 R r1) (fun _ s2 p2=>?_) fun _ _ x=>x;refine jq p2 fun O2 ρ2 q2 st2 r2=>?_;refine aF (q2 A bad O2 s2 R r2) (fun _ s3 p3=>?_) fun _ _ x=>x;refine jq p3 fun O3 ρ3 q3 st3 r3=>?_;exact⟨.next,_,_,q3,rfl,st1.trans (st2.trans st3),r3⟩) fun _ _ x=>x) hm hw
theorem kn{l r:Expr}{pos:Pos}{v:Value}(hl:qQ X k env ρ l v)(hr:qQ X k env ρ r .none)(hm:autoParam (behindInMarks .IsNot r=false) aW):mM X k env ρ (.Compare l [.IsNot] [r] pos) (!(v==.none)):=fun A bad O s R q=>
 bY (hl.use R q fun s1 x1 r1=>hr.use R r1 fun s2 x2 r2=>isnot_none_gen (bV ⟨x1.trans x2,rfl⟩)) hm
theorem oU{l r:Expr}{pos:Pos}{a:Int}(hl:Ev X k env ρ l (.int a))(hr:qQ X k env ρ r .none)(hm:autoParam (behindInMarks .Is r=false) aW):mM X k env ρ (.Compare l [.Is] [r] pos) false:=fun A bad O s R q=>
 bY (hl.use R q fun v s1 x1 r1 q1=>hr.use R r1 fun s2 x2 r2=>q1.intE fun _=>is_int_none (bV ⟨x1.trans x2,rfl⟩)) hm
theorem yv{e:Expr}(h:qQ X k env ρ e .none)(he:autoParam (∀whole,isTrue e env whole=(do let v<-whole;standAt e.pos;holding [v] (truthy v))) aI):mM X k env ρ e false:=fun A bad O s R r=>
 isTrue_plain (h.use R r fun s1 x1 r1=>aC ⟨x1,rfl⟩) (he _)
theorem ju{c:Str}{n:Nat}{p pos:Pos}(hq:Q .next ρ)(hi:autoParam (interactive env=false) aR)(hs:autoParam (swapsWith (.Constant (.str c) n p) none pos.line env=pure false) aR):jz X k env ρ (.Expr (.Constant (.str c) n p) pos) Q:=fun A bad O s R r=>
 cg (kK.use R r fun v s1 x1 r1 q1=>q1.strE fun _=>⟨.next,ρ,O,hq,rfl,f8.of_ext x1,r1⟩) hi hs
theorem mN{C x dx f:Addr}{cd:ClassData}{key:Str}{m:Str->Option Value}{N:Nat}{y name:Str}{yp apos pos:Pos}{pl:Sem Bool}{e:Expr}{es:List Expr}{o:Obj}{fd:FuncData}{A:Around}{bad:Addr->Prop}{O:Str->Option Addr}{s:Shared}{P:Value->Shared->Prop}{Pa:List Value->Shared->Prop}(R:gG k A)(r:gE X bad O env ρ s)(hy:ρ.lookup y=some (.raw (.ref x)))(S:lB X ρ C x dx key m N)(hC:lU X.K C cd)(hf:findIn X.K (.ref C) name=some (some (.ref f)))(ht:typeIn X.K (.ref f)=some (.type "function"))(hm:m name=none)(ho:X.h₀.get? f=some o)(hdat:o.data=.func fd)(ha:wpAny (model X.prog X.w) A (spliced (backTo pos (starEach (e::es) env))) (fun vs s'=>gQ s s'/\Pa vs s') g8 s)(h:∀vs s',gQ s s'->gE X bad O env ρ s'->Pa vs s'->wpAny (model X.prog X.w) A (call (.ref f) (.ref x::vs)) P g8 s')(he:autoParam (eval (.Call (.Attribute (.Name y yp) name apos) (e::es) [] pos) env=(do
   let ov<-eval (.Name y yp) env
   standAt apos.atName let(f,first)<-holding [ov] (getMethod ov name pl)callWith pos f first (backTo pos (starEach (e::es) env)) [])) aR)(hst:autoParam (starEach (e::es) env=(false,eval e env)::starEach es env) aR)(hd:autoParam ((y==("__debug__":Str))=false) aD):wpAny (model X.prog X.w) A (eval (.Call (.Attribute (.Name y yp) name apos) (e::es) [] pos) env) P g8 s:=by
 refine MethodCall_ (bW (Lk.load r.ok.kind (r.raw y _ hy) ?_) hd) he
 refine jm (r.wf.kin.keeps r.base) (S.inst r) hC hf ht hm ?_
 refine cG (o:=o) (fd:=fd) ?_
 rw[hst]at ha|-
 refine cW (aF ha (fun vs s1 q=>?_) fun _ _ x=>x)
 have r1:=r.ext q.1
 exact⟨⟨r1.base _ _ ho,hdat⟩,h vs s1 q.1 r1 q.2⟩
theorem pG{C x dx f:Addr}{cd:ClassData}{key:Str}{m:Str->Option Value}{N:Nat}{y name:Str}{yp apos pos:Pos}{pl:Sem Bool}{o:Obj}{fd:FuncData}{A:Around}{bad:Addr->Prop}{O:Str->Option Addr}{s:Shared}{P:Value->Shared->Prop}(R:gG k A)(r:gE X bad O env ρ s)(hy:ρ.lookup y=some (.raw (.ref x)))(S:lB X ρ C x dx key m N)(hC:lU X.K C cd)(hf:findIn X.K (.ref C) name=some (some (.ref f)))(ht:typeIn X.K (.ref f)=some (.type "function"))(hm:m name=none)(ho:X.h₀.get? f=some o)(hdat:o.data=.func fd)(h:wpAny (model X.prog X.w) A (call (.ref f) [.ref x]) P g8 s)(he:autoParam (eval (.Call (.Attribute (.Name y yp) name apos) [] [] pos) env=(do
   let ov<-eval (.Name y yp) env
   standAt apos.atName let(f,first)<-holding [ov] (getMethod ov name pl)callWith pos f first (backTo pos (starEach [] env)) [])) aR)(hd:autoParam ((y==("__debug__":Str))=false) aD):wpAny (model X.prog X.w) A (eval (.Call (.Attribute (.Name y yp) name apos) [] [] pos) env) P g8 s:=by
 refine MethodCall_ (bW (Lk.load r.ok.kind (r.raw y _ hy) ?_) hd) he
 refine jm (r.wf.kin.keeps r.base) (S.inst r) hC hf ht hm ?_
 refine cG (o:=o) (fd:=fd) ?_
 exact aC (a:=(⟨[],[]⟩:Args)) ⟨⟨r.base _ _ ho,hdat⟩,h⟩
end
structure iF(a:Addr)(s s':Shared):Prop where
 keep:∀b o,b≠a->s.heap.get? b=some o->s'.heap.get? b=some o
 gens:s'.gens=s.gens
 os:s'.os=s.os
def Ch(bad:Addr->Prop)(h:Heap):Fl->Value->Prop
 |.ret d,v=>gF bad h d v
 |_,v=>v=.none
theorem kg{X:Cx}{s:Shared}(a:At X s){dx:Addr}(hX:X.h₀.get? dx=none):∀b o,X.h₀.get? b=some o->(s.heap.hide dx).get? b=some o:=fun b o e=>by
 rw[ax _ (fun q=>by rw[q,hX]at e;cases e)];exact a.base b o e
theorem jG{X:Cx}{k:Nat}{f:Addr}{fd:FuncData}{body:List Stmt}{names:List Str}(D:kf X f fd body names){A:Around}{bad:Addr->Prop}{s:Shared}{dx:Addr}{o:Obj}{vs:List Value}{bs:List B}{Dt:PyData->Value->Prop}{P:Fl->List (Str×B)->Prop}(R:gG (k+1) A)(a:At X s)(ho:s.heap.get? dx=some o)(hns:∀vs n,o.data≠.seq vs n)(hX:X.h₀.get? dx=none)(hb:¬bad dx)(low:∀a,bad a->∃o,s.heap.get? a=some o)(hdat:∀d v,Dt d v->gF bad (s.heap.hide dx) d v)(q:ka bad s.heap bs vs)(hl:vs.length=names.length)(h:∀L,iP (X.on (s.heap.hide dx) Dt) k (callEnvC fd L f) (put (names.zip bs) "#d" (.at dx o)) body fun fl ρ'=>P fl ρ'/\(∃o',fn ρ' "#d" (.at dx o'))/\(fl=.next\/∃d,fl=.ret d)):codeAny (model X.prog X.w) A (.call (.ref f) ⟨vs,[]⟩) (fun r s'=>∃v fl ρ' O' L,r=.ok (.ret v)/\P fl ρ'/\Ch bad s'.heap fl v/\iF dx s s'/\gE (X.on (s.heap.hide dx) Dt) bad O' (callEnvC fd L f) ρ' s') s:=by
 have ho':=kg a hX
 have aX:At (X.on (s.heap.hide dx) Dt) s:=⟨a.wf.on ho',fun b o e=>Heap.of_hide e,a.gens,a.os⟩
 refine mI (X:=X.on (s.heap.hide dx) Dt) (D.on ho') (bad:=bad) R aX low hdat q hl fun L A' s₁ R' r keep hpl hg hos=>?_
 have r1:=r.at_take (x:="#d") (a:=dx) (o:=o) (keep _ _ ho) hns (Heap.hide_self _ _) (hpl _ _ ho) (fun h=>hb (nf h))
 refine aF (h L A' bad _ s₁ R' r1) (fun fl s' p=>?_) fun _ _ x=>x
 obtain⟨f',ρ',O',⟨hP,⟨o',ho''⟩,hfl⟩,hfi,st,r'⟩:=p
 have kb:iF dx s s':=⟨fun b o hb e=>r'.base b o (by show(s.heap.hide dx).get? b=_;rw[ax _ hb];exact e),r'.gens.trans a.gens.symm,r'.os.trans a.os.symm⟩
 rcases hfl with rfl|⟨d,rfl⟩
 ·cases hfi;exact⟨.none,.next,ρ',O',L,rfl,hP,rfl,kb,r'⟩
 ·obtain⟨v,rfl,rv⟩:=hfi;exact⟨v,.ret d,ρ',O',L,rfl,hP,rv,kb,r'⟩
theorem lc{X:Cx}{k:Nat}{f:Addr}{fd:FuncData}{body:List Stmt}{names:List Str}(D:kf X f fd body names){A:Around}{bad:Addr->Prop}{s:Shared}{vs:List Value}{bs:List B}{Dt:PyData->Value->Prop}{P:Fl->List (Str×B)->Prop}(R:gG (k+1) A)(a:At X s)(low:∀a,bad a->∃o,s.heap.get? a=some o)(hdat:∀d v,Dt d v->gF bad s.heap d v)(q:ka bad s.heap bs vs)(hl:vs.length=names.length)(h:∀L,iP (X.on s.heap Dt) k (callEnvC fd L f) (names.zip bs) body fun fl ρ'=>P fl ρ'/\(fl=.next\/∃d,fl=.ret d)):codeAny (model X.prog X.w) A (.call (.ref f) ⟨vs,[]⟩) (fun r s'=>∃v fl ρ' O' L,r=.ok (.ret v)/\P fl ρ'/\Ch bad s'.heap fl v/\gQ s s'/\gE (X.on s.heap Dt) bad O' (callEnvC fd L f) ρ' s') s:=by
 have aX:At (X.on s.heap Dt) s:=⟨a.wf.on a.base,fun b o e=>e,a.gens,a.os⟩
 refine mI (X:=X.on s.heap Dt) (D.on a.base) (bad:=bad) R aX low hdat q hl fun L A' s₁ R' r keep hpl hg hos=>?_
 refine aF (h L A' bad _ s₁ R' r) (fun fl s' p=>?_) fun _ _ x=>x
 obtain⟨f',ρ',O',⟨hP,hfl⟩,hfi,st,r'⟩:=p
 have kb:gQ s s':=⟨fun b o e=>r'.base b o e,r'.gens.trans a.gens.symm,r'.os.trans a.os.symm⟩
 rcases hfl with rfl|⟨d,rfl⟩
 ·cases hfi;exact⟨.none,.next,ρ',O',L,rfl,hP,rfl,kb,r'⟩
 ·obtain⟨v,rfl,rv⟩:=hfi;exact⟨v,.ret d,ρ',O',L,rfl,hP,rv,kb,r'⟩
noncomputable abbrev pw:Program:=PySem.Challenge.pw_mt0008_01
noncomputable def g7:List Stmt:=pw.main.body
noncomputable abbrev DT:Nat:=9
noncomputable def fh(l:List Stmt)(i:Nat):Stmt:=l.getD i (.Pass ⟨0,0,0,0⟩)
noncomputable def D6(s:Stmt):(Arguments×Scope×Pos)×Expr×List Stmt×List Stmt:=by
 apply@Stmt.casesOn (fun _=>_) s
 case ClassDef=>exact fun _ _ _ b _ _ _ _ _ _ _=>(default,default,b,[])
 case FunctionDef=>exact fun _ a b _ _ _ sc _ _ p=>((a,sc,p),default,b,[])
 case For=>exact fun _ _ b _ _=>(default,default,b,[])
 case While=>exact fun _ b _ _=>(default,default,b,[])
 case If=>exact fun _ b e _=>(default,default,b,e)
 case Assign=>exact fun _ e _=>(default,e,[],[])
 case Expr=>exact fun e _=>(default,e,[],[])
 all_goals intros;exact(default,default,[],[])
noncomputable def gg(s:Stmt):Arguments:=(D6 s).1.1
noncomputable def gT(s:Stmt):Scope:=(D6 s).1.2.1
noncomputable def Dh(s:Stmt):Pos:=(D6 s).1.2.2
noncomputable def uy(s:Stmt):Expr:=(D6 s).2.1
noncomputable abbrev v7:=uy
noncomputable def fm(s:Stmt):List Stmt:=(D6 s).2.2.1
noncomputable abbrev f6:=fm
noncomputable abbrev iQ:=fm
noncomputable abbrev rO:=fm
noncomputable abbrev zv:=fm
noncomputable def AE(s:Stmt):List Stmt:=(D6 s).2.2.2
noncomputable def pK(b:List Stmt)(t:Tok):Value:=match docOf b with
 |some x=>.str x t
 |none=>.none
noncomputable abbrev ni:=Nat×Nat×Nat
inductive gY(la lb:Nat):Bool->Nat->Nat->List ni->Prop
 |nil {b:Bool}{i j:Nat}:i<=la->j<=lb->gY la lb b i j []
 |cons {b:Bool}{i j ai bj n:Nat}{r:List ni}:i<=ai->j<=bj->0<n->(b=false->¬(i=ai/\j=bj))->gY la lb false (ai+n) (bj+n) r->gY la lb b i j ((ai,bj,n)::r)
theorem gY.inv{la lb:Nat}{b:Bool}{i j ai bj n:Nat}{r:List ni}(g:gY la lb b i j ((ai,bj,n)::r)):i<=ai/\j<=bj/\0<n/\(b=false->¬(i=ai/\j=bj))/\gY la lb false (ai+n) (bj+n) r:=by
 cases g with|cons h1 h2 h3 h4 h5=>exact⟨h1,h2,h3,h4,h5⟩
theorem gY.le{la lb:Nat}{b:Bool}{i j:Nat}{r:List ni}(g:gY la lb b i j r):i<=la/\j<=lb:=by
 induction g with
 |nil h1 h2=>exact⟨h1,h2⟩
 |cons h1 h2 h3 h4 h5 ih=>exact uH 0xf10101f1011f6205007f643a0541a0320100f h1 h2 ih.1 ih.2
theorem gY.any{la lb:Nat}{b:Bool}{i j:Nat}{r:List ni}(g:gY la lb b i j r):gY la lb true i j r:=by
 cases g with
 |nil h1 h2=>exact .nil h1 h2
 |cons h1 h2 h3 h4 h5=>exact .cons h1 h2 h3 (fun e=>by cases e) h5
noncomputable def code(t:Str)(i1 i2 j1 j2:Nat):PyData:=.tuple [.str t,.int i1,.int i2,.int j1,.int j2]
noncomputable def qZ(i ai j bj:Nat):List PyData:=if i=ai/\j=bj then[]else[code (if ai=i then"insert"else if j=bj then"delete"else"replace") i ai j bj]
noncomputable def lD(la lb:Nat):Nat->Nat->List ni->List PyData
 |i,j,[]=>qZ i la j lb
 |i,j,(ai,bj,n)::r=>qZ i ai j bj++code "equal" ai (ai+n) bj (bj+n)::lD la lb (ai+n) (bj+n) r
def gJ(ed:List Int):Nat->List ni->Prop
 |j,[]=>∀t,j<=t->t<ed.length->∃v:Int,ed[t]?=some v/\v<0
 |j,(ai,bj,n)::r=>(∀t,j<=t->t<bj->∃v:Int,ed[t]?=some v/\v<0)/\(∀d,d<n->ed[bj+d]?=some ((ai+d:Nat):Int))/\gJ ed (bj+n) r
theorem v6(x:Str)(a b:B):∀ρ:List (Str×B),put (put ρ x a) x b=put ρ x b
 |[]=>by simp[put]
 |(y,c)::r=>by
  by_cases h:x=y
  ·have e1:∀z,put ((y,c)::r) x z=(y,z)::r:=fun z=>by unfold put;rw[aN h]
   rw[e1,e1];unfold put;rw[aN h]
  ·have e1:∀q z,put ((y,c)::q) x z=(y,c)::put q x z:=fun q z=>by rw[put,aL h]
   rw[e1,e1,e1,v6 x a b r]
noncomputable abbrev pD:Stmt:=fh g7 DT
noncomputable def yk(a b c:Value):FuncData:=fnOf "_law_told" "_law_told" (gg pD) (fm pD) (gT pD) (.none) (.none) (.none) a none b c
structure TI(la:Nat)(ed:List Int)(i j:Nat)(cs:List PyData)(ρ:List (Str×B)):Prop where
 size:fn ρ "size" (.val (.int la))
 edit:fn ρ "edit" (.val (.list (ed.map .int)))
 codes:fn ρ "codes" (.own cs)
 i:fn ρ "i" (.val (.int i))
 j:fn ρ "j" (.val (.int j))
theorem TI.pt{la:Nat}{ed:List Int}{i j:Nat}{cs:List PyData}{ρ:List (Str×B)}(T:TI la ed i j cs ρ){z:Str}{b:B}(h:(j6 "size" z&&(j6 "edit" z&&(j6 "codes" z&&(j6 "i" z&&j6 "j" z))))=true):TI la ed i j cs (put ρ z b):=by
 simp only[ad]at h
 exact⟨hn T.size h.1,hn T.edit h.2.1,hn T.codes h.2.2.1,hn T.i h.2.2.2.1,hn T.j h.2.2.2.2⟩
theorem fy{X:Cx}{k:Nat}{env:Env}{ρ:List (Str×B)}{e:Expr}{d d':PyData}(h:Ev X k env ρ e d)(q:d=d'):Ev X k env ρ e d':=q▸h
theorem pj{ed:List Int}{t:Nat}(h:t<ed.length):(ed.map PyData.int)[je ((t:Nat):Int) (ed.map PyData.int).length]?=some (.int (ed.getD t 0)):=by
 delta je
 rw[aL (by exact f5 0xf1080c46ff),aq,aS,aK h,a8,aK h]
 rfl
def mJ(i j:Nat)(rest:List ni):Prop:=∀n r,rest≠(i,j,n)::r
theorem wj{la lb:Nat}{b:Bool}{i j:Nat}{rest:List ni}{ed:List Int}(g:gY la lb b i j rest)(e:gJ ed j rest)(hn:mJ i j rest):∀v:Int,ed[j]?=some v->v≠i:=by
 intro v hv hvi
 cases rest with
 |nil=>refine gR (e j (aH _) (List.getElem?_eq_some_iff.mp hv).1) fun u hu hlt=>?_;rw[hv]at hu;cases hu;exact iz [_] [_] 0xf119f08040c05f hvi hlt
 |cons p r=>
  obtain⟨ai,bj,n⟩:=p;refine Bb g.inv fun h1 h2 h3 h4 h5=>?_;obtain⟨e1,e2,e3⟩:=e;rcases a9 j bj with h|h
  ·refine gR (e1 j (aH _) h) fun u hu hlt=>?_;rw[hv]at hu;cases hu;exact iz [_] [_] 0xf119f08040c05f hvi hlt
  ·have hj:bj=j:=by exact fk 0xf11f101f012f010100f h2 h
   subst hj;have:=e2 0 h3;rw[eS,hv]at this;cases this;have:ai=i:=by exact fk 0xf11f81f102f1c080ac5f hvi
   exact hn n r (by rw[this])
theorem Ds{la lb:Nat}{b:Bool}{i j:Nat}{rest:List ni}{ed:List Int}(g:gY la lb b i j rest)(e:gJ ed j rest):∃N,(∀d,d<N->ed[j+d]?=some ((i+d:Nat):Int))/\(∀v:Int,ed[j+N]?=some v->v≠((i+N:Nat):Int))/\((N=0/\mJ i j rest)\/(0<N/\∃r,rest=(i,j,N)::r)):=by
 by_cases hn:mJ i j rest
 ·exact⟨0,fun d h=>absurd h (ew _),wj g e hn,.inl ⟨rfl,hn⟩⟩
 ·simp only[mJ,Classical.not_forall,Classical.not_not]at hn;obtain⟨n,r,rfl⟩:=hn;refine Bb g.inv fun h1 h2 h3 h4 h5=>?_;obtain⟨e1,e2,e3⟩:=e;refine⟨n,e2,wj h5 e3 (fun n' r' q=>?_),.inr ⟨h3,r,rfl⟩⟩;subst q;cases h5 with|cons _ _ _ h4' _=>exact h4' rfl ⟨rfl,rfl⟩
noncomputable def gc(la lb:Nat):List ni->Nat×Nat
 |[]=>(la,lb)
 |(ai,bj,_)::_=>(ai,bj)
theorem BA{la:Nat}{b:Bool}{i j:Nat}{rest:List ni}{ed:List Int}(g:gY la ed.length b i j rest)(e:gJ ed j rest):∃N,j+N=(gc la ed.length rest).2/\(∀d,d<N->∃v:Int,ed[j+d]?=some v/\v<0)/\(∀v:Int,ed[j+N]?=some v->v=(gc la ed.length rest).1)/\(j+N=ed.length->(gc la ed.length rest).1=la):=by
 cases rest with
 |nil=>
  refine⟨ed.length-j,?_,fun d h=>e _ (fk 0xf110a00ff) (fu 0xf118f1008f102a1f301f210 h),fun v hv=>?_,fun _=>rfl⟩;·have:=g.le;simp[gc];exact fk 0xf11f110ff18f1108ff120a2f100f010 this.2
  ·have hv':=(List.getElem?_eq_some_iff.mp hv).1;have hg:=g.le;exact iz [_,_,_] [_] 0xf1102c05f130a1f011 hv'
 |cons p r=>obtain⟨ai,bj,n⟩:=p;refine Bb g.inv fun h1 h2 h3 h4 h5=>?_;obtain⟨e1,e2,e3⟩:=e;have:=h5.le;refine⟨bj-j,by simp[gc];exact fk 0xf11f110ff18f1108ff120a2f100f010 h2,fun d h=>e1 _ (fk 0xf110a00ff) (fu 0xf118f1008f102a1f301f210 h),fun v hv=>?_,fun h=>by exact jr 0xf111008f1111008ff111008f1111008ff542f360a2321a02081100f010 h2 h3 this.2 h⟩;have:=e2 0 h3;rw[show j+(bj-j)=bj+0 by exact fk 0xf11f110ff18f1108ff081a20a2f100f010 h2,this]at hv;cases hv;simp[gc]
theorem CO{la lb:Nat}{b:Bool}{i j:Nat}{rest:List ni}(hn:mJ i j rest)(hne:¬(i=(gc la lb rest).1/\j=(gc la lb rest).2)):lD la lb i j rest=code (if(gc la lb rest).1=i then"insert"else if j=(gc la lb rest).2 then"delete"else"replace") i (gc la lb rest).1 j (gc la lb rest).2::lD la lb (gc la lb rest).1 (gc la lb rest).2 rest:=by
 cases rest with
 |nil=>simp only[gc]at hne|-;unfold lD qZ;rw[aL hne];simp;rfl
 |cons p r=>obtain⟨ai,bj,n⟩:=p;simp only[gc]at hne|-;unfold lD qZ;rw[aL hne];simp;rfl
theorem xF{la lb:Nat}{b:Bool}{i j:Nat}{rest:List ni}(g:gY la lb b i j rest):gY la lb true (gc la lb rest).1 (gc la lb rest).2 rest/\i<=(gc la lb rest).1/\j<=(gc la lb rest).2:=by
 cases g with
 |nil h1 h2=>exact⟨.nil (aH _) (aH _),h1,h2⟩
 |cons h1 h2 h3 h4 h5=>exact⟨.cons (aH _) (aH _) h3 (fun e=>by cases e) h5,h1,h2⟩
theorem xS{la:Nat}{i j:Nat}{rest:List ni}{ed:List Int}(h:j<=(gc la ed.length rest).2)(e:gJ ed j rest):gJ ed (gc la ed.length rest).2 rest:=by
 cases rest with
 |nil=>exact fun t h1 h2=>absurd h1 (Nat.not_le.mpr h2)
 |cons p r=>obtain⟨ai,bj,n⟩:=p;exact⟨fun t h1 h2=>absurd h1 (Nat.not_le.mpr h2),e.2.1,e.2.2⟩
theorem gd{X:Cx}{k:Nat}{env:Env}{ρ:List (Str×B)}{e:Expr}{b b':Bool}(h:mM X k env ρ e b)(q:b=b'):mM X k env ρ e b':=q▸h
theorem wM{X:Cx}{k:Nat}{env:Env}{ρ:List (Str×B)}{Q:Fl->List (Str×B)->Prop}{x:Str}{p p' q q':Pos}{m:Nat}{test:Expr}{N:Nat}(hx:sO env x)(ht:∀n:Nat,n<=N->mM X k env (put ρ x (.val (.int n))) test (decide (n<N)))(hq:Q .next (put ρ x (.val (.int N)))):jz X k env (put ρ x (.val (.int 0))) (.While test [.AugAssign (.Name x p) .Add (.Constant (.int 1) m p') q] [] q') Q:=
 nc (fun m ρ'=>∃n:Nat,n<=N/\m=N-n/\ρ'=put ρ x (.val (.int n))) (n:=N) ⟨0,aV _,rfl,rfl⟩ (by
  rintro m ρ' ⟨n,hn,rfl,rfl⟩Q2 H2;refine⟨_,ht n hn,fun h=>?_,fun h=>?_⟩
  ·have h:=of_decide_eq_true h;exact fe (r8 (a:=n) (b:=1) hs ft hx (fj (H2.next ⟨N-(n+1),by exact fk 0xf1018f110108f321f101f011180a10 h,n+1,h,rfl,by rw[v6];rfl⟩)))
  ·have h:=bu h;obtain rfl:n=N:=by exact fk 0xf101f11f102f1016100f hn h
   exact hq)
section
variable{X:Cx}{k:Nat}{L f:Addr}{a b c:Value}{la:Nat}{ed:List Int}{i j:Nat}{cs:List PyData}{ρ:List (Str×B)}
noncomputable abbrev AR(a b c:Value)(L f:Addr):Env:=callEnvC (yk a b c) L f
theorem sI(hlen:X.gl ("len":Str)=some (.builtin "len"))(hz:ed.length<=sizeLine){p p2 p3:Pos}(h:fn ρ "edit" (.val (.list (ed.map .int)))):Ev X k (AR a b c L f) ρ (.Call (.Name "len" p) [.Name "edit" p2] [] p3) (.int ed.length):=
 fy (i7 hlen rfl (gH (fc h)) (by rw[aB];exact hz)) (by rw[aB])
theorem r9(hz:ed.length<=sizeLine){n:Nat}{p p2 p3 p4 p5:Pos}(T:TI la ed i j cs ρ)(hn:fn ρ "n" (.val (.int n)))(h:j+n<ed.length):Ev X k (AR a b c L f) ρ (.Subscript (.Name "edit" p) (.BinOp (.Name "j" p2) .Add (.Name "n" p3) p4) p5) (.int (ed.getD (j+n) 0)):=
 jM (n:=((j+n:Nat):Int)) (gH (fc T.edit)) (f7 (fc T.j) (fc hn)) (fu 0xf121ac0ce3ff) (by rw[aB];exact fu 0xf112c10ac4f210a1f h) (by rw[aB];exact hz) (pj h)
theorem BE{t:Nat}{v:Int}(h:ed[t]?=some v):t<ed.length/\ed.getD t 0=v:=by
 obtain⟨h1,_⟩:=List.getElem?_eq_some_iff.mp h
 exact⟨h1,by rw[a8,h];rfl⟩
theorem v9{n N:Nat}{P:Nat->Int->Bool}(hn:n<=N)(h1:∀d,d<N->∃v,ed[j+d]?=some v/\P d v=true)(h2:∀v,ed[j+N]?=some v->P N v=false):(decide ((j:Int)+(n:Int)<(ed.length:Int))&&(P n (ed.getD (j+n) 0)&&true))=decide (n<N):=by
 rw[ct]
 rcases a9 n N with h|h
 ·refine gR (h1 n h) fun v hv hp=>?_;obtain⟨e1,e2⟩:=BE hv;rw[e2,hp,bH (by exact fu 0xf112c1c0ca4f210a1f e1:(j:Int)+(n:Int)<(ed.length:Int)),bH h];rfl
 ·obtain rfl:n=N:=by exact fk 0xf101f11f102f010100f hn h
  rw[de (by exact f5 0xf10016ff:¬n<n)];cases e:decide ((j:Int)+(n:Int)<(ed.length:Int))with
  |false=>rfl|true=>
   have:=of_decide_eq_true e;have hj:j+n<ed.length:=by exact fu 0xf11210a1f2c1c0ca4f this
   rw[h2 _ (by rw[aK hj,a8,aK hj];rfl)];rfl
theorem vn{la lb i j i' j':Nat}(h1:i<=i')(h2:j<=j')(h3:i'<=la)(h4:j'<=lb)(h:i<i'\/j<j'):(la-i')+(lb-j')<(la-i)+(lb-j):=by exact jr 0xf110101881f1010101881ff1001101018081f1018081fff100010881f110101010881ff10001000108081f1000010108081fff2717a076a1f3211018530410320100f251041350140 h1 h2 h3 h4 h
noncomputable abbrev AY:List Stmt:=rO (fh (fm pD) 2)
theorem xm{bb:Bool}{n:Nat}{rest r:List ni}{Q1:Fl->List (Str×B)->Prop}(T:TI la ed i j cs ρ)(hn0:fn ρ "n" (.val (.int n)))(g:gY la ed.length bb i j rest)(e:gJ ed j rest)(hr:rest=(i,j,n)::r)(hc:cs.length<=sizeLine)(hQ:∀{ρ':List (Str×B)}{i' j':Nat}{rest':List ni}{cs':List PyData}{bb':Bool},TI la ed i' j' cs' ρ'->gY la ed.length bb' i' j' rest'->gJ ed j' rest'->cs'++lD la ed.length i' j' rest'=cs++lD la ed.length i j rest->(la-i')+(ed.length-j')<(la-i)+(ed.length-j)->Q1 .next ρ'):iP X k (AR a b c L f) ρ (zv (fh AY 2)) Q1:=by
 subst hr
 refine Bb g.inv fun g1 g2 g3 g4 g5=>?_
 have hle:=g5.le
 refine fe (gw (ds:=cs) (d:=code "equal" i (i+n) j (j+n)) T.codes (gV (fg kK (fg (fc T.i) (fg (f7 (fc T.i) (fc hn0)) (fg (fc T.j) (fg (f7 (fc T.j) (fc hn0)) fq))))) (by simp only[aM,aZ];decide)) hc ?_)
 refine fe (lO (xs:=["i","j"]) (gV (fg (f7 (fc (hn T.i rfl)) (fc (hn hn0 rfl))) (fg (f7 (fc (hn T.j rfl)) (fc (hn hn0 rfl))) fq)) (by simp only[aM,aZ];decide)) (gU (.inl rfl) (gU (.inl rfl) kL)) (fj ?_) rfl rfl rfl)
 refine hQ (i':=i+n) (j':=j+n) (cs':=cs++[code "equal" i (i+n) j (j+n)]) ⟨hn (hn (hn T.size rfl) rfl) rfl,hn (hn (hn T.edit rfl) rfl) rfl,hn (hn hs rfl) rfl,by k_mem,by k_mem⟩ g5 e.2.2 ?_ (vn (cQ _ _) (cQ _ _) hle.1 hle.2 (.inl (eK g3)))
 conv=>rhs;unfold lD qZ
 simp
theorem zS{bb:Bool}{rest:List ni}{Q1:Fl->List (Str×B)->Prop}(hlen:X.gl ("len":Str)=some (.builtin "len"))(hz:ed.length<=sizeLine)(T:TI la ed i j cs ρ)(g:gY la ed.length bb i j rest)(e:gJ ed j rest)(hne:i<la\/j<ed.length)(hc:cs.length<=sizeLine)(hnh:mJ i j rest)(hQ:∀{ρ':List (Str×B)}{i' j':Nat}{rest':List ni}{cs':List PyData}{bb':Bool},TI la ed i' j' cs' ρ'->gY la ed.length bb' i' j' rest'->gJ ed j' rest'->cs'++lD la ed.length i' j' rest'=cs++lD la ed.length i j rest->(la-i')+(ed.length-j')<(la-i)+(ed.length-j)->Q1 .next ρ'):iP X k (AR a b c L f) (put ρ "n" (.val (.int 0))) (AE (fh AY 2)) Q1:=by
 refine yQ (BA g e) fun n hM m1 m2 m3=>?_
 refine fe (wM (N:=n) (.inl rfl) (fun n hn'=>gd (gL (f0 (f7 (fc (hn T.j rfl)) (fc hs)) (sI hlen hz (hn T.edit rfl)) rfl) fun ht=>gL (f0 (r9 hz (T.pt rfl) hs (by have:=of_decide_eq_true ht;exact fu 0xf11210a1f2c1c0ca4f this)) ft rfl) fun _=>iw) (v9 (P:=fun _ v=>decide (v<0)) hn' (fun d hd=>let⟨v,hv,h⟩:=m1 d hd;⟨v,hv,bH h⟩) fun v hv=>de (by rw[m2 v hv];exact f5 0xf1080c46ff))) ?_)
 refine qd (xF g) fun gn gi gj=>?_
 have en:=xS (la:=la) (i:=i) gj e
 have hne:¬(i=(gc la ed.length rest).1/\j=(gc la ed.length rest).2):=by rintro⟨q1,q2⟩;cases rest with|nil=>simp only[gc]at q1 q2;exact gK 0xf101f11f9f3211018322102f q1 q2 hne|cons p r=>obtain⟨ai,bj,n'⟩:=p;simp only[gc]at q1 q2;exact hnh n' r (by rw[q1,q2])
 have hop:=CO (la:=la) (lb:=ed.length) (b:=true) hnh hne
 rw[<-hM]at gn gj en hop
 rw[hop]at hQ
 have hle:=gn.le
 generalize(gc la ed.length rest).1=G at*
 clear hop m1 g e hnh
 have T:=T.pt (z:="n") (b:=.val (.int n)) rfl
 have hN:fn (put ρ "n" (.val (.int n))) "n" (.val (.int n)):=hs
 generalize put ρ "n" (.val (.int n))=ρ1 at*
 refine fe (gM (d:=.int G) (fy (oM (f0 (f7 (fc T.j) (fc hN)) (sI hlen hz T.edit) rfl) (fun ht=>r9 hz T hN (by have:=of_decide_eq_true ht;exact fu 0xf11210a1f2c1c0ca4f this)) (fun _=>fc T.size)) ?_) (.inl rfl) ?_)
 ·split
  ·rename_i h;have:=of_decide_eq_true h;have hj:j+n<ed.length:=by exact fu 0xf11210a1f2c1c0ca4f this
   rw[m2 (ed.getD (j+n) 0) (by rw[aK hj,a8,aK hj];rfl)]
  ·rename_i h;have:=bu (Bool.not_eq_true _▸h);rw[m3 (by exact fu 0xf101f11f210a2f2c1c0ca46210a0f hle.2 this)]
 have T:=T.pt (z:="goal") (b:=.val (.int G)) rfl
 have hN:=hn (x:="goal") (b:=.val (.int G)) hN rfl
 have hG:fn (put ρ1 "goal" (.val (.int G))) "goal" (.val (.int G)):=hs
 generalize put ρ1 "goal" (.val (.int G))=ρ2 at*
 refine fe (gM (d:=.str (if G=i then"insert"else if j=j+n then"delete"else"replace")) (fy (oM (f0 (fc hG) (fc T.i) rfl) (fun _=>kK) (fun _=>oM (f0 (fc hN) ft rfl) (fun _=>kK) (fun _=>kK))) ?_) (.inl rfl) ?_)
 ·by_cases q1:G=i;·subst q1;simp
  ·have q3:¬((G:Int)=i):=by exact fk 0xf11f81f1c0c56f1026f q1
   by_cases q2:n=0;·subst q2;simp[q1,q3]
   ·have:¬j=j+n:=by exact fk 0xf1f11f01a126f08026f q2
    simp[q1,q2,q3]
 generalize(if G=i then("insert":Str)else if j=j+n then"delete"else"replace")=w at*
 refine fe (gw (ds:=cs) (d:=code w i G j (j+n)) (hn T.codes rfl) (gV (fg (fc hs) (fg (fc (hn T.i rfl)) (fg (fc (hn hG rfl)) (fg (fc (hn T.j rfl)) (fg (f7 (fc (hn T.j rfl)) (fc (hn hN rfl))) fq))))) (by simp only[aM,aZ];decide)) hc ?_)
 refine fe (lO (xs:=["i","j"]) (gV (fg (fc (hn (hn hG rfl) rfl)) (fg (f7 (fc (hn (hn T.j rfl) rfl)) (fc (hn (hn hN rfl) rfl))) fq)) (by simp only[aM,aZ];decide)) (gU (.inl rfl) (gU (.inl rfl) kL)) (fj ?_) rfl rfl rfl)
 exact hQ (cs':=cs++[code w i G j (j+n)]) ⟨hn (hn (hn (hn T.size rfl) rfl) rfl) rfl,hn (hn (hn (hn T.edit rfl) rfl) rfl) rfl,hn (hn hs rfl) rfl,by k_mem,by k_mem⟩ gn en (by rw[av];rfl) (vn gi gj hle.1 hle.2 (i8 0xf1101f8001f11f10001f10a014318f20243276430210a2f hM gi hne))
theorem xA{bb:Bool}{rest:List ni}{Q1:Fl->List (Str×B)->Prop}(hlen:X.gl ("len":Str)=some (.builtin "len"))(hz:ed.length<=sizeLine)(T:TI la ed i j cs ρ)(g:gY la ed.length bb i j rest)(e:gJ ed j rest)(hne:i<la\/j<ed.length)(hc:cs.length<=sizeLine)(hQ:∀{ρ':List (Str×B)}{i' j':Nat}{rest':List ni}{cs':List PyData}{bb':Bool},TI la ed i' j' cs' ρ'->gY la ed.length bb' i' j' rest'->gJ ed j' rest'->cs'++lD la ed.length i' j' rest'=cs++lD la ed.length i j rest->(la-i')+(ed.length-j')<(la-i)+(ed.length-j)->Q1 .next ρ'):iP X k (AR a b c L f) ρ AY Q1:=by
 refine qe (Ds g e) fun N h1 h2 hN=>?_
 refine fe (gM ft (.inl rfl) ?_)
 refine fe (wM (N:=N) (.inl rfl) (fun n hn'=>gd (gL (f0 (f7 (fc (hn T.j rfl)) (fc hs)) (sI hlen hz (hn T.edit rfl)) rfl) fun ht=>gL (f0 (r9 hz (T.pt rfl) hs (by have:=of_decide_eq_true ht;exact fu 0xf11210a1f2c1c0ca4f this)) (f7 (fc (hn T.i rfl)) (fc hs)) rfl) fun _=>iw) (v9 (P:=fun d v=>v==(i:Int)+(d:Int)) hn' (fun d hd=>⟨_,h1 d hd,by simp⟩) fun v hv=>by have:=h2 v hv;simp;exact iz [_,_] [_] 0xf11f81f1c0ca056f10ac056f this)) ?_)
 refine fe (gu (f0 (fc hs) ft rfl) (fun hp=>?_) (fun hp=>?_))
 ·have:=of_decide_eq_true hp;rcases hN with⟨h0,_⟩|⟨_,r,hr⟩;·exact(f5 0xf819f08020c084f this h0).elim
  ·exact xm (T.pt rfl) hs g e hr hc fun a1 a2 a3 a4 a5=>fj (hQ a1 a2 a3 a4 a5)
 ·have:=bu hp;obtain rfl:N=0:=by exact f5 0xf1f11f0802f0c0846f this
  rcases hN with⟨_,hnh⟩|⟨h0,_⟩;·exact zS hlen hz T g e hne hc hnh fun a1 a2 a3 a4 a5=>fj (hQ a1 a2 a3 a4 a5)
  ·exact(iz [] [] 0xf19f08081f h0).elim
end
theorem zj{la lb:Nat}{b:Bool}{i j:Nat}{rest:List ni}(g:gY la lb b i j rest)(h1:la<=i)(h2:lb<=j):lD la lb i j rest=[]:=by
 have hle:=g.le
 cases g with
 |nil _ _=>unfold lD qZ;rw[aN (by exact gK 0xf101f10001f11f1001f2320127f230010320100f h1 h2 hle.1 hle.2)]
 |cons h1 h2 h3 h4 h5=>have:=h5.le;exact(gK 0xf11119f023a03102081100f (by assumption) h3 h2 this.2).elim
inductive TL(la:Nat)(ed:List Int)(tot:List PyData)(m:Nat)(ρ:List (Str×B)):Prop
 |mk {i j:Nat}{rest:List ni}{cs:List PyData}{b:Bool}:TI la ed i j cs ρ->gY la ed.length b i j rest->gJ ed j rest->cs++lD la ed.length i j rest=tot->m=(la-i)+(ed.length-j)->TL la ed tot m ρ
set_option tactic.hygienic true in
theorem xU {X:Cx}{k:Nat}{L f:Addr}{a b c:Value}(hlen:X.gl ("len":Str)=some (.builtin "len")) {la:Nat}{ed:List Int}{bs:List ni}(hg:gY la ed.length true 0 0 bs) (he:gJ ed 0 bs) (hz:ed.length<=sizeLine) (hc:(lD la ed.length 0 0 bs).length<=sizeLine):iP X k (callEnvC (yk a b c) L f) [("size",.val (.int la)),("edit",.val (.list (ed.map .int)))] (fm pD) fun fl _=>fl=.ret (.list (lD la ed.length 0 0 bs)):=by
 refine fe (hY (iu fq (by decide)) (.inl rfl) ?_)
 refine fe (mh ft (fo (.inl rfl)) (fo (.inl rfl)) ?_)
 generalize hT:lD la ed.length 0 0 bs=tot at*
 refine fe (nc (TL la ed tot) (.mk (i:=0) (j:=0) (cs:=[]) ⟨by k_mem,by k_mem,by k_mem,by k_mem,by k_mem⟩ hg he hT rfl) ?_)
 rintro m ρ ⟨T,g,e,hcs,rfl⟩Q1 H1
 rename_i i j rest cs bb
 refine⟨_,nq (f0 (fc T.i) (fc T.size) rfl) (fun _=>nq (f0 (fc T.j) (sI hlen hz T.edit) rfl) fun _=>rh),fun ht=>?_,fun hf=>?_⟩
 ·simp only[ch,aQ,cU]at ht;exact xA hlen hz T g e (gK 0xf101f11f3211018f3c2c41c0c48f ht) (by rw[<-hcs,aP]at hc;exact fu 0xf11200f210a0f hc) fun a1 a2 a3 a4 a5=>H1.next ⟨_,a5,a1,a2,a3,a4.trans hcs,rfl⟩
 ·simp only[Bool.or_eq_false_iff,az,cU]at hf;rw[zj g (by exact fk 0xf11010f1c0c46f hf.1) (by exact fk 0xf11010f1c0c46f hf.2),ar]at hcs;subst hcs;exact fe (lL (ds:=cs) T.codes rfl)
noncomputable abbrev kj(i:Nat):Stmt:=fh (f6 (fh g7 5)) i
noncomputable def ub(i:Nat)(nm:Str)(z:Value×Value×Value×Value):FuncData:=fnOf nm ("SequenceMatcher."++nm) (gg (kj i)) (fm (kj i)) (gT (kj i)) z.1 .none z.2.1 z.2.2.1 none z.2.2.2 .none
def jF(X:Cx)(i:Nat)(f:Addr)(nm bind:Str)(names:List Str):Prop:=
 findIn X.K (.ref 242) bind=some (some (.ref f))/\typeIn X.K (.ref f)=some (.type "function")/\∃z,kf X f (ub i nm z) (fm (kj i)) names
noncomputable def vv:List Str:=["isjunk","a","b","autojunk","matching_blocks","opcodes","fullbcount","b2j","bjunk","bpopular"]
structure DF(X:Cx):Prop where
 cls:∃cd,lU X.K 242 cd
 own:∀name∈vv,findIn X.K (.ref 242) name=some none/\takerIn X.K 242 name=some none
 init:jF X 1 160 "__init__" "__init__" ["self","isjunk","a","b","autojunk"]
 seqs:jF X 2 167 "set_seqs" "set_seqs" ["self","a","b"]
 seq1:jF X 3 174 "set_seq1" "set_seq1" ["self","a"]
 seq2:jF X 4 181 "set_seq2" "set_seq2" ["self","b"]
 chain:jF X 5 188 "__chain_b" "_SequenceMatcher__chain_b" ["self"]
 find:jF X 6 196 "find_longest_match" "find_longest_match" ["self","alo","ahi","blo","bhi"]
 blocks:jF X 7 203 "get_matching_blocks" "get_matching_blocks" ["self"]
 codes:jF X 8 210 "get_opcodes" "get_opcodes" ["self"]
 len:X.gl ("len":Str)=some (.builtin "len")
 range:X.gl ("range":Str)=some (.type "range")
 enumerate:X.gl ("enumerate":Str)=some (.type "enumerate")
 set:X.gl ("set":Str)=some (.type "set")
 list:X.gl ("list":Str)=some (.type "list")
 map:X.gl ("map":Str)=some (.type "map")
 tuple:X.gl ("tuple":Str)=some (.type "tuple")
 mtch:X.gl ("Match":Str)=some (.ref 135)
theorem jF.on{X:Cx}{i:Nat}{f:Addr}{nm bind:Str}{names:List Str}(s:jF X i f nm bind names){h:Heap}{D:PyData->Value->Prop}(k:∀b o,X.h₀.get? b=some o->h.get? b=some o):jF (X.on h D) i f nm bind names:=⟨s.1,s.2.1,s.2.2.imp fun _ d=>d.on k⟩
theorem DF.on{X:Cx}(d:DF X){h:Heap}{D:PyData->Value->Prop}(k:∀b o,X.h₀.get? b=some o->h.get? b=some o):DF (X.on h D):=
 ⟨d.cls,d.own,d.init.on k,d.seqs.on k,d.seq1.on k,d.seq2.on k,d.chain.on k,d.find.on k,d.blocks.on k,d.codes.on k,d.len,d.range,d.enumerate,d.set,d.list,d.map,d.tuple,d.mtch⟩
def nN(h:Heap)(u v:Value):Prop:=(v=.none/\u≠.none)\/∃p q op oq,u=.ref p/\v=.ref q/\p≠q/\h.get? p=some op/\h.get? q=some oq/\op.cls≠.type "tuple"
section
variable{X:Cx}{k:Nat}{env:Env}{ρ:List (Str×B)}{Q:Fl->List (Str×B)->Prop}
theorem oY{l r:Expr}{pos:Pos}{u v:Value}(hl:qQ X k env ρ l u)(hr:qQ X k env ρ r v)(hn:nN X.h₀ u v)(hm:autoParam (behindInMarks .Is r=false) aW):mM X k env ρ (.Compare l [.Is] [r] pos) false:=fun A bad O s R q=>
 bY (hl.use R q fun s1 x1 r1=>hr.use R r1 fun s2 x2 r2=>by
  rcases hn with⟨rfl,hu⟩|⟨p,q,op,oq,rfl,rfl,hne,hp,hq,hc⟩;·exact is_none_ne hu (bV ⟨x1.trans x2,rfl⟩)
  ·exact wpAny_is_ref_other hne (r2.base _ _ hp) (r2.base _ _ hq) hc (bV ⟨x1.trans x2,rfl⟩)) hm
end
theorem m7{h:Heap}:∀a:Addr,(fun _:Addr=>False) a->∃o,h.get? a=some o:=fun _ x=>x.elim
theorem ir.xne{h:Heap}{C x dx:Addr}{m:Str->Option Value}{N:Nat}(I:ir h C x dx m N):x≠dx:=fun e=>by
 obtain⟨o,es,ep,ho,hd,_⟩:=I.ns
 rw[<-e,I.obj]at ho;cases ho;cases hd
theorem mX{X:Cx}{k:Nat}(F:DF X){A:Around}{s:Shared}{x dx:Addr}{m:Str->Option Value}{N:Nat}{va v0:Value}(R:gG (k+1) A)(a:At X s)(I:ir s.heap 242 x dx m N)(hX:X.h₀.get? dx=none)(hm:m "a"=some v0)(hn:nN (s.heap.hide dx) va v0)(hv0:handedIn v0=true)(hN:N+3<1000):codeAny (model X.prog X.w) A (.call (.ref 174) ⟨[.ref x,va],[]⟩) (fun r s'=>r=.ok (.ret .none)/\iF dx s s'/\ir s'.heap 242 x dx (ja (ja (ja m "a" va) "matching_blocks" .none) "opcodes" .none) (N+3)) s:=by
 obtain⟨cd,hC⟩:=F.cls
 refine gR I.nsb.aobj fun o ho hao=>?_
 obtain⟨_,_,z,D⟩:=F.seq1
 have hx:(s.heap.hide dx).get? x=some (instObj 242 dx):=by rw[ax _ I.xne];exact I.obj
 refine au (jG (bad:=fun _=>False) (Dt:=fun _ _=>False) (bs:=[.raw (.ref x),.raw va]) (P:=fun fl ρ'=>fl=.next/\∃o',fn ρ' "#d" (.at dx o')/\gr o' (ja (ja (ja m "a" va) "matching_blocks" .none) "opcodes" .none) (N+3)) D R a ho hao.noseq hX (fun h=>h) m7 (fun _ _ e=>e.elim) (.cons (.raw _) (.cons (.raw _) .nil)) rfl fun L=>?_) fun r s' h=>?_
 ·refine fe (ju ?_);refine fe (gu (b:=false) (oY (gN (by k_mem)) (gX (key:="#d") (m:=m) (N:=N) (by k_mem) ⟨hx,.inl ⟨o,by k_mem,hao⟩⟩ hC (F.own "a" (by decide)).1 hm hv0) hn) (fun e=>by cases e) fun _=>fj ?_);refine fe (ig (gN (by k_mem)) (gW (key:="#d") (by k_mem) hx (by k_mem) hao hC (F.own "a" (by decide)).2 (f5 0xf113e81901f3e819380a1f hN) fun o1 ha1=>?_));refine fe (l4 jH (gW (key:="#d") (by k_mem) hx (by k_mem) ha1 hC (F.own "matching_blocks" (by decide)).2 (f5 0xf113e819180a1f3e819380a1f hN) fun o2 ha2=>gW (key:="#d") (by k_mem) hx (by k_mem) ha2 hC (F.own "opcodes" (by decide)).2 (f5 0xf113e81918180aa1f3e819380a1f hN) fun o3 ha3=>fj ?_));exact⟨⟨rfl,o3,by k_mem,ha3⟩,⟨o3,by k_mem⟩,.inl rfl⟩
 ·refine Cy h ?_;rintro v fl ρ' O' L rfl⟨rfl,o',ho',ha'⟩hv kb r';cases hv;exact⟨rfl,kb,kb.keep _ _ I.xne I.obj,ha'.nsb (r'.pt _ _ _ ho').2⟩
section
variable{X:Cx}{k:Nat}{env:Env}{ρ:List (Str×B)}{Q:Fl->List (Str×B)->Prop}
theorem Bi{bad:Addr->Prop}{O:Str->Option Addr}{A:Around}{s s1 s2:Shared}{elts:List Expr}{tk0:Nat}{tpos:Pos}{items:List PyData}{l ia:Addr}{us:Array Value}{n:Nat}(R:gG k A)(x1:gQ s s1)(r1:gE X bad O env ρ s1)(x2:gQ s1 s2)(hb:¬fv bad O l)(g:s1.heap.get? l=some {cls:=.type "list",data:=.seq us n}) (qs:RepL (fv bad O) s1.heap items us.toList) (fI:s1.heap.get? ia=none) (fE:s1.heap.get? (ia+1)=none) (hE:IsEnum s2.heap (ia+1) ia 0 .none) (hI:s2.heap.IsListIter ia l 0):Dr X A bad O env s s2 (.Tuple elts tk0 tpos) (items.mapIdx fun i d=>.tuple [.int i,d]) (ia+1) [ia+1,ia,l] [ia+1,ia] (fun i h=>(∃old,IsEnum h (ia+1) ia i old)/\h.IsListIter ia l i/\h.IsList l us):=by
 have hlI:l≠ia:=fun e=>by rw[e,fI]at g;cases g
 have hlE:l≠ia+1:=fun e=>by rw[e,fE]at g;cases g
 have W:=WalksT.enumerate (prog:=X.prog) (w:=X.w) R.handled (ia+1) ia l (Nat.succ_ne_self _) hlE hlI us
 have hl:us.size=items.length:=by rw[<-aE,qs.length]
 exact{
  sub:=W.sub
  frame:=W.frame
  start:=⟨⟨_,hE⟩,hI,⟨_,x2.keep _ _ g,rfl,_,rfl⟩⟩
  new:=mc (x1.none fE) (m1 (x1.none fI))
  live:=fun i h st=>mc (st.1.elim fun _ e=>⟨_,e⟩) (mc (st.2.1.elim fun o e=>⟨o,e.1⟩) (m1 (st.2.2.elim fun o e=>⟨o,e.1⟩)))
  noseq:=fun i h st=>mc (st.1.elim fun _ e=>pQ e rfl fun _ _=>nofun) (m1 (st.2.1.elim fun o e=>pQ e.1 e.2.2 fun _ _=>nofun))
  apart:=mc (.inl (.head _)) (mc (.inl (.tail _ (.head _))) (m1 (.inr ⟨iE r1.frm g rfl,fun x hx=>hb (.inr ⟨x,hx⟩)⟩)))
  item:=fun i d s' N K E E' hd hSt hK=>by
   rw[List.getElem?_mapIdx]at hd;refine gR (Option.map_eq_some_iff.mp hd) ?_;rintro c hc rfl;refine qd hSt ?_;rintro⟨old,he⟩hit hli;refine gR (qs.get hc) fun v hv q=>?_;rw[ab]at hv;have hT0:=iG s'.heap;have hne:s'.heap.objs.size≠ia+1:=cm (am he);refine wpAny_pyNext_enum_item he hit hli hv (Nat.succ_ne_self _) fun h1 ho hit1 hT _ hk=>wpAny_letOwnedTupleGo_enum (s:={s' with heap:=h1,toks:=s'.toks+1}) ho fun h2 he2 hs2=>?_;generalize s'.heap.objs.size=T at*;have k2:∀b o,b∉[ia+1,ia]->s'.heap.get? b=some o->h2.get? b=some o:=fun b o hw e=>(hs2.2 b fun z=>hw (z▸.head _)).trans (hk b o (fun z=>hw (z▸.head _)) (fun z=>hw (z▸.tail _ (.head _))) e);exact hK (.ref T) h2 (s'.toks+1) ⟨⟨v,he2⟩,hit1.extBut hs2.extBut (bQ (dU _)),hli.at fun o e=>k2 l o (Am hlE (Am hlI dW)) e⟩ k2 fun bd fr tr=>.tuple (fr T hT0) ((hs2.2 T hne).trans hT) (.cons (.int _ _) (.cons (tr _ _ (q.ext x2)) .nil))
  done:=fun s' Q E hSt=>W.done s' Q E (by rw[hl];rw[List.length_mapIdx]at hSt;exact hSt)}
theorem tP{elts:List Expr}{tk0:Nat}{tpos p ipos pos:Pos}{e:Expr}{body:List Stmt}{items:List PyData}(hx:X.gl ("enumerate":Str)=some (.type "enumerate"))(hk:env.kindOf ("enumerate":Str)=some .globalImplicit)(he:Ev X k env ρ e (.list items))(J:Nat->List (Str×B)->Prop)(h0:J 0 ρ)(turn:∀(i:Nat)d ρ',items[i]?=some d->J i ρ'->∀Q',vU (J (i+1)) Q Q'->∃ρ₁,sk X k env ρ' (.Tuple elts tk0 tpos) (.tuple [.int i,d]) ρ₁/\iP X k env ρ₁ body Q')(hend:∀ρ',J items.length ρ'->Q .next ρ')(hst:autoParam (starEach [e] env=[(false,eval e env)]) aR)(hs:autoParam (∀x,foldedSetIterable (.Call (.Name "enumerate" p) [e] [] ipos) env x=pure x) aI):jz X k env ρ (.For (.Tuple elts tk0 tpos) (.Call (.Name "enumerate" p) [e] [] ipos) body [] pos) Q:=fun A bad O s R r=>by
 refine wpAny_For (kD R r hx hk (fg he fq hst) (fun vs s1 x1 r1 q1=>?_) (by decide) hst (by rw[hst];rfl)) hs
 refine q1.oneE fun v qa=>?_
 refine qa.listE fun l us n hb g qs=>?_
 refine call_enumerate_list ⟨_,g,rfl,_,rfl⟩ fun h2 hE hI hz hkeep=>wpAny_pyIter_enum (s:={s1 with heap:=h2}) hE ?_
 refine sj R r (x1.trans ⟨hkeep,rfl,rfl⟩) (Bi (s2:={s1 with heap:=h2}) R x1 r1 ⟨hkeep,rfl,rfl⟩ hb g qs (iG _) ?_ hE hI) J h0 (fun i d ρ' hd=>?_) fun ρ' h=>hend ρ' (by rw[List.length_mapIdx]at h;exact h)
 ·cases e:s1.heap.get? (s1.heap.objs.size+1)with|none=>rfl|some o=>exact absurd (am e) (Nat.not_lt.mpr (fa _))
 ·rw[List.getElem?_mapIdx]at hd;refine gR (Option.map_eq_some_iff.mp hd) ?_;rintro c hc rfl;exact turn i c ρ' hc
end
inductive oe:List Value->List Int->Prop
 |nil:oe [] []
 |cons {n:Int}{t:Tok}{vs:List Value}{ns:List Int}:oe vs ns->oe (.int n t::vs) (n::ns)
theorem oe.length{vs:List Value}{ns:List Int}(h:oe vs ns):vs.length=ns.length:=by induction h with|nil=>rfl|cons _ ih=>simp[ih]
theorem oe.append{vs us:List Value}{ns ms:List Int}(h:oe vs ns)(g:oe us ms):oe (vs++us) (ns++ms):=by induction h with|nil=>exact g|cons _ ih=>exact .cons ih
theorem oe.rep{bad:Addr->Prop}{h:Heap}{vs:List Value}{ns:List Int}(q:oe vs ns):RepL bad h (ns.map .int) vs:=by induction q with|nil=>exact .nil|cons _ ih=>exact .cons (.int _ _) ih
def qh(o:Obj)(ns:List Int):Prop:=∃vs n,o={cls:=.type "list",data:=.seq vs n}/\oe vs.toList ns
theorem qh.nil:qh {cls:=.type "list",data:=.seq #[]} []:=⟨#[],_,rfl,.nil⟩
section
variable{X:Cx}{k:Nat}{env:Env}{ρ:List (Str×B)}{Q:Fl->List (Str×B)->Prop}
noncomputable abbrev DK(X:Cx):=intKind X.prog X.w
theorem nz{bad:Addr->Prop}{O:Str->Option Addr}{s:Shared}(r:gE X bad O env ρ s){key:Str}{d:Addr}{o:Obj}{kvs:List (Int×Value)}(hk:fn ρ key (.at d o))(ho:o.IsDictOf (DK X) kvs):s.heap.DictOf (DK X) d kvs:=
 Heap.dictOf_iff.mpr ⟨o,(r.pt _ _ _ hk).2,ho⟩
theorem kx{A:Around}{s:Shared}{name:Str}{id:String}{pl:Sem Bool}{d:Addr}{kvs:List (Int×Value)}{P:Value×List Value->Shared->Prop}(slot:Slot "dict" name id)(hty:typeOf (.builtin id)=pure (.type "method_descriptor"))(hd:s.heap.DictOf (DK X) d kvs)(h:P (.builtin id,[.ref d]) s):wpAny (model X.prog X.w) A (getMethod (.ref d) name pl) P g8 s:=getMethod_builtin hd.typeIs PySem.F.plainAttrs_dict slot hty hd.mapOf.noDict h
theorem qn{x y key nk:Str}{px py apos cpos lpos pos:Pos}{pl:Sem Bool}{e:Expr}{d:Addr}{o:Obj}{kvs:List (Int×Value)}{i:Int}(hx:fn ρ x (.raw (.ref d)))(hk:fn ρ key (.at d o))(ho:o.IsDictOf (DK X) kvs)(hlow:(d==sysModules)=false)(hz:kvs.length<=sizeLine)(he:Ev X k env ρ e (.int i))(hy:sO env y)(hnk:nk≠key)(h1:∀v,valueAt kvs i=some v->Q .next (put ρ y (.raw v)))(h2:valueAt kvs i=none->∀l o',o'.IsDictOf (DK X) (stored kvs i (.ref l))->Q .next (put (put (put ρ nk (.at l {cls:=.type "list",data:=.seq #[]})) key (.at d o')) y (.raw (.ref l)))) (hd:autoParam ((x==("__debug__":Str))=false) aD) (hev:autoParam (eval (.Call (.Attribute (.Name x px) "setdefault" apos) [e,.List [] lpos] [] cpos) env=(do
   let ov<-eval (.Name x px) env
   standAt apos.atName let(f,first)<-holding [ov] (getMethod ov "setdefault" pl)callWith cpos f first (backTo cpos (starEach [e,.List [] lpos] env)) [])) aR) (hst:autoParam (starEach [e,.List [] lpos] env=[(false,eval e env),(false,eval (.List [] lpos) env)]) aR) (hst2:autoParam (starEach [.List [] lpos] env=[(false,eval (.List [] lpos) env)]) aR) (hs:autoParam (swapsWithSole [.Name y py] (.Call (.Attribute (.Name x px) "setdefault" apos) [e,.List [] lpos] [] cpos) pos.line env=pure false) aR) (hw:autoParam (swappedStores [.Name y py] (.Call (.Attribute (.Name x px) "setdefault" apos) [e,.List [] lpos] [] cpos) env=pure none) aR):jz X k env ρ (.Assign [.Name y py] (.Call (.Attribute (.Name x px) "setdefault" apos) [e,.List [] lpos] [] cpos) pos) Q:=fun A bad O s R r=>by
 refine cM ?_ hs hw
 refine MethodCall_ (bW (Lk.load r.ok.kind (r.raw x _ hx) ?_) hd) hev
 refine kx PySem.F.slot_dict_setdefault PySem.F.type_dict_setdefault (nz r hk ho) ?_
 refine bT ?_ (by rw[hst,hst2]) (by rw[hst2];rfl)
 refine af (he.use R r fun v s1 x1 r1 q1=>?_) (by rw[hst,hst2])
 refine af (aF (s8 A bad O s1 R r1) (fun u s2 h=>?_) fun _ _ x=>x) hst2
 obtain⟨x2,l,ol,rfl,hl,hol,_,rfl⟩:=h
 refine a0 ?_
 refine q1.intE fun t=>?_
 have r2:=r1.ext x2
 have D2:=nz r2 hk ho
 have x12:=x1.trans x2
 refine call_meetsIn PySem.F.slot_dict_setdefault D2.typeIs PySem.F.entry_dict_setdefault (PySem.F.args_dict_setdefault_3 _ _ _) (kt_meets_setdefault (DK X) d (fH _ _ i t) hlow (.ref l)) ⟨kvs,D2,hz,fun v hv=>?_,fun hn h' hD' hs'=>?_⟩
 ·show wpAny _ _ (assign (.Name y py) env v) _ _ _;have x3:=x12.trans (gQ.toks s2 (s2.toks+1));refine cJ (mK (r.ext x3) hy fun s4 st r4 _=>?_);exact⟨.next,_,_,h1 v hv,rfl,(f8.of_ext x3).trans st,r4⟩
 ·show wpAny _ _ (assign (.Name y py) env (.ref l)) _ _ _;refine gR (Heap.dictOf_iff.mp hD') fun o' ho' hd'=>?_;obtain⟨st2,r2'⟩:=r1.at_new nk x2 hl hol;obtain⟨st3,r3⟩:=r2'.at_change (x:=key) (s':={s2 with heap:=h',toks:=s2.toks+1}) (show fn _ key (.at d o)by show List.lookup _ _=_;rw[m5 _ hnk.symm];exact hk) (fun b ob hb e=>(hs'.2 b hb).trans e) ho' rfl rfl;refine cJ (mK r3 hy fun s4 st r4 _=>?_);exact⟨.next,_,_,h2 hn l o' hd',rfl,((f8.of_ext x1).trans (st2.trans st3)).trans st,r4⟩
theorem oS{x key:Str}{px apos cpos pos:Pos}{pl:Sem Bool}{e:Expr}{l:Addr}{o:Obj}{ns:List Int}{i:Int}(hx:fn ρ x (.raw (.ref l)))(hk:fn ρ key (.at l o))(ho:qh o ns)(hz:ns.length<=sizeLine)(he:Ev X k env ρ e (.int i))(hq:∀o',qh o' (ns++[i])->Q .next (put ρ key (.at l o')))(hd:autoParam ((x==("__debug__":Str))=false) aD)(hm:autoParam (eval (.Call (.Attribute (.Name x px) "append" apos) [e] [] cpos) env=(do
   let ov<-eval (.Name x px) env
   standAt apos.atName let(f,first)<-holding [ov] (getMethod ov "append" pl)callWith cpos f first (backTo cpos (starEach [e] env)) [])) aR)(hst:autoParam (starEach [e] env=[(false,eval e env)]) aR)(hi:autoParam (interactive env=false) aR)(hs:autoParam (swapsWith (.Call (.Attribute (.Name x px) "append" apos) [e] [] cpos) none pos.line env=pure false) aR):jz X k env ρ (.Expr (.Call (.Attribute (.Name x px) "append" apos) [e] [] cpos) pos) Q:=fun A bad O s R r=>by
 obtain⟨vs,n,rfl,hil⟩:=ho
 have hg:=(r.pt _ _ _ hk).2
 refine cg (MethodCall_ (bW (Lk.load r.ok.kind (r.raw x _ hx) ?_) hd) hm) hi hs
 refine cY dM dN ⟨_,hg,rfl,_,rfl⟩ ⟨_,hg,rfl⟩ (bT (af (he.use R r fun v s1 x1 r1 q1=>a0 ?_) hst) hst)
 refine q1.intE fun t=>?_
 refine cZ ⟨n,x1.keep _ _ hg⟩ (fun h' hp hs'=>?_) (by rw[<-aE,hil.length];exact hz)
 obtain⟨n',g'⟩:=hp
 obtain⟨st2,r2⟩:=r1.at_change (s':={s1 with heap:=h'}) hk (fun b ob hb e=>(hs'.2 b hb).trans e) g' rfl rfl
 exact⟨.next,_,_,hq _ ⟨_,n',rfl,by rw[cX];exact hil.append (.cons .nil)⟩,rfl,(f8.of_ext x1).trans st2,r2⟩
theorem wI{p pos:Pos}(hx:X.gl ("set":Str)=some (.type "set"))(hk:env.kindOf ("set":Str)=some .globalImplicit):Cl X k env ρ (.Call (.Name "set" p) [] [] pos) (fun o=>∃led,o={cls:=.type "set",dict:=none,data:=.set #[] 0 (.fresh 0 0 led)}):=fun A bad O s R r=>
 bE (g9 r hx hk (PyProof.Rows.callWith_type0 (call_set_0 fun led=>⟨gQ.push _ _,_,_,rfl,iG _,aT _ rfl,nJ r (aH _),led,rfl⟩)))
end
noncomputable def iY(bs:List Int)(n:Nat)(x:Int):List Int:=((List.range n).filter fun j=>bs[j]?==some x).map fun j:Nat=>(j:Int)
theorem pp(bs:List Int)(n:Nat)(x:Int):iY bs (n+1) x=iY bs n x++(if bs[n]?=some x then[(n:Int)]else[]):=by
 delta iY
 rw[dG,List.filter_append,ag]
 congr 1
 by_cases h:bs[n]?=some x<;>simp[h]
theorem rq(bs:List Int)(n:Nat)(x:Int):(iY bs n x).length<=n:=by
 delta iY
 rw[aB]
 exact bA (di _ _) (by simp)
theorem wJ{x y:Int}(h:ud x=ud y):x=y:=by
 delta ud at h
 injection h with h
 simp only[Array.mk.injEq,List.cons.injEq,and_true,true_and]at h
 obtain⟨h1,h2⟩:=h
 rcases Int.natAbs_eq_natAbs_iff.mp h2 with e|e
 ·exact e
 subst e
 rcases Int.lt_trichotomy y 0 with g|rfl|g
 ·rw[aN g,aL (Int.not_lt.mpr (Int.neg_nonneg_of_nonpos (Int.le_of_lt g)))]at h1;cases h1
 ·rfl
 ·rw[aL (Int.not_lt.mpr (Int.le_of_lt g)),aN (Int.neg_neg_of_pos g)]at h1;cases h1
def jS(X:Cx)(h:Heap)(bs:List Int)(d:Addr):Prop:=∃kvs:List (Int×Value),h.DictOf (DK X) d kvs/\(d==sysModules)=false/\kvs.length<=sizeLine/\
 ∀x,(∃v l o,valueAt kvs x=some v/\v=.ref l/\h.get? l=some o/\qh o (iY bs bs.length x))\/(valueAt kvs x=none/\iY bs bs.length x=[])
def tZ(h:Heap)(a:Addr):Prop:=∃led,h.get? a=some {cls:=.type "set",dict:=none,data:=.set #[] 0 (.fresh 0 0 led)}
theorem gF.hide{bad:Addr->Prop}{h:Heap}{dx:Addr}{o:Obj}{d:PyData}{v:Value}(q:gF bad h d v)(ho:h.get? dx=some o)(hn:∀vs n,o.data≠.seq vs n):gF bad (h.hide dx) d v:=
 q.keep fun b ob vs n _ e ed=>by rw[ax _ fun z=>?_];exact e;subst z;rw[ho]at e;cases e;exact hn vs n ed
theorem kI(kvs:List (Int×Value))(k:Int)(v:Value)(h:valueAt kvs k=none)(x:Int):valueAt (stored kvs k v) x=if x=k then some v else valueAt kvs x:=by
 have hn:(kvs.any fun kv=>decide (kv.1=k))=false:=by rw[List.any_eq_false];intro kv hkv he;delta valueAt at h;rw[Option.map_eq_none_iff,List.find?_eq_none]at h;exact h kv hkv he
 delta stored
 rw[aL (by rw[hn];simp)]
 delta valueAt
 rw[List.find?_append]
 by_cases hx:x=k
 ·subst hx;delta valueAt at h;rw[Option.map_eq_none_iff]at h;rw[h];simp
 ·rw[aL hx];have:List.find? (fun kv:Int×Value=>decide (kv.1=x)) [(k,v)]=none:=by simp[Ne.symm hx]
  rw[this,Option.or_none]
inductive lh(ρ:List (Str×B))(kvs:List (Int×Value))(js:List Int)(c:Int):Prop
 |som {l:Addr}{ol:Obj}:valueAt kvs c=some (.ref l)->fn ρ (ud c) (.at l ol)->qh ol js->lh ρ kvs js c
 |non:valueAt kvs c=none->js=[]->lh ρ kvs js c
theorem lh.pt{ρ:List (Str×B)}{kvs:List (Int×Value)}{js:List Int}{c:Int}(h:lh ρ kvs js c){z:Str}{b:B}(hz:z≠ud c):lh (put ρ z b) kvs js c:=by
 cases h with
 |som a e d=>exact .som a (hn2 hz.symm e) d
 |non a e=>exact .non a e
structure CI(x la d dx:Addr)(o1:Obj)(ρ:List (Str×B)):Prop where
 s:fn ρ "self" (.raw (.ref x))
 b:fn ρ "b" (.raw (.ref la))
 t:fn ρ "b2j" (.raw (.ref d))
 d:fn ρ "#d" (.at dx o1)
theorem CI.pt{x la d dx:Addr}{o1:Obj}{ρ:List (Str×B)}(C:CI x la d dx o1 ρ){z:Str}{b:B}(h:(j6 "self" z&&j6 "b" z&&j6 "b2j" z&&j6 "#d" z)=true):CI x la d dx o1 (put ρ z b):=by
 simp only[ad]at h
 exact⟨hn C.s h.1.1.1,hn C.b h.1.1.2,hn C.t h.1.2,hn C.d h.2⟩
theorem CI.pti{x la d dx:Addr}{o1:Obj}{ρ:List (Str×B)}(C:CI x la d dx o1 ρ){c:Int}{b:B}:CI x la d dx o1 (put ρ (ud c) b):=
 ⟨hn2 ne_ixn C.s,hn2 ne_ixn C.b,hn2 ne_ixn C.t,hn2 ne_ixn C.d⟩
inductive CD(X:Cx)(d:Addr)(bs:List Int)(i:Nat)(ρ:List (Str×B)):Prop
 |mk {od:Obj}{kvs:List (Int×Value)}:fn ρ "#b" (.at d od)->od.IsDictOf (DK X) kvs->kvs.length<=i->(∀c,lh ρ kvs (iY bs i c) c)->CD X d bs i ρ
theorem CD.pt{X:Cx}{d:Addr}{bs:List Int}{i:Nat}{ρ:List (Str×B)}(C:CD X d bs i ρ){z:Str}{b:B}(h:(j6 "#b" z&&!decide (z.cps[0]?=some 36))=true):CD X d bs i (put ρ z b):=by
 obtain⟨a,b,c,e⟩:=C
 simp only[ad,dI,az]at h
 exact⟨hn a h.1,b,c,fun y=>(e y).pt (ne_ixn h.2)⟩
theorem sp{bs:List Int}{i:Nat}{c:Int}(h:bs[i]?=some c):iY bs (i+1) c=iY bs i c++[(i:Int)]:=by rw[pp,aN h]
theorem rV{bs:List Int}{i:Nat}{c c':Int}(h:bs[i]?=some c)(hc:¬c'=c):iY bs (i+1) c'=iY bs i c':=by
 rw[pp,aL (by rw[h];intro e;cases e;exact hc rfl),ar]
theorem CD.old{X:Cx}{d l:Addr}{bs:List Int}{i:Nat}{c:Int}{ρ:List (Str×B)}{od ol':Obj}{kvs:List (Int×Value)}(a:fn ρ "#b" (.at d od))(b:od.IsDictOf (DK X) kvs)(hl:kvs.length<=i)(e:∀y,lh ρ kvs (iY bs i y) y)(h:bs[i]?=some c)(hv:valueAt kvs c=some (.ref l))(ho:qh ol' (iY bs i c++[(i:Int)])):CD X d bs (i+1) (put ρ (ud c) (.at l ol')):=by
 refine⟨hn2 ne_ixn a,b,Nat.le_succ_of_le hl,fun y=>?_⟩
 by_cases hy:y=c
 ·subst hy;rw[sp h];exact .som hv hs ho
 ·rw[rV h hy];exact(e y).pt fun q=>hy (wJ q).symm
theorem CD.fresh{X:Cx}{d l:Addr}{bs:List Int}{i:Nat}{c:Int}{ρ:List (Str×B)}{o' ol':Obj}{kvs:List (Int×Value)}{w1 w2:B}(hl:kvs.length<=i)(e:∀y,lh ρ kvs (iY bs i y) y)(h:bs[i]?=some c)(hv:valueAt kvs c=none)(b:o'.IsDictOf (DK X) (stored kvs c (.ref l)))(ho:qh ol' [(i:Int)]):CD X d bs (i+1) (put (put (put (put ρ (ud c) w1) "#b" (.at d o')) "indices" w2) (ud c) (.at l ol')):=by
 refine⟨hn2 ne_ixn (hn hs rfl),b,by have:=stored_length_le kvs c (.ref l);exact fu 0xf111181a20f180a20100f hl this,fun y=>?_⟩
 by_cases hy:y=c
 ·subst hy;have:iY bs i y=[]:=by cases e y with
   |som hv' _ _=>rw[hv]at hv';cases hv'|non _ p=>exact p
  rw[sp h,this];exact .som (by rw[kI kvs y _ hv,aN rfl]) hs ho
 ·rw[rV h hy];have k:∀{ρ':List (Str×B)},lh ρ' kvs (iY bs i y) y->lh ρ' (stored kvs c (.ref l)) (iY bs i y) y:=fun q=>by
   have:valueAt (stored kvs c (.ref l)) y=valueAt kvs y:=by rw[kI kvs c _ hv,aL hy]
   cases q with
   |som a e d=>exact .som (this.trans a) e d|non a e=>exact .non (this.trans a) e
  have ne:ud c≠ud y:=fun q=>hy (wJ q).symm;exact k ((((e y).pt ne).pt (ne_ixn (by decide))).pt (ne_ixn (by decide))|>.pt ne)
inductive CE(X:Cx)(dx:Addr)(m:Str->Option Value)(N:Nat)(bs:List Int)(ρ:List (Str×B)):Prop
 |mk {d js ps:Addr}{o' oj:Obj}{led:_}:fn ρ "#d" (.at dx o')->gr o' (ja (ja (ja m "b2j" (.ref d)) "bjunk" (.ref js)) "bpopular" (.ref ps)) (N+3)->CD X d bs bs.length ρ->(d==sysModules)=false->fn ρ "#j" (.at js oj)->oj={cls:=.type "set",dict:=none,data:=.set #[] 0 (.fresh 0 0 led)}->CE X dx m N bs ρ
def ki(X:Cx)(h0 h:Heap)(bs:List Int)(d:Addr):Prop:=∃kvs:List (Int×Value),h.DictOf (DK X) d kvs/\(d==sysModules)=false/\kvs.length<=sizeLine/\h0.get? d=none/\
 ∀x,(∃v l o,valueAt kvs x=some v/\v=.ref l/\h.get? l=some o/\qh o (iY bs bs.length x)/\h0.get? l=none)\/(valueAt kvs x=none/\iY bs bs.length x=[])
theorem ki.chain{X:Cx}{h0 h:Heap}{bs:List Int}{d:Addr}(c:ki X h0 h bs d):jS X h bs d:=by
 obtain⟨kvs,h1,h2,h3,_,h5⟩:=c
 refine⟨kvs,h1,h2,h3,fun x=>?_⟩
 rcases h5 x with⟨v,l,o,e1,e2,e3,e4,_⟩|e
 ·exact .inl ⟨v,l,o,e1,e2,e3,e4⟩
 ·exact .inr e
theorem ti{X:Cx}{k:Nat}(F:DF X){A:Around}{s:Shared}{x dx:Addr}{m:Str->Option Value}{N:Nat}{vb:Value}{bs:List Int}(R:gG (k+1) A)(a:At X s)(I:ir s.heap 242 x dx m N)(hX:X.h₀.get? dx=none)(hb:m "b"=some vb)(rb:gF (fun _=>False) s.heap (.list (bs.map .int)) vb)(hj:m "isjunk"=some .none)(haj:m "autojunk"=some (.bool false))(hN:N+3<1000)(hz:bs.length<=sizeLine):codeAny (model X.prog X.w) A (.call (.ref 188) ⟨[.ref x],[]⟩) (fun r s'=>r=.ok (.ret .none)/\iF dx s s'/\∃d js ps,ir s'.heap 242 x dx (ja (ja (ja m "b2j" (.ref d)) "bjunk" (.ref js)) "bpopular" (.ref ps)) (N+3)/\ki X s.heap s'.heap bs d/\tZ s'.heap js/\s.heap.get? js=none) s:=by
 obtain⟨cd,hC⟩:=F.cls
 refine gR I.nsb.aobj fun o ho hao=>?_
 obtain⟨_,_,z,D⟩:=F.chain
 have hx:(s.heap.hide dx).get? x=some (instObj 242 dx):=by rw[ax _ I.xne];exact I.obj
 refine jq rb.isList ?_;rintro la lvs rfl _ _
 refine au (jG (bad:=fun _=>False) (Dt:=fun d v=>d=.list (bs.map .int)/\v=.ref la) (bs:=[.raw (.ref x)]) (P:=fun fl ρ'=>fl=.next/\CE X dx m N bs ρ') D R a ho hao.noseq hX (fun h=>h) m7 (fun d v e=>by obtain⟨rfl,rfl⟩:=e;exact rb.hide ho hao.noseq) (.cons (.raw _) .nil) rfl fun L=>?_) fun r s' h=>?_
 ·generalize hQ:(fun(fl:Fl) (ρ':List (Str×B))=>(fl=.next/\CE X dx m N bs ρ')/\(∃o',fn ρ' "#d" (.at dx o'))/\(fl=.next\/∃d,fl=.ret d))=Q;refine fe (ig (gX (key:="#d") (m:=m) (N:=N) (by k_mem) ⟨hx,.inl ⟨o,by k_mem,hao⟩⟩ hC (F.own "b" (by decide)).1 hb) (gy (.inl rfl) ?_));refine fe (kh "#b" qE fun d ob hlow hob=>gW (key:="#d") (by k_mem) hx (by k_mem) hao hC (F.own "b2j" (by decide)).2 (f5 0xf113e81901f3e819380a1f hN) fun o1 ha1=>gy (.inl rfl) ?_);subst hob;refine fe (tP (items:=bs.map .int) F.enumerate rfl (lg (gN (v:=.ref la) (by k_mem)) ⟨rfl,rfl⟩) (fun i ρ=>CI x la d dx o1 ρ/\CD X d bs i ρ) ⟨⟨by k_mem,by k_mem,by k_mem,by k_mem⟩,⟨by k_mem,⟨#[],0,⟨rfl,rfl,rfl⟩,rfl,fun _ he=>by simp at he,.nil,by simp⟩,aV _,fun c=>.non rfl rfl⟩⟩ ?_ ?_)
  ·intro i dd ρ hi J Q1 H1;obtain⟨C,jk,jo,jl,jc⟩:=J;rw[aS]at hi;refine gR (Option.map_eq_some_iff.mp hi) ?_;rintro c hbi rfl;have hil:i<bs.length:=(List.getElem?_eq_some_iff.mp hbi).1;refine⟨_,kt (f9 (fo (.inl rfl)) (f9 (fo (.inl rfl)) jg)) rfl rfl,?_⟩;have C1:=(C.pt (z:="i") (b:=.val (.int i)) rfl).pt (z:="elt") (b:=.val (.int c)) rfl;have js:∀y,lh (put (put ρ "i" (.val (.int i))) "elt" (.val (.int c))) _ (iY bs i y) y:=fun y=>((jc y).pt (ne_ixn (by decide))).pt (ne_ixn (by decide));have jk1:=hn (x:="elt") (b:=.val (.int c)) (hn (x:="i") (b:=.val (.int i)) jk rfl) rfl;have ei:fn (put (put ρ "i" (.val (.int i))) "elt" (.val (.int c))) "i" (.val (.int i)):=hn hs rfl;have ee:fn (put (put ρ "i" (.val (.int i))) "elt" (.val (.int c))) "elt" (.val (.int c)):=hs;generalize put (put ρ "i" (.val (.int i))) "elt" (.val (.int c))=ρ1 at*;clear C jk jc hi;refine fe (qn (key:="#b") (nk:=ud c) (d:=d) (kvs:=_) (i:=c) C1.t jk1 jo hlow (gK 0xf1111120f031320100f hz jl hil) (fc ee) (.inl rfl) (Ne.symm ne_ixn) (fun v hv=>?_) (fun hv l o' ho'=>?_));·cases js c with
    |non hv' _=>rw[hv]at hv';cases hv'|@som l ol hv' hl hol=>rw[hv]at hv';cases hv';exact fe (oS (key:=ud c) (l:=l) (o:=ol) (i:=i) hs (hn2 (Ne.symm ne_ixn) hl) hol (by have:=rq bs i c;exact gK 0xf1111130f230021100f hz hil this) (fc (hn ei rfl)) fun o'' ho''=>fj (H1.next ⟨(C1.pt rfl).pti,.old (hn jk1 rfl) jo jl (fun y=>(js y).pt (ne_ixn (by decide))) hbi hv ho''⟩))
   ·exact fe (oS (key:=ud c) (l:=l) (i:=i) hs (hn2 (Ne.symm ne_ixn) (hn2 (Ne.symm ne_ixn) hs)) qh.nil (by simp) (fc (hn (hn (hn2 ne_ixn ei) rfl) rfl)) fun o'' ho''=>fj (H1.next ⟨((C1.pti.pt rfl).pt rfl).pti,.fresh jl js hbi hv ho' ho''⟩))
  ·rintro ρ ⟨C,D⟩;rw[aB]at D;refine fe (kh "#j" (wI F.set rfl) fun jn oj _ hoj=>gW (key:="#d") (hn C.s rfl) hx (hn C.d rfl) ha1 hC (F.own "bjunk" (by decide)).2 (f5 0xf113e819180a1f3e819380a1f hN) fun o2 ha2=>gy (.inl rfl) ?_);obtain⟨led,rfl⟩:=hoj;have D1:=((D.pt (z:="#j") (b:=.at jn {cls:=.type "set",dict:=none,data:=.set #[] 0 (.fresh 0 0 led)}) rfl).pt (z:="#d") (b:=.at dx o2) rfl).pt (z:="junk") (b:=.raw (.ref jn)) rfl;have s1:fn (put (put (put ρ "#j" (.at jn {cls:=.type "set",dict:=none,data:=.set #[] 0 (.fresh 0 0 led)})) "#d" (.at dx o2)) "junk" (.raw (.ref jn))) "self" (.raw (.ref x)):=hn (hn (hn C.s rfl) rfl) rfl;have b1:fn (put (put (put ρ "#j" (.at jn {cls:=.type "set",dict:=none,data:=.set #[] 0 (.fresh 0 0 led)})) "#d" (.at dx o2)) "junk" (.raw (.ref jn))) "b" (.raw (.ref la)):=hn (hn (hn C.b rfl) rfl) rfl;have d1:fn (put (put (put ρ "#j" (.at jn {cls:=.type "set",dict:=none,data:=.set #[] 0 (.fresh 0 0 led)})) "#d" (.at dx o2)) "junk" (.raw (.ref jn))) "#d" (.at dx o2):=hn hs rfl;have j1:fn (put (put (put ρ "#j" (.at jn {cls:=.type "set",dict:=none,data:=.set #[] 0 (.fresh 0 0 led)})) "#d" (.at dx o2)) "junk" (.raw (.ref jn))) "#j" (.at jn {cls:=.type "set",dict:=none,data:=.set #[] 0 (.fresh 0 0 led)}):=hn (hn hs rfl) rfl;generalize put (put (put ρ "#j" (.at jn {cls:=.type "set",dict:=none,data:=.set #[] 0 (.fresh 0 0 led)})) "#d" (.at dx o2)) "junk" (.raw (.ref jn))=ρ1 at*;clear C D ha1;refine fe (ig (gX (key:="#d") (N:=N+2) (v:=.none) s1 ⟨hx,.inl ⟨o2,d1,ha2⟩⟩ hC (F.own "isjunk" (by decide)).1 hj) (gy (.inl rfl) ?_));refine fe (gu (b:=false) (yv (gN hs)) (fun e=>by cases e) fun _=>fj ?_);refine fe (kh "#p" (wI F.set rfl) fun pl op _ hop=>gW (key:="#d") (hn (hn s1 rfl) rfl) hx (hn (hn d1 rfl) rfl) ha2 hC (F.own "bpopular" (by decide)).2 (f5 0xf113e81918180aa1f3e819380a1f hN) fun o3 ha3=>gy (.inl rfl) ?_);refine fe (gM (d:=.int bs.length) (fy (i7 F.len rfl (gH (lg (gN (v:=.ref la) (hn (hn (hn (hn b1 rfl) rfl) rfl) rfl)) ⟨rfl,rfl⟩)) (by rw[aB];exact hz)) (by rw[aB])) (.inl rfl) ?_);refine fe (gu (b:=false) (gL (b:=false) (c:=true) (k9 (xV (gX (key:="#d") (N:=N+3) (hn (hn (hn (hn (hn s1 rfl) rfl) rfl) rfl) rfl) ⟨hx,.inl ⟨o3,hn (hn hs rfl) rfl,ha3⟩⟩ hC (F.own "autojunk" (by decide)).1 haj))) fun e=>by cases e) (fun e=>by cases e) fun _=>fj (fj ?_));rw[<-hQ];exact⟨⟨rfl,hn (hn hs rfl) rfl,ha3,((((D1.pt rfl).pt rfl).pt rfl).pt rfl).pt rfl,hlow,hn (hn (hn (hn (hn j1 rfl) rfl) rfl) rfl) rfl,rfl⟩,⟨o3,hn (hn hs rfl) rfl⟩,.inl rfl⟩
 ·refine Cy h ?_;rintro v fl ρ' O' L rfl⟨rfl,h1⟩hv kb r';cases hv;obtain⟨g1,g2,⟨c1,c2,c3,c4⟩,g4,g5,rfl⟩:=h1;have new:∀{key:Str}{b:Addr}{ob:Obj},fn ρ' key (.at b ob)->key≠"#d"->s.heap.get? b=none:=fun{key b ob}h hk=>by have h2:=(r'.good _ _ (r'.pt _ _ _ h).1).2.1;have hb:b≠dx:=fun z=>hk (r'.inj _ _ b (r'.pt _ _ _ h).1 (by rw[z];exact(r'.pt _ _ _ g1).1));rw[<-ax _ hb];exact h2
  refine⟨rfl,kb,_,_,_,⟨kb.keep _ _ I.xne I.obj,g2.nsb (r'.pt _ _ _ g1).2⟩,⟨_,Heap.dictOf_iff.mpr ⟨_,(r'.pt _ _ _ c1).2,c2⟩,g4,by exact fu 0xf111120f020100f hz c3,new c1 (by decide),fun c=>?_⟩,⟨_,(r'.pt _ _ _ g5).2⟩,new g5 (by decide)⟩;cases c4 c with|som a e d=>exact .inl ⟨_,_,_,a,rfl,(r'.pt _ _ _ e).2,d,new e (ne_ixn (by decide)).symm⟩|non a e=>exact .inr ⟨a,e⟩
theorem sV{M:Model}{A:Around}{E:Value->Shared->Prop}{env:Env}{ss2:List Stmt}{Q:Flow->Shared->Prop}:∀(ss1:List Stmt) {s:Shared},wpAny M A (execs ss1 env) (fun f s'=>match f with|.next=>wpAny M A (execs ss2 env) Q E s'|f=>Q f s') E s->wpAny M A (execs (ss1++ss2) env) Q E s:=by
 intro ss1 s h Γ p hΓ
 have key:∀(ss1:List Stmt) (p:Pos) (s:Shared),Sem.wp M Γ (execs ss1 env) (fun f _ s'=>match f with|.next=>wpAny M A (execs ss2 env) Q E s'|f=>Q f s') (fun e _ s'=>E e s') p s->Sem.wp M Γ (execs (ss1++ss2) env) (fun a _ s'=>Q a s') (fun e _ s'=>E e s') p s:=by intro ss1;induction ss1 with|nil=>intro p s h;exact h Γ p hΓ|cons st ss ih=>intro p s h;rw[fV,execs_cons,Sem.wp_bind'];rw[execs_cons,Sem.wp_bind']at h;refine Sem.wp_mono M Γ _ (fun f p' s' h'=>?_) (fun _ _ _ h'=>h') _ _ h;cases f with|next=>exact ih p' s' h'|ret v=>exact h'|brk=>exact h'|cont=>exact h'
 exact key ss1 p s (h Γ p hΓ)
section
variable{X:Cx}{k:Nat}{env:Env}{ρ:List (Str×B)}{Q:Fl->List (Str×B)->Prop}
theorem iP.then{ss1 ss2:List Stmt}{P:List (Str×B)->Prop}(h:iP X k env ρ ss1 fun f ρ'=>f=.next/\P ρ'){A:Around}{bad:Addr->Prop}{O:Str->Option Addr}{s:Shared}{Qw:Flow->Shared->Prop}(R:gG k A)(r:gE X bad O env ρ s)(h2:∀ρ' O' s',P ρ'->f8 env O O' s s'->gE X bad O' env ρ' s'->wpAny (model X.prog X.w) A (execs ss2 env) Qw g8 s'):wpAny (model X.prog X.w) A (execs (ss1++ss2) env) Qw g8 s:=
 sV ss1 (aF (h A bad O s R r) (fun fl s' p=>by obtain⟨f,ρ',O',⟨rfl,hP⟩,hfi,st,r'⟩:=p;cases hfi;exact h2 ρ' O' s' hP st r') fun _ _ x=>x)
theorem xw{C x dx f:Addr}{cd:ClassData}{key:Str}{m:Str->Option Value}{N:Nat}{y name:Str}{yp apos cpos pos:Pos}{pl:Sem Bool}{e:Expr}{es:List Expr}{od:Obj}{o:Obj}{fd:FuncData}{vs:List Value}{Po:Obj->Prop}(hy:fn ρ y (.raw (.ref x)))(hx:X.h₀.get? x=some (instObj C dx))(hk:fn ρ key (.at dx od))(had:gr od m N)(hC:lU X.K C cd)(hf:findIn X.K (.ref C) name=some (some (.ref f)))(ht:typeIn X.K (.ref f)=some (.type "function"))(hm:m name=none)(ho:X.h₀.get? f=some o)(hdat:o.data=.func fd)(ha:Bw X k env ρ cpos (e::es) vs)(hcall:∀(A:Around) (bad:Addr->Prop) (O:Str->Option Addr) (s:Shared),gG k A->gE X bad O env ρ s->codeAny (model X.prog X.w) A (.call (.ref f) ⟨.ref x::vs,[]⟩) (fun r s'=>r=.ok (.ret .none)/\iF dx s s'/\∃o',s'.heap.get? dx=some o'/\Po o') s)(hq:∀o',Po o'->Q .next (put ρ key (.at dx o')))(he:autoParam (eval (.Call (.Attribute (.Name y yp) name apos) (e::es) [] cpos) env=(do
   let ov<-eval (.Name y yp) env
   standAt apos.atName let(f,first)<-holding [ov] (getMethod ov name pl)callWith cpos f first (backTo cpos (starEach (e::es) env)) [])) aR)(hst:autoParam (starEach (e::es) env=(false,eval e env)::starEach es env) aR)(hd:autoParam ((y==("__debug__":Str))=false) aD)(hi:autoParam (interactive env=false) aR)(hs:autoParam (swapsWith (.Call (.Attribute (.Name y yp) name apos) (e::es) [] cpos) none pos.line env=pure false) aR):jz X k env ρ (.Expr (.Call (.Attribute (.Name y yp) name apos) (e::es) [] cpos) pos) Q:=fun A bad O s R r=>by
 refine cg (mN (Pa:=fun us _=>us=vs) R r hy ⟨hx,.inl ⟨od,hk,had⟩⟩ hC hf ht hm ho hdat (ha A bad O s R r) (fun us s1 x1 r1 e=>?_) he hst hd) hi hs
 subst e
 refine bO (au (hcall A bad O s1 R r1) fun res s2 h=>?_)
 refine qd h ?_;rintro rfl kb ⟨o',ho',hP⟩
 obtain⟨st,r2⟩:=r1.at_change (s':=s2) hk kb.keep ho' kb.gens kb.os
 exact⟨.next,_,_,hq o' hP,rfl,(f8.of_ext x1).trans st,r2⟩
end
theorem gE.dxNone{X:Cx}{env:Env}{ρ:List (Str×B)}{bad:Addr->Prop}{O:Str->Option Addr}{s:Shared}{key:Str}{a:Addr}{o:Obj}(r:gE X bad O env ρ s)(h:fn ρ key (.at a o)):X.h₀.get? a=none:=(r.good key a (r.pt _ _ _ h).1).2.1
structure lq(X:Cx)(s':Shared)(x dx:Addr)(m:Str->Option Value)(vb:Value)(bs:List Int)(N:Nat)(d js ps:Addr):Prop where
 inst:ir s'.heap 242 x dx (ja (ja (ja (ja (ja (ja (ja m "b" vb) "matching_blocks" .none) "opcodes" .none) "fullbcount" .none) "b2j" (.ref d)) "bjunk" (.ref js)) "bpopular" (.ref ps)) N
 chain:jS X s'.heap bs d
 junk:tZ s'.heap js
theorem iV{X:Cx}{k:Nat}{f:Addr}{fd:FuncData}{body:List Stmt}{names:List Str}(D:kf X f fd body names){A:Around}{bad:Addr->Prop}{s:Shared}{dx:Addr}{o:Obj}{vs:List Value}{bs:List B}{Dt:PyData->Value->Prop}{P:Value->Shared->Prop}(R:gG (k+1) A)(a:At X s)(ho:s.heap.get? dx=some o)(hns:∀vs n,o.data≠.seq vs n)(hX:X.h₀.get? dx=none)(hb:¬bad dx)(low:∀a,bad a->∃o,s.heap.get? a=some o)(hdat:∀d v,Dt d v->gF bad (s.heap.hide dx) d v)(q:ka bad s.heap bs vs)(hl:vs.length=names.length)(h:∀L A' O s₁,gG k A'->gE (X.on (s.heap.hide dx) Dt) bad O (callEnvC fd L f) (put (names.zip bs) "#d" (.at dx o)) s₁->wpAny (model (X.on (s.heap.hide dx) Dt).prog (X.on (s.heap.hide dx) Dt).w) A' (execs body (callEnvC fd L f)) (fun fl s'=>∃v,(fl=.next/\v=.none\/fl=.ret v)/\At (X.on (s.heap.hide dx) Dt) s'/\P v s') g8 s₁):codeAny (model X.prog X.w) A (.call (.ref f) ⟨vs,[]⟩) (fun r s'=>∃v,r=.ok (.ret v)/\iF dx s s'/\P v s') s:=by
 have ho':=kg a hX
 have aX:At (X.on (s.heap.hide dx) Dt) s:=⟨a.wf.on ho',fun b o e=>Heap.of_hide e,a.gens,a.os⟩
 refine mI (X:=X.on (s.heap.hide dx) Dt) (D.on ho') (bad:=bad) R aX low hdat q hl fun L A' s₁ R' r keep hpl hg hos=>?_
 have r1:=r.at_take (x:="#d") (a:=dx) (o:=o) (keep _ _ ho) hns (Heap.hide_self _ _) (hpl _ _ ho) (fun h=>hb (nf h))
 refine aF (h L A' _ s₁ R' r1) (fun fl s' p=>?_) fun _ _ x=>x
 refine qe p fun v hfl a' hP=>?_
 have kb:iF dx s s':=⟨fun b o hb e=>a'.base b o (by show(s.heap.hide dx).get? b=_;rw[ax _ hb];exact e),a'.gens.trans a.gens.symm,a'.os.trans a.os.symm⟩
 rcases hfl with⟨rfl,rfl⟩|rfl
 ·exact⟨.none,rfl,kb,hP⟩
 ·exact⟨v,rfl,kb,hP⟩
theorem At.keepBut{X:Cx}{s s':Shared}{dx:Addr}(a:At X s)(hX:X.h₀.get? dx=none)(kb:iF dx s s'):At X s':=⟨a.wf,fun b o e=>kb.keep b o (fun z=>by rw[z,hX]at e;cases e) (a.base b o e),kb.gens.trans a.gens,kb.os.trans a.os⟩
theorem mC{X:Cx}{k:Nat}(F:DF X){A:Around}{s:Shared}{x dx:Addr}{m:Str->Option Value}{N:Nat}{vb v0:Value}{bs:List Int}(R:gG (k+2) A)(a:At X s)(I:ir s.heap 242 x dx m N)(hX:X.h₀.get? dx=none)(hm:m "b"=some v0)(hn:nN (s.heap.hide dx) vb v0)(hv0:handedIn v0=true)(rb:gF (fun _=>False) s.heap (.list (bs.map .int)) vb)(hj:m "isjunk"=some .none)(haj:m "autojunk"=some (.bool false))(hmc:m "_SequenceMatcher__chain_b"=none)(hN:N+7<1000)(hz:bs.length<=sizeLine):codeAny (model X.prog X.w) A (.call (.ref 181) ⟨[.ref x,vb],[]⟩) (fun r s'=>∃v,r=.ok (.ret v)/\iF dx s s'/\v=.none/\∃d js ps,lq X s' x dx m vb bs (N+7) d js ps/\ki X s.heap s'.heap bs d/\s.heap.get? js=none) s:=by
 obtain⟨cd,hC⟩:=F.cls
 refine gR I.nsb.aobj fun o ho hao=>?_
 obtain⟨_,_,z,D⟩:=F.seq2
 have hx:(s.heap.hide dx).get? x=some (instObj 242 dx):=by rw[ax _ I.xne];exact I.obj
 have F':DF (X.on (s.heap.hide dx) fun _ _=>False):=F.on (kg a hX)
 refine jq rb.isList ?_;rintro la lvs rfl _ _
 refine iV (bad:=fun _=>False) (Dt:=fun _ _=>False) (bs:=[.raw (.ref x),.raw (.ref la)]) D R a ho hao.noseq hX (fun h=>h) m7 (fun _ _ e=>e.elim) (.cons (.raw _) (.cons (.raw _) .nil)) rfl fun L A' O s₁ R' r=>?_
 refine iP.then (ss1:=(fm (kj 4)).take 5) (ss2:=(fm (kj 4)).drop 5) (P:=fun ρ'=>fn ρ' "self" (.raw (.ref x))/\∃o',fn ρ' "#d" (.at dx o')/\gr o' (ja (ja (ja (ja m "b" (.ref la)) "matching_blocks" .none) "opcodes" .none) "fullbcount" .none) (N+4)) ?_ R' r ?_
 ·refine fe (ju ?_);refine fe (gu (b:=false) (oY (gN (by k_mem)) (gX (key:="#d") (m:=m) (N:=N) (by k_mem) ⟨hx,.inl ⟨o,by k_mem,hao⟩⟩ hC (F.own "b" (by decide)).1 hm hv0) hn) (fun e=>by cases e) fun _=>fj ?_);refine fe (ig (gN (by k_mem)) (gW (key:="#d") (by k_mem) hx (by k_mem) hao hC (F.own "b" (by decide)).2 (f5 0xf113e81901f3e819780a1f hN) fun o1 ha1=>?_));refine fe (l4 jH (gW (key:="#d") (by k_mem) hx (by k_mem) ha1 hC (F.own "matching_blocks" (by decide)).2 (f5 0xf113e819180a1f3e819780a1f hN) fun o2 ha2=>gW (key:="#d") (by k_mem) hx (by k_mem) ha2 hC (F.own "opcodes" (by decide)).2 (f5 0xf113e81918180aa1f3e819780a1f hN) fun o3 ha3=>?_));refine fe (ig jH (gW (key:="#d") (by k_mem) hx (by k_mem) ha3 hC (F.own "fullbcount" (by decide)).2 (f5 0xf113e8191818180aaa1f3e819780a1f hN) fun o4 ha4=>fj ?_));exact⟨rfl,by k_mem,o4,by k_mem,ha4⟩
 ·rintro ρ' O' s' ⟨hself,o',hd',ha'⟩st r';obtain⟨hfc,htc,zc,Dc⟩:=F'.chain;refine gR Dc.obj fun oc hoc hdc=>?_;refine cP (cg (pG R' r' hself ⟨hx,.inl ⟨o',hd',ha'⟩⟩ hC hfc htc (by rw[<-hmc];rfl) hoc hdc ?_));have I':ir s'.heap 242 x dx _ (N+4):=lB.inst (key:="#d") ⟨hx,.inl ⟨o',hd',ha'⟩⟩ r';have rb':gF (fun _=>False) s'.heap (.list (bs.map .int)) (.ref la):=(rb.hide ho hao.noseq).keep fun b ob _ _ _ e _=>r'.base b ob e;refine bO (au (ti F' R' r'.at I' (r'.dxNone hd') (vb:=.ref la) rfl rb' (by rw[<-hj];rfl) (by rw[<-haj];rfl) (f5 0xf113e81938480aa1f3e819780a1f hN) hz) fun res s2 h=>?_);refine qd h ?_;rintro rfl kb ⟨d,js,ps,I2,hch,hem,hjn⟩;have back:∀b,s'.heap.get? b=none->s.heap.get? b=none:=fun b e=>by cases q:s.heap.get? b with
   |none=>rfl|some ob=>
    by_cases hb:b=dx;·subst hb;rw[(r'.pt _ _ _ hd').2]at e;cases e
    ·have:=r'.base b ob (by show(s.heap.hide dx).get? b=_;rw[ax _ hb];exact q);rw[this]at e;cases e
  refine cf ⟨.none,.inl ⟨rfl,rfl⟩,r'.at.keepBut (r'.dxNone hd') kb,rfl,d,js,ps,⟨I2,hch.chain,hem⟩,?_,back _ hjn⟩;obtain⟨kvs,h1,h2,h3,h4,h5⟩:=hch;refine⟨kvs,h1,h2,h3,back _ h4,fun y=>?_⟩;rcases h5 y with⟨v,l,o,e1,e2,e3,e4,e5⟩|e;·exact .inl ⟨v,l,o,e1,e2,e3,e4,back _ e5⟩
  ·exact .inr e
noncomputable def um(m:Str->Option Value)(va:Value):Str->Option Value:=ja (ja (ja m "a" va) "matching_blocks" .none) "opcodes" .none
theorem ki.back{X:Cx}{h0 h0' h:Heap}{bs:List Int}{d:Addr}(c:ki X h0' h bs d)(back:∀b,h0'.get? b=none->h0.get? b=none):ki X h0 h bs d:=by
 obtain⟨kvs,h1,h2,h3,h4,h5⟩:=c
 refine⟨kvs,h1,h2,h3,back _ h4,fun y=>?_⟩
 rcases h5 y with⟨v,l,o,e1,e2,e3,e4,e5⟩|e
 ·exact .inl ⟨v,l,o,e1,e2,e3,e4,back _ e5⟩
 ·exact .inr e
theorem gE.backs{X:Cx}{env:Env}{ρ:List (Str×B)}{bad:Addr->Prop}{O:Str->Option Addr}{s s':Shared}{dx:Addr}{o:Obj}{D:PyData->Value->Prop}(r:gE (X.on (s.heap.hide dx) D) bad O env ρ s')(h:fn ρ "#d" (.at dx o)):∀b,s'.heap.get? b=none->s.heap.get? b=none:=fun b e=>by
 cases q:s.heap.get? b with
 |none=>rfl
 |some ob=>
  by_cases hb:b=dx
  ·subst hb;rw[(r.pt _ _ _ h).2]at e;cases e
  ·have:=r.base b ob (by show(s.heap.hide dx).get? b=_;rw[ax _ hb];exact q);rw[this]at e;cases e
theorem qz{X:Cx}{k:Nat}(F:DF X){A:Around}{s:Shared}{x dx:Addr}{m:Str->Option Value}{N:Nat}{va vb:Value}{bs:List Int}(R:gG (k+3) A)(a:At X s)(I:ir s.heap 242 x dx m N)(hX:X.h₀.get? dx=none)(hma:m "a"=some .none)(hva:va≠.none)(hm:m "b"=some .none)(rb:gF (fun _=>False) s.heap (.list (bs.map .int)) vb)(hj:m "isjunk"=some .none)(haj:m "autojunk"=some (.bool false))(hmc:m "_SequenceMatcher__chain_b"=none)(hm1:m "set_seq1"=none)(hm2:m "set_seq2"=none)(hN:N+10<1000)(hz:bs.length<=sizeLine):codeAny (model X.prog X.w) A (.call (.ref 167) ⟨[.ref x,va,vb],[]⟩) (fun r s'=>∃v,r=.ok (.ret v)/\iF dx s s'/\v=.none/\∃d js ps,lq X s' x dx (um m va) vb bs (N+10) d js ps/\ki X s.heap s'.heap bs d/\s.heap.get? js=none) s:=by
 obtain⟨cd,hC⟩:=F.cls
 refine gR I.nsb.aobj fun o ho hao=>?_
 obtain⟨_,_,z,D⟩:=F.seqs
 have hx:(s.heap.hide dx).get? x=some (instObj 242 dx):=by rw[ax _ I.xne];exact I.obj
 have F':DF (X.on (s.heap.hide dx) fun _ _=>False):=F.on (kg a hX)
 refine jq rb.isList ?_;rintro la lvs rfl _ _
 refine iV (bad:=fun _=>False) (Dt:=fun _ _=>False) (bs:=[.raw (.ref x),.raw va,.raw (.ref la)]) D R a ho hao.noseq hX (fun h=>h) m7 (fun _ _ e=>e.elim) (.cons (.raw _) (.cons (.raw _) (.cons (.raw _) .nil))) rfl fun L A' O s₁ R' r=>?_
 refine iP.then (ss1:=(fm (kj 2)).take 2) (ss2:=(fm (kj 2)).drop 2) (P:=fun ρ'=>fn ρ' "self" (.raw (.ref x))/\fn ρ' "b" (.raw (.ref la))/\∃o',fn ρ' "#d" (.at dx o')/\gr o' (um m va) (N+3)) ?_ R' r ?_
 ·refine fe (ju ?_);obtain⟨hf1,ht1,z1,D1⟩:=F'.seq1;refine gR D1.obj fun oc hoc hdc=>?_;refine fe (xw (key:="#d") (Po:=fun o'=>gr o' (um m va) (N+3)) (vs:=[va]) (by k_mem) hx (by k_mem) hao hC hf1 ht1 hm1 hoc hdc (mQ (gN (by k_mem)) pF) (fun A bad O s R r=>?_) fun o' ha'=>fj ?_)
  ·refine au (mX F' R r.at (lB.inst (key:="#d") ⟨hx,.inl ⟨o,by k_mem,hao⟩⟩ r) (r.dxNone (key:="#d") (a:=dx) (o:=o) (by k_mem)) hma (.inl ⟨rfl,hva⟩) rfl (f5 0xf113e819380a1f3e819a80a1f hN)) fun res s' h=>?_;refine qd h ?_;rintro rfl kb I';exact⟨rfl,kb,I'.nsb.aobj⟩
  ·exact⟨rfl,by k_mem,by k_mem,o',by k_mem,ha'⟩
 ·rintro ρ' O' s' ⟨hself,hb',o',hd',ha'⟩st r';obtain⟨hf2,ht2,z2,D2⟩:=F'.seq2;refine gR D2.obj fun oc hoc hdc=>?_;refine cP (cg (mN (Pa:=fun us _=>us=[.ref la]) R' r' hself ⟨hx,.inl ⟨o',hd',ha'⟩⟩ hC hf2 ht2 (by rw[<-hm2];rfl) hoc hdc (mQ (gN hb') pF rfl A' _ O' s' R' r') (fun us s1 x1 r1 e=>?_)));subst e;have I':ir s1.heap 242 x dx _ (N+3):=lB.inst (key:="#d") ⟨hx,.inl ⟨o',hd',ha'⟩⟩ r1;have rb':gF (fun _=>False) s1.heap (.list (bs.map .int)) (.ref la):=(rb.hide ho hao.noseq).keep fun b ob _ _ _ e _=>r1.base b ob e;refine bO (au (mC F' R' r1.at I' (r1.dxNone hd') (vb:=.ref la) (v0:=.none) (by rw[<-hm];rfl) (.inl ⟨rfl,fun e=>by cases e⟩) rfl rb' (by rw[<-hj];rfl) (by rw[<-haj];rfl) (by rw[<-hmc];rfl) (f5 0xf113e81978380aa1f3e819a80a1f hN) hz) fun res s2 h=>?_);refine yQ h ?_;rintro v rfl kb rfl⟨d,js,ps,hp,hc,hj⟩;exact cf ⟨.none,.inl ⟨rfl,rfl⟩,r1.at.keepBut (r1.dxNone hd') kb,rfl,d,js,ps,⟨hp.inst,hp.chain,hp.junk⟩,hc.back (r1.backs hd'),r1.backs hd' _ hj⟩
noncomputable def AA:Str->Option Value:=ja (ja (ja (ja (fun _=>none) "isjunk" .none) "a" .none) "b" .none) "autojunk" (.bool false)
theorem xB{X:Cx}{k:Nat}(F:DF X){A:Around}{s:Shared}{x dx:Addr}{va vb:Value}{bs:List Int}(R:gG (k+4) A)(a:At X s)(I:ir s.heap 242 x dx (fun _=>none) 0)(hX:X.h₀.get? dx=none)(hva:va≠.none)(rb:gF (fun _=>False) s.heap (.list (bs.map .int)) vb)(hz:bs.length<=sizeLine):codeAny (model X.prog X.w) A (.call (.ref 160) ⟨[.ref x,.none,va,vb,.bool false],[]⟩) (fun r s'=>∃v,r=.ok (.ret v)/\iF dx s s'/\v=.none/\∃d js ps,lq X s' x dx (um AA va) vb bs 14 d js ps/\ki X s.heap s'.heap bs d/\s.heap.get? js=none) s:=by
 obtain⟨cd,hC⟩:=F.cls
 refine gR I.nsb.aobj fun o ho hao=>?_
 obtain⟨_,_,z,D⟩:=F.init
 have hx:(s.heap.hide dx).get? x=some (instObj 242 dx):=by rw[ax _ I.xne];exact I.obj
 have F':DF (X.on (s.heap.hide dx) fun _ _=>False):=F.on (kg a hX)
 refine jq rb.isList ?_;rintro la lvs rfl _ _
 refine iV (bad:=fun _=>False) (Dt:=fun _ _=>False) (bs:=[.raw (.ref x),.raw .none,.raw va,.raw (.ref la),.raw (.bool false)]) D R a ho hao.noseq hX (fun h=>h) m7 (fun _ _ e=>e.elim) (.cons (.raw _) (.cons (.raw _) (.cons (.raw _) (.cons (.raw _) (.cons (.raw _) .nil))))) rfl fun L A' O s₁ R' r=>?_
 refine iP.then (ss1:=(fm (kj 1)).take 4) (ss2:=(fm (kj 1)).drop 4) (P:=fun ρ'=>fn ρ' "self" (.raw (.ref x))/\fn ρ' "a" (.raw va)/\fn ρ' "b" (.raw (.ref la))/\∃o',fn ρ' "#d" (.at dx o')/\gr o' AA 4) ?_ R' r ?_
 ·refine fe (ju ?_);refine fe (ig (gN (by k_mem)) (gW (key:="#d") (by k_mem) hx (by k_mem) hao hC (F.own "isjunk" (by decide)).2 (iz [] [] 0xf13e819081ff) fun o1 ha1=>?_));refine fe (l4 jH (gW (key:="#d") (by k_mem) hx (by k_mem) ha1 hC (F.own "a" (by decide)).2 (iz [] [] 0xf13e8191808a1ff) fun o2 ha2=>gW (key:="#d") (by k_mem) hx (by k_mem) ha2 hC (F.own "b" (by decide)).2 (iz [] [] 0xf13e819181808aa1ff) fun o3 ha3=>?_));refine fe (ig (gN (by k_mem)) (gW (key:="#d") (by k_mem) hx (by k_mem) ha3 hC (F.own "autojunk" (by decide)).2 (iz [] [] 0xf13e81918181808aaa1ff) fun o4 ha4=>fj ?_));exact⟨rfl,by k_mem,by k_mem,by k_mem,o4,by k_mem,ha4⟩
 ·rintro ρ' O' s' ⟨hself,hav,hbv,o',hd',ha'⟩st r';obtain⟨hf2,ht2,z2,D2⟩:=F'.seqs;refine gR D2.obj fun oc hoc hdc=>?_;refine cP (cg (mN (Pa:=fun us _=>us=[va,.ref la]) R' r' hself ⟨hx,.inl ⟨o',hd',ha'⟩⟩ hC hf2 ht2 rfl hoc hdc (mQ (gN hav) (mQ (gN hbv) pF) rfl A' _ O' s' R' r') (fun us s1 x1 r1 e=>?_)));subst e;have I':ir s1.heap 242 x dx _ 4:=lB.inst (key:="#d") ⟨hx,.inl ⟨o',hd',ha'⟩⟩ r1;have rb':gF (fun _=>False) s1.heap (.list (bs.map .int)) (.ref la):=(rb.hide ho hao.noseq).keep fun b ob _ _ _ e _=>r1.base b ob e;refine bO (au (qz F' R' r1.at I' (r1.dxNone hd') rfl hva rfl rb' rfl rfl rfl rfl rfl (iz [] [] 0xf13e819a848a1ff) hz) fun res s2 h=>?_);refine yQ h ?_;rintro v rfl kb rfl⟨d,js,ps,hp,hc,hj⟩;exact cf ⟨.none,.inl ⟨rfl,rfl⟩,r1.at.keepBut (r1.dxNone hd') kb,rfl,d,js,ps,⟨hp.inst,hp.chain,hp.junk⟩,hc.back (r1.backs hd'),r1.backs hd' _ hj⟩
theorem xh(C:Addr)(rest:List Value)(kw:List (Str×Value)):Code.weight (.builtin "type.__call__" ⟨.ref C::rest,kw⟩)=1:=by rfl
theorem gG.tc{k:Nat}{A:Around}(r:gG (k+1) A)(C:Addr)(rest:List Value)(kw:List (Str×Value)):gG k (A.under (.builtin "type.__call__" ⟨.ref C::rest,kw⟩)):=⟨r.handled,by
 have:=r.depth
 show A.depth+Code.weight _+_<=_
 rw[xh];exact fk 0xf113841910ab180aa0f38419181a0ab0a0f this,by
 have:=r.units
 have h:Code.cUnits (.builtin "type.__call__" ⟨.ref C::rest,kw⟩)<=1:=by first|exact aH 1|exact aV 1|decide
 show A.units+Code.cUnits _+_<=_
 exact fu 0xf111232829164b20aa0f1820232829181a64b0a0f this h⟩
theorem pN{X:Cx}{k:Nat}(F:DF X)(hmk:makesIn X.K 242=true){A:Around}{s:Shared}{va vb:Value}{bs:List Int}{P:Value->Shared->Prop}(R:gG (k+5) A)(a:At X s)(hva:va≠.none)(rb:gF (fun _=>False) s.heap (.list (bs.map .int)) vb)(hz:bs.length<=sizeLine)(h:∀x dx d js ps s',gQ s s'->s.heap.get? x=none->s.heap.get? dx=none->lq X s' x dx (um AA va) vb bs 14 d js ps->(∃h1:Heap,(∀b o,s.heap.get? b=some o->h1.get? b=some o)/\(∃o,h1.get? dx=some o)/\ki X h1 s'.heap bs d/\h1.get? js=none)->P (.ref x) s'):wpAny (model X.prog X.w) A (call (.ref 242) [.none,va,vb,.bool false]) P g8 s:=by
 obtain⟨hf,ht,_⟩:=F.init
 have Kin:=a.wf.kin.keeps a.base
 refine bO ?_
 obtain⟨hh,g,dr,t,os⟩:=s
 have none_at:∀c,hh.objs.size<=c->hh.get? c=none:=fun c hc=>by cases e:hh.get? c with|none=>rfl|some o=>exact absurd (am e) (Nat.not_lt.mpr hc)
 have k2:∀b o,hh.get? b=some o->((hh.push emptyDict).push (instObj 242 hh.objs.size)).get? b=some o:=fun b o e=>aG _ (aG _ e)
 refine make_core (makes_of Kin hmk) (eT Kin hf) (fun self=>bind_fn Kin self ht) (.inl rfl) ?_
 have hX:X.h₀.get? hh.objs.size=none:=by cases e:X.h₀.get? hh.objs.size with|none=>rfl|some o=>have:=a.base _ _ e;rw[none_at _ (aH _)]at this;cases this
 have I:ir ((hh.push emptyDict).push (instObj 242 hh.objs.size)) 242 (hh.objs.size+1) hh.objs.size (fun _=>none) 0:=⟨by have:=aT (hh.push emptyDict) (o:=instObj 242 hh.objs.size) rfl;rwa [dw]at this,⟨emptyDict,#[],0,aG _ (aT _ rfl),rfl,fun e he=>by simp at he,fun _=>rfl,aH _⟩⟩
 refine au (xB F (R.tc 242 _ _) (s:=⟨(hh.push emptyDict).push (instObj 242 hh.objs.size),g,dr,t,os⟩) ⟨a.wf,fun b o e=>k2 b o (a.base b o e),a.gens,a.os⟩ I hX hva (rb.keep fun b o _ _ _ e _=>k2 b o e) hz) fun res s' hr=>?_
 refine yQ hr ?_;rintro v rfl kb rfl⟨d,js,ps,hp,hc,hj⟩
 refine⟨rfl,h (hh.objs.size+1) hh.objs.size d js ps s' ⟨fun b o e=>kb.keep b o (bQ (am e)) (k2 b o e),kb.gens,kb.os⟩ (none_at _ (f5 0xf1180a00ff)) (none_at _ (aH _)) hp ⟨_,k2,I.nsb.aobj.imp fun _ h=>h.1,hc,hj⟩⟩
theorem xP{X:Cx}{k:Nat}(F:DF X)(hmk:makesIn X.K 242=true){A:Around}{s:Shared}{va vb:Value}{bs:List Int}{P:Value->Shared->Prop}(R:gG (k+5) A)(a:At X s)(hva:va≠.none)(rb:gF (fun _=>False) s.heap (.list (bs.map .int)) vb)(hz:bs.length<=sizeLine)(h:∀x dx d js ps s',gQ s s'->s.heap.get? x=none->s.heap.get? dx=none->lq X s' x dx (um AA va) vb bs 14 d js ps->P (.ref x) s'):wpAny (model X.prog X.w) A (call (.ref 242) [.none,va,vb,.bool false]) P g8 s:=pN F hmk R a hva rb hz fun x dx d js ps s' h1 h2 h3 h4 _=>h x dx d js ps s' h1 h2 h3 h4
theorem DC:typeLookup (.type "method_descriptor") "__get__"=pure (some (.builtin "method_descriptor.__get__")):=by rw[bx,bK];kernel_rfl
theorem DO:typeLookup (.type "method_descriptor") "__set__"=pure none:=by rw[bx,bK];kernel_rfl
theorem C7:typeLookup (.type "method_descriptor") "__delete__"=pure none:=by rw[bx,bK];kernel_rfl
theorem B7:Slot "method_descriptor" "__get__" "method_descriptor.__get__":=
 .of (owner:="method_descriptor") (n:="__get__") (by rw[bx,bK];kernel_rfl) (by decide+kernel) (by decide+kernel) (by decide+kernel) (by first|exact .inl (by decide+kernel)|exact .inr (by decide+kernel)) (by rw[b9];kernel_rfl)
theorem y7:entryFor table "method_descriptor.__get__"=some Builtin.«method_descriptor.__get__»:=fW (by kernel_rfl)
theorem Bl(a b c:Value):argsOk "method_descriptor.__get__" ⟨[a,b,c],[]⟩:=by delta argsOk;kernel_rfl
noncomputable def hZ(id:String)(self:Value):Obj:={cls:=.type "builtin_function_or_method",data:=.fields #[.builtin id,self]}
section
variable{prog:Program}{w:World}{A:Around}{E:Value->Shared->Prop}{s:Shared}
theorem DB{T id:String}{a:Addr}{name:String}{P:Fin->Shared->Prop}(hT:s.TypeIs (.ref a) T)(ht:Manifest.toldItsClass.contains id=false)(hsub:isSubtype (.type T) (.type T)=pure true)(hown:(kfb_private%"ownerAndName") id=(T,name))(h:P (.done (.ret (.ref s.heap.objs.size))) {s with heap:=s.heap.push (hZ id (.ref a))}):wpAny (model prog w) A (Builtin.«method_descriptor.__get__» ⟨[.builtin id,.ref a,.type T],[]⟩) P E s:=by
 delta Builtin.«method_descriptor.__get__»
 refine aA (er (a:=(.builtin id,some (.ref a),some (.type T))) (by first|rfl|kernel_rfl) ?_)
 simp only[ht,ae,bZ]
 show wpAny _ _ ((do(kfb_private%"checkInstance") (.builtin id) (.ref a);ret (<-newFields "builtin_function_or_method" [.builtin id,.ref a]):Sem Fin)) _ _ _
 refine aA ?_
 have hn:(kfb_private%"nameAndClass") (.builtin id)=pure (Str.ofString name,.type T):=by show(match(kfb_private%"ownerAndName") id with|(owner,name)=>(pure (Str.ofString name,Value.type owner):Sem (Str×Value)))=_;rw[hown]
 show wpAny _ _ (bind ((kfb_private%"nameAndClass") (.builtin id)) _) _ _ _
 rw[hn]
 refine aA (aC ?_)
 dsimp only
 refine aA (eh (T:=T) (b:=true) hT hsub ?_)
 simp only[dL,ae,bZ]
 refine aC ?_
 refine aA ?_
 exact dn (aC h)
theorem A6{T id:String}{name:Str}{a:Addr}{o:Obj}{u:Tok}{nm:String}{P:Fin->Shared->Prop}(ho:s.heap.get? a=some o)(hc:o.cls=.type T)(hd:o.dict=none)(hdt:∀c,o.data≠.cls c)(hl:typeLookup (.type T) name=pure (some (.builtin id)))(hty:typeOf (.builtin id)=pure (.type "method_descriptor"))(hname:(["__module__","__name__","__qualname__","__doc__","__annotations__"]:List Str).contains name=false)(ht:Manifest.toldItsClass.contains id=false)(hsub:isSubtype (.type T) (.type T)=pure true)(hown:(kfb_private%"ownerAndName") id=(T,nm))(h:P (.done (.ret (.ref s.heap.objs.size))) {s with heap:=s.heap.push (hZ id (.ref a))}):wpAny (model prog w) A (Builtin.«object.__getattribute__» ⟨[.ref a,.str name u],[]⟩) P E s:=by
 have hT:s.TypeIs (.ref a) T:=⟨_,ho,hc⟩
 have hg:=DC
 have hs:=DO
 have hdl:=C7
 obtain⟨c,dct,dat,sl⟩:=o
 simp only at hc hd hdt
 subst hc hd
 delta Builtin.«object.__getattribute__»
 repeat(any_goals(first|assumption|wp_step))
 have fin:wpAny (model prog w) A (instanceDict a false) (fun x s'=>x=none/\s'=s) E s:=by
  delta instanceDict;repeat(any_goals(first|assumption|wp_step))
  exact⟨rfl,rfl⟩
 have here:∀{Qf:Option Addr->Shared->Prop},Qf none s->wpAny (model prog w) A (match dat with|.cls c=>pure (some c.ns)|_=>instanceDict a false) Qf E s:=fun hq=>by cases dat<;>first|exact absurd rfl (hdt _)|exact aF fin (fun x s' e=>by obtain⟨rfl,rfl⟩:=e;exact hq) fun _ _ e=>e
 refine here ?_
 repeat(any_goals(first|assumption|wp_step))
 simp only[hname,ae,bZ]
 repeat(any_goals(first|assumption|((with_reducible show wpAny _ _ (call (Value.builtin _) _ _) _ _ _);refine b7 B7 hty y7 (DB hT ht hsub hown ⟨_,rfl,?_⟩) (Bl _ _ _))|wp_step))
theorem mV{T id ga:String}{name:Str}{a:Addr}{o:Obj}{nm:String}{Q:Value->Shared->Prop}(ho:s.heap.get? a=some o)(hc:o.cls=.type T)(hd:o.dict=none)(hdt:∀c,o.data≠.cls c)(hl:typeLookup (.type T) name=pure (some (.builtin id)))(hty:typeOf (.builtin id)=pure (.type "method_descriptor"))(hname:(["__module__","__name__","__qualname__","__doc__","__annotations__"]:List Str).contains name=false)(ht:Manifest.toldItsClass.contains id=false)(hsub:isSubtype (.type T) (.type T)=pure true)(hown:(kfb_private%"ownerAndName") id=(T,nm))(sga:Slot T "__getattribute__" ga)(ega:entryFor table ga=some Builtin.«object.__getattribute__»)(aga:∀x y,argsOk ga ⟨[x,y],[]⟩)(h:Q (.ref s.heap.objs.size) {s with heap:=s.heap.push (hZ id (.ref a)),toks:=s.toks+1}):wpAny (model prog w) A (getAttr (.ref a) name true) Q E s:=by
 have hT:∀tk,({s with toks:=tk}:Shared).TypeIs (.ref a) T:=fun _=>⟨_,ho,hc⟩
 obtain⟨c,dct,dat,sl⟩:=o
 simp only at hc hd hdt
 subst hc hd
 have f3:=sga.lookup
 have f4:=sga.bind (.ref a)
 delta getAttr getAttrBy
 repeat(any_goals(first|assumption|exact hT _|((with_reducible show wpAny _ _ (call (Value.builtin _) _ _) _ _ _);refine b7 sga (hT _) ega (A6 (s:={s with toks:=s.toks+1}) ho rfl rfl hdt hl hty hname ht hsub hown ⟨_,rfl,?_⟩) (aga _ _))|wp_step))
end
theorem w7:Manifest.toldItsClass.contains "dict.get"=false:=by decide+kernel
theorem yc:(kfb_private%"ownerAndName") "dict.get"=("dict","get"):=by first|decide+kernel|kernel_rfl
theorem yC:Manifest.toldItsClass.contains "set.__contains__"=false:=by decide+kernel
theorem Ai:(kfb_private%"ownerAndName") "set.__contains__"=("set","__contains__"):=by first|decide+kernel|kernel_rfl
theorem zP:Manifest.signature? "dict.get"=some ⟨.positional,"dict.get","get",.self,[⟨"key",.posOnly,true⟩,⟨"default",.posOnly,false⟩]⟩:=by kernel_rfl
theorem zU:Manifest.signature? "set.__contains__"=some ⟨.oneArg,"set.__contains__","__contains__",.self,[⟨"object",.posOnly,true⟩]⟩:=by kernel_rfl
theorem ow:isSubtype (.type "dict") (.type "module")=pure false:=by rw[b9];kernel_rfl
theorem pT:isSubtype (.type "set") (.type "module")=pure false:=by rw[b9];kernel_rfl
theorem qf:isSubtype (.type "dict") (.type "dict")=pure true:=by rw[b9];kernel_rfl
theorem s6:isSubtype (.type "set") (.type "set")=pure true:=by rw[b9];kernel_rfl
section
variable{prog:Program}{w:World}{A:Around}{E:Value->Shared->Prop}{s:Shared}
theorem yI{a:Addr}{o:Obj}{Q:Bool->Shared->Prop}(ho:s.heap.get? a=some o)(hdt:∀c,o.data≠.cls c)(h:Q false s):wpAny (model prog w) A (isType (.ref a)) Q E s:=by
 obtain⟨c,dct,dat,sl⟩:=o
 delta isType
 refine aA (wpAny_loadPart ho (aC ?_))
 cases dat<;>first|exact h|exact absurd rfl (hdt _)
theorem tz{T id:String}{a:Addr}{o:Obj}{rest:List Value}{sig:Manifest.Signature}{Q:Unit->Shared->Prop}(ho:s.heap.get? a=some o)(hc:o.cls=.type T)(hdt:∀c,o.data≠.cls c)(hsig:Manifest.signature? id=some sig)(hkind:builtinKind id=some .method)(hv:Manifest.varargsMethods.contains id=false)(hmod:isSubtype (.type T) (.type "module")=pure false)(harg:Bind.checkArgs id {sig with full:=s!"{Bind.lastOf T}.{Bind.lastOf id}"} ⟨.ref a::rest,[]⟩=pure ()) (h:Q () s):wpAny (model prog w) A (checkBoundCall id ⟨.ref a::rest,[]⟩) Q E s:=by
 have hT:s.TypeIs (.ref a) T:=⟨_,ho,hc⟩
 delta checkBoundCall
 rw[hsig]
 dsimp only
 rw[hkind]
 dsimp only
 rw[aL (by decide)]
 refine aA (eh (T:=T) (b:=false) hT hmod ?_)
 rw[hv]
 simp only[cU,ae,bZ]
 refine aA (yI ho hdt ?_)
 simp only[ae,bZ]
 refine aA (wpAny_typeOf hT ?_)
 dsimp only
 exact er harg h
theorem vI{id:String}{B:Builtin}{g a:Addr}{rest:List Value}{Q:Value->Shared->Prop}(ho:s.heap.get? g=some (hZ id (.ref a)))(hp:plainId id=true)(hb:entryFor table id=some B)(hchk:∀{A':Around}{E':Value->Shared->Prop}{Q':Unit->Shared->Prop},Q' () s->wpAny (model prog w) A' (checkBoundCall id ⟨.ref a::rest,[]⟩) Q' E' s)(h:wpAny (model prog w) A.in1 (B ⟨.ref a::rest,[]⟩) (fun fin s'=>∃v,fin=.done (.ret v)/\Q v s') E s):wpAny (model prog w) A (call (.ref g) rest) Q E s:=by
 refine bO (codeAny_of_tree ?_)
 show wpAny _ A.in1 (callAny (.ref g) ⟨rest,[]⟩) _ _ s
 simp only[callAny]
 refine aA (wpAny_load ho ?_)
 simp only[hZ,show(Value.type "builtin_function_or_method"==Value.type "method"||Value.type "builtin_function_or_method"==Value.type "builtin_function_or_method"||Value.type "builtin_function_or_method"==Value.type "method-wrapper")=true by decide,fO]
 refine KFB.if_so (by decide) ?_
 refine aA (hchk ?_)
 refine aA (aC (aC ?_))
 refine⟨eD hp _,eH hb ?_⟩
 rw[dK hp]
 refine aF h (fun fin s' hf=>?_) fun _ _ e=>e
 refine gR hf ?_;rintro v rfl hv
 exact hv
theorem oX{id T:String}{B:Builtin}{g a:Addr}{o:Obj}{rest:List Value}{sig:Manifest.Signature}{Q:Value->Shared->Prop}(ho:s.heap.get? g=some (hZ id (.ref a)))(hp:plainId id=true)(hb:entryFor table id=some B)(hoa:s.heap.get? a=some o)(hc:o.cls=.type T)(hdt:∀c,o.data≠.cls c)(hsig:Manifest.signature? id=some sig)(hkind:builtinKind id=some .method)(hv:Manifest.varargsMethods.contains id=false)(hmod:isSubtype (.type T) (.type "module")=pure false)(harg:Bind.checkArgs id {sig with full:=s!"{Bind.lastOf T}.{Bind.lastOf id}"} ⟨.ref a::rest,[]⟩=pure ()) (h:wpAny (model prog w) A.in1 (B ⟨.ref a::rest,[]⟩) (fun fin s'=>∃v,fin=.done (.ret v)/\Q v s') E s):wpAny (model prog w) A (call (.ref g) rest) Q E s:=
 vI ho hp hb (fun q=>tz hoa hc hdt hsig hkind hv hmod harg q) h
end
theorem uP:plainId "dict.get"=true:=by decide+kernel
theorem w0:builtinKind "dict.get"=some .method:=by decide+kernel
theorem zw:Manifest.varargsMethods.contains "dict.get"=false:=by decide+kernel
theorem vV:plainId "set.__contains__"=true:=by decide+kernel
theorem xt:builtinKind "set.__contains__"=some .method:=by decide+kernel
theorem z5:Manifest.varargsMethods.contains "set.__contains__"=false:=by decide+kernel
theorem ze(a:Addr)(x y:Value):Bind.checkArgs "dict.get" ⟨.positional,s!"{Bind.lastOf "dict"}.{Bind.lastOf "dict.get"}","get",.self,[⟨"key",.posOnly,true⟩,⟨"default",.posOnly,false⟩]⟩ ⟨[.ref a,x,y],[]⟩=pure ():=by kernel_rfl
theorem yn(a:Addr)(x:Value):Bind.checkArgs "set.__contains__" ⟨.oneArg,s!"{Bind.lastOf "set"}.{Bind.lastOf "set.__contains__"}","__contains__",.self,[⟨"object",.posOnly,true⟩]⟩ ⟨[.ref a,x],[]⟩=pure ():=by kernel_rfl
section
variable{X:Cx}{k:Nat}{env:Env}{ρ:List (Str×B)}{Q:Fl->List (Str×B)->Prop}
def Bu(X:Cx)(ρ:List (Str×B))(a:Addr)(o:Obj):Prop:=(∃key,fn ρ key (.at a o))\/X.h₀.get? a=some o
theorem Bu.get{a:Addr}{o:Obj}(h:Bu X ρ a o){bad:Addr->Prop}{O:Str->Option Addr}{s:Shared}(r:gE X bad O env ρ s):s.heap.get? a=some o:=by
 rcases h with⟨key,h⟩|h
 ·exact(r.pt _ _ _ h).2
 ·exact r.base _ _ h
theorem sM{M:Model}{h:Heap}{g:Addr}{id:String}{self:Value}(ho:h.get? g=some (hZ id self)):∃k,(k=Keeper.frame\/k=Keeper.machine\/k=Keeper.boundFrame)/\Looks M h (keeperOf (.ref g)) k:=
 ⟨.machine,.inr (.inl rfl),(eU (part:=none) ho).andThen .now⟩
theorem rK{x:Str}{p pos:Pos}{e:Expr}{es:List Expr}{ds:List PyData}{g:Addr}{id:String}{self:Value}{A:Around}{bad:Addr->Prop}{O:Str->Option Addr}{s:Shared}{P:Value->Shared->Prop}(R:gG k A)(r:gE X bad O env ρ s)(hx:fn ρ x (.raw (.ref g)))(hg:Bu X ρ g (hZ id self))(ha:qy X k env ρ pos (e::es) ds)(h:∀vs s',gQ s s'->gE X bad O env ρ s'->RepL (fv bad O) s'.heap ds vs->wpAny (model X.prog X.w) A (call (.ref g) vs) P g8 s')(hd:autoParam ((x==("__debug__":Str))=false) aD)(he:autoParam (starEach (e::es) env=(false,eval e env)::starEach es env) aR)(hplain:autoParam ((backTo pos (starEach es env)).any (·.1)=false) aR):wpAny (model X.prog X.w) A (eval (.Call (.Name x p) (e::es) [] pos) env) P g8 s:=by
 refine bE (bW (Lk.load r.ok.kind (r.raw x _ hx) ?_) hd)
 refine callWith_of (P:=fun h=>h.get? g=some (hZ id self)) (by rw[he];show((false||(backTo pos (starEach es env)).any (·.1))||false)=false;rw[hplain];rfl) (fun h e=>sM e) ?_
 refine ha.args he R r fun vs s1 x1 r1 q1=>⟨hg.get r1,h vs s1 x1 r1 q1⟩
theorem sY{x:Str}{p pos:Pos}{e e':Expr}{g d:Addr}{o:Obj}{kvs:List (Int×Value)}{i j z:Int}(hx:fn ρ x (.raw (.ref g)))(hg:Bu X ρ g (hZ "dict.get" (.ref d)))(hd:Bu X ρ d o)(ho:o.IsDictOf (DK X) kvs)(hlow:(d==sysModules)=false)(h1:Ev X k env ρ e (.int i))(h2:Ev X k env ρ e' (.int j))(hs:∀v,valueAt kvs i=some v->∃t,v=.int z t)(hn:valueAt kvs i=none->z=j)(hdb:autoParam ((x==("__debug__":Str))=false) aD)(he:autoParam (starEach [e,e'] env=[(false,eval e env),(false,eval e' env)]) aR)(he':autoParam (starEach [e'] env=[(false,eval e' env)]) aR):Ev X k env ρ (.Call (.Name x p) [e,e'] [] pos) (.int z):=fun A bad O s R r=>by
 refine rK R r hx hg (fg h1 (fg h2 fq he') (by rw[he,he'])) (fun vs s1 x1 r1 q1=>?_) hdb (by rw[he,he']) (by rw[he'];rfl)
 refine q1.twoE fun v w qa qb=>qa.intE fun t=>qb.intE fun u=>?_
 have D1:s1.heap.DictOf (DK X) d kvs:=Heap.dictOf_iff.mpr ⟨o,hd.get r1,ho⟩
 have hc:o.cls=.type "dict"/\∀c,o.data≠.cls c:=by obtain⟨es,ep,hE,hdt,_⟩:=ho;exact⟨hE.1,fun c e=>by rw[hdt]at e;cases e⟩
 refine oX (hg.get r1) uP PySem.F.entry_dict_get (hd.get r1) hc.1 hc.2 zP w0 zw ow (ze _ _ _) ?_
 show wpAny _ _ (dictGet d (.int i t)>>=_) _ _ s1
 refine aA (wpAny_dictGet_of (fH _ _ i t) D1.mapOf ?_)
 have x2:=x1.trans (gQ.toks s1 (s1.toks+1))
 cases hv:valueAt kvs i with
 |some v=>obtain⟨tt,rfl⟩:=hs v hv;exact aC ⟨_,rfl,x2,.int _ _⟩
 |none=>show wpAny _ _ (Builtin.Dict.missed d (.int i t)>>=_) _ _ _;refine aA (wpAny_missed_other hlow (aC ⟨_,rfl,x2,?_⟩));rw[hn hv];exact .int _ _
theorem yb{x:Str}{p pos:Pos}{e:Expr}{g js:Addr}{led:Bool}{i:Int}(hx:fn ρ x (.raw (.ref g)))(hg:Bu X ρ g (hZ "set.__contains__" (.ref js)))(hj:Bu X ρ js {cls:=.type "set",dict:=none,data:=.set #[] 0 (.fresh 0 0 led)}) (h1:Ev X k env ρ e (.int i)) (hdb:autoParam ((x==("__debug__":Str))=false) aD) (he:autoParam (starEach [e] env=[(false,eval e env)]) aR):Ev X k env ρ (.Call (.Name x p) [e] [] pos) (.bool false):=fun A bad O s R r=>by
 refine rK R r hx hg (fg h1 fq he) (fun vs s1 x1 r1 q1=>?_) hdb he rfl
 refine q1.oneE fun v qa=>qa.intE fun t=>?_
 have hS:s1.heap.SetOf (DK X) js (fun _=>false) 0:=(setObjOf_fresh (knd:=DK X) led).setOf (hj.get r1) (by delta scanBound;decide)
 refine oX (hg.get r1) vV entry_set_contains (hj.get r1) rfl (fun c e=>by cases e) zU xt z5 pT (yn _ _) ?_
 have x2:=x1.trans (gQ.toks s1 (s1.toks+1))
 delta Builtin.«frozenset.__contains__» Builtin.Frozenset.oneOther
 simp only[List.isEmpty_nil,bind_assoc]
 delta Builtin.Frozenset.addrOf Builtin.Frozenset.withSetAsKey setContains
 refine aA (aC ?_)
 try dsimp only
 refine aA (aC ?_)
 try dsimp only
 refine aA (wpAny_tryCatch ?_)
 refine ah ?_
 refine aA ((DK X).pyHash (fH _ _ i t) ?_)
 refine aA (wpAny_setFind_of (s:={s1 with toks:=s1.toks+1}) (fH _ _ i t) rfl hS fun r hr=>?_)
 refine aC ?_
 show wpAny _ _ (ret (Value.bool r.isSome)) _ _ _
 rw[hr]
 exact aC ⟨_,rfl,x2,.bool _⟩
theorem Bj{x:Str}{p pos:Pos}{d:Addr}{o:Obj}{kvs:List (Int×Value)}(hx:fn ρ x (.raw (.ref d)))(hd:Bu X ρ d o)(ho:o.IsDictOf (DK X) kvs)(hdb:autoParam ((x==("__debug__":Str))=false) aD):Cl X k env ρ (.Attribute (.Name x p) "get" pos) (fun o'=>o'=hZ "dict.get" (.ref d)):=fun A bad O s R r=>by
 obtain⟨es,ep,hE,hdt,_⟩:=ho
 refine Attribute_name (bW (Lk.load r.ok.kind (r.raw x _ hx) ?_) hdb)
 refine mV (hd.get r) hE.1 hE.2.1 (fun c e=>by rw[hdt]at e;cases e) PySem.F.slot_dict_get.lookup PySem.F.type_dict_get (by decide) w7 qf yc PySem.F.slot_dict_getattribute am_entry_dict_getattribute PySem.F.args_dict_getattribute_2 ?_
 exact⟨⟨fun b o e=>aG _ e,rfl,rfl⟩,_,_,rfl,iG _,aT _ rfl,nJ r (aH _),rfl⟩
end
theorem Di:Slot "set" "__getattribute__" "set.__getattribute__":=
 .of (owner:="set") (n:="__getattribute__") (by rw[bx,bK];kernel_rfl) (by decide+kernel) (by decide+kernel) (by decide+kernel) (by first|exact .inl (by decide+kernel)|exact .inr (by decide+kernel)) (by rw[b9];kernel_rfl)
theorem ri:entryFor table "set.__getattribute__"=some Builtin.«object.__getattribute__»:=
 entryFor_alias (id':="object.__getattribute__") (by kernel_rfl) (by decide+kernel) (by decide+kernel) (by kernel_rfl)
theorem t9(a b:Value):argsOk "set.__getattribute__" ⟨[a,b],[]⟩:=by delta argsOk;kernel_rfl
noncomputable abbrev u8(i:Nat):Stmt:=fh (f6 (fh g7 3)) i
noncomputable def Bz(i:Nat)(nm:Str)(z:Value×Value×Option Addr×Value):FuncData:=fnOf nm ("Match."++nm) (gg (u8 i)) (fm (u8 i)) (gT (u8 i)) .none .none z.1 z.2.1 z.2.2.1 z.2.2.2 .none
structure MF(X:Cx):Prop where
 obj:∃od cd sl,X.K.lookup 135=some ⟨.type "type",od,.cls cd,sl⟩/\cd.mro=[.ref 135,.type "tuple",.type "object"]/\cd.bases=[.type "tuple"]/\(sl.toList[4]?).join=some .none/\cd.hasDel=false
 reads:readsIn X.K 135 (.type "type")=true
 new:findCls X.K (.ref 135) (.type "type") "__new__"=some (.get (.builtin "staticmethod.__get__") (.ref 136) .none (.ref 135))
 srec:recIn X.K 136 "staticmethod"=some [.ref 82]
 call:specialIn X.K (.ref 135) "__call__"=some (some (.builtin "type.__call__"))
 typ:instIn X.K (.ref 135) (.type "type")=some true
 init:findIn X.K (.ref 135) "__init__"=some (some (.builtin "object.__init__"))
 tnew:findCls X.K (.type "tuple") (.type "type") "__new__"=some (.val (.builtin "tuple.__new__"))
 keep:keepIn X.K (.ref 135)=true
 iter:findIn X.K (.ref 135) "__iter__"=some (some (.builtin "tuple.__iter__"))
 ltm:findIn X.K (.ref 135) "__lt__"=some (some (.builtin "tuple.__lt__"))
 dnew:∃z,kf X 82 (Bz 4 "__new__" z) (fm (u8 4)) ["_cls","a","b","size"]
theorem MF.on{X:Cx}(F:MF X){h:Heap}{D:PyData->Value->Prop}(k:∀b o,X.h₀.get? b=some o->h.get? b=some o):MF (X.on h D):=
 ⟨F.obj,F.reads,F.new,F.srec,F.call,F.typ,F.init,F.tnew,F.keep,F.iter,F.ltm,F.dnew.imp fun _ d=>d.on k⟩
theorem AL:plainId "tuple.__new__"=true:=by decide+kernel
theorem BK:builtinKind "tuple.__new__"=some .builtinFn:=by decide+kernel
theorem yX:splitId "tuple.__new__"=some ("tuple","__new__"):=by decide+kernel
theorem mz:Bind.madeBy (.type "tuple")=pure (some "tuple.__new__"):=PySem.F.called_tuple.made
theorem uf:Builtin.Slots.bestBase [.type "tuple"]=pure (.type "tuple"):=by first|rfl|kernel_rfl
structure ML(M:Model)(h:Heap):Prop where
 obj:∃od cd sl,h.get? 135=some ⟨.type "type",od,.cls cd,sl⟩/\cd.mro=[.ref 135,.type "tuple",.type "object"]/\cd.hasDel=false
 mro:Looks M h (mroOf (.ref 135)) [.ref 135,.type "tuple",.type "object"]
 made:Looks M h (Bind.madeBy (.ref 135)) none
 base:Looks M h (Bind.staticBase (.ref 135)) (.type "tuple")
 self:Looks M h (isSubtype (.ref 135) (.ref 135)) true
 tup:Looks M h (isSubtype (.ref 135) (.type "tuple")) true
 top:Looks M h (isSubtype (.ref 135) (.type "object")) true
 call:Looks M h (specialOf (.ref 135) "__call__") (some (.builtin "type.__call__"))
 typ:Looks M h (isInstance (.ref 135) (.type "type")) true
 init:Looks M h (typeLookup (.ref 135) "__init__") (some (.builtin "object.__init__"))
 isT:Looks M h (isType (.ref 135)) true
 iter:Looks M h (typeLookup (.ref 135) "__iter__") (some (.builtin "tuple.__iter__"))
 ltm:Looks M h (typeLookup (.ref 135) "__lt__") (some (.builtin "tuple.__lt__"))
theorem MF.looks{X:Cx}(F:MF X){M:Model}{h:Heap}(Kin:X.K.In h):ML M h:=by
 refine FV F.obj fun od cd sl ho e1 e2 e3 e4=>?_
 have hc:clsIn X.K 135=some cd:=by delta clsIn;rw[ho]
 have hm:Looks M h (mroOf (.ref 135)) [.ref 135,.type "tuple",.type "object"]:=e1▸((looks_clsIn Kin hc).andThen .now)
 have made:Looks M h (Bind.madeBy (.ref 135)) none:=by intro A Q E s k q;delta Bind.madeBy;refine aA (hm A _ E s k ?_);rw[dg];refine aA (aA (aA (aA (wpAny_loadPart (k _ _ (Kin _ _ ho)) (aC ?_)))));dsimp only;rw[<-ab,e3];exact aC (aC (aC q))
 have mi:∀v,[.ref 135,.type "tuple",.type "object"].contains v=true->mroIn X.K 135 v=some true:=fun v hv=>by delta mroIn;rw[hc,cv,e1,aL (by decide),hv]
 refine⟨⟨od,cd,sl,Kin _ _ ho,e1,e4⟩,hm,made,?_,looks_mroIn Kin (mi _ (by decide)),looks_mroIn Kin (mi _ (by decide)),looks_mroIn Kin (mi _ (by decide)),looks_specialIn Kin F.call,looks_instIn Kin F.typ,eT Kin F.init,(eU (Kin _ _ ho)).andThen .now,eT Kin F.iter,eT Kin F.ltm⟩
 intro A Q E s k q
 delta Bind.staticBase
 refine aA (hm A _ E s k ?_)
 rw[dg]
 refine aA (aA (aA (made A _ E s k ?_)))
 simp only[Option.isSome_none,ae,bZ]
 have ld:Looks M h (classData 135) cd:=looks_clsIn Kin hc
 refine aA (ld A _ E s k ?_)
 rw[e2,uf]
 refine aA (aC (aC ?_))
 dsimp only
 rw[dg]
 refine aA (aA ?_)
 rw[mz]
 refine aC ?_
 simp only[Option.isSome_some,fO]
 exact aC (aC (aC q))
theorem ML.keeps{M:Model}{h h':Heap}(L:ML M h)(k:∀b o,h.get? b=some o->h'.get? b=some o):ML M h':=
 ⟨Cf L.obj fun od cd sl a b=>⟨od,cd,sl,k _ _ a,b⟩,L.mro.keeps k,L.made.keeps k,L.base.keeps k,L.self.keeps k,L.tup.keeps k,L.top.keeps k,L.call.keeps k,L.typ.keeps k,L.init.keeps k,L.isT.keeps k,L.iter.keeps k,L.ltm.keeps k⟩
section
variable{prog:Program}{w:World}{A:Around}{E:Value->Shared->Prop}
theorem BG{s:Shared}{id:String}{args:List Value}{b:Builtin}{Q:Value->Shared->Prop}(hp:plainId id=true)(he:PySem.entryFor PySem.table id=some b)(h1:∀(P:Unit->Shared->Prop) (E':Value->Shared->Prop),P () s->wpAny (model prog w) A.in1 (checkBuiltinCall id ⟨args,[]⟩) P E' s)(h2:∀(P:PySem.Fin->Shared->Prop) (E':Value->Shared->Prop),(∀v s',Q v s'->P (.done (.ret v)) s')->wpAny (model prog w) A.in1 (b ⟨args,[]⟩) P E' s):wpAny (model prog w) A (call (.builtin id) args) Q E s:=
 bO (et hp he (h1 _ _ (h2 _ _ fun _ _ h=>h)))
theorem AX(v:Value):checkBuiltinCall "tuple.__new__" ⟨[.ref 135,v],[]⟩=checkBuiltinCall "tuple.__new__" ⟨[.ref 135,.none],[]⟩:=by kernel_rfl
theorem xr{s:Shared}{T:Addr}{o:Obj}{vs:Array Value}{n:Nat}{Q:Value->Shared->Prop}(L:ML (model prog w) s.heap)(ho:s.heap.get? T=some o)(hc:o.cls=.type "tuple")(hd:o.data=.seq vs n)(hz:vs.size<=sizeLine)(h:∀h' l dd,(∀b ob,s.heap.get? b=some ob->h'.get? b=some ob)->s.heap.get? l=none->h'.get? l=some {cls:=.ref 135,dict:=dd,data:=.seq vs}->Q (.ref l) {s with heap:=h'}):wpAny (model prog w) A (call (.builtin "tuple.__new__") [.ref 135,.ref T]) Q E s:=by
 refine BG AL PySem.F.entry_tuple_new (fun P E' hP=>?_) fun P E' hP=>?_
 ·rw[AX];simp only[checkBuiltinCall,BK,yX];have hT:=L.isT;have h1:=L.tup;have h2:=L.base;have h3:=L.made;have h4:=L.init;repeat(first|exact hP|simp only[mz,eV,ae,bZ,fO,dL,beq_self_eq_true]|lk)
 delta Builtin.«tuple.__new__»
 refine aA (L.isT.at ?_)
 rw[aL (by decide)]
 refine aA (L.tup.at ?_)
 rw[aL (by decide)]
 have here:Looks (model prog w) s.heap (Bind.madeHere "tuple.__new__" (.ref 135)) ():=L.base.andThen (Looks.andThen (a:=some "tuple.__new__") (ek mz) (ek (by rfl)))
 refine aA (here.at ?_)
 refine aA (L.init.at ?_)
 rw[aN (by rfl)]
 refine aA (er (a:=()) (by first|rfl|kernel_rfl) ?_)
 refine aA (er (a:=()) (by first|rfl|kernel_rfl) ?_)
 dsimp only
 rw[aL (by decide)]
 refine aA (wpAny_collect_seq (hsz:=hz) T (.inr rfl) ho hc hd fun h' hk=>?_)
 refine FT L.obj fun od cd sl hC _ hdel=>?_
 rw[Array.toArray_toList]
 refine aA (aC (aA (wpAny_alloc (aA ?_))))
 delta newObj
 dsimp only
 rw[aL (by exact fk 0xf110116f100f hz:¬vs.size>sizeLine)]
 delta newObjAsIs classHasDel
 refine aA (wpAny_alloc (aA (aA (wpAny_load (aG _ (aG _ (hk _ _ hC))) (aC ?_)))))
 rw[hdel]
 refine aC (aC (hP _ _ (h _ _ (some h'.objs.size) (fun b ob e=>aG _ (aG _ (hk b ob e))) ?_ (aT _ rfl))))
 cases e:s.heap.get? (h'.push {cls:=.type "dict",data:=.dict #[]}).objs.size with
 |none=>rfl
 |some o'=>have:=am (hk _ _ e);rw[dw]at this;exact absurd this (Nat.not_lt.mpr (fa _))
end
noncomputable def vC(i j n:Nat):PyData:=.dict [(.none,.tuple [.int i,.int j,.int n])]
section
variable{X:Cx}{k:Nat}{env:Env}{ρ:List (Str×B)}{Q:Fl->List (Str×B)->Prop}
theorem x7(F:MF X){A:Around}{s:Shared}{pl:Sem Bool}{P:Value×List Value->Shared->Prop}(Kin:X.K.In s.heap)(h:P (.builtin "tuple.__new__",[]) {s with toks:=s.toks+1}):wpAny (model X.prog X.w) A (getMethod (.type "tuple") "__new__" pl) P g8 s:=by
 have hstub:opaqueClassAbove (.type "tuple")=pure none:=by delta opaqueClassAbove;dsimp only;rw[show Manifest.isStub "tuple"=false by decide+kernel];rfl
 have ht:typeOf (.type "tuple")=pure (.type "type"):=by first|rfl|kernel_rfl
 have L0:Looks (model X.prog X.w) s.heap (typeOf (.type "tuple")) (.type "type"):=ek ht
 have hg:findIn X.K (.type "type") "__getattribute__"=some (some (.builtin "type.__getattribute__")):=type_tga
 delta getMethod specialOf
 refine aA (aA (L0.here ((eT Kin hg).here ?_)))
 dsimp only
 rw[aN canon_tga]
 refine aA (aF (Q:=fun v=>P (v,[])) (E:=g8) ?_ (fun _ _ z=>aC z) fun _ _ z=>z)
 have LO:Looks (model X.prog X.w) s.heap (opaqueClassAbove (.type "tuple")) none:=ek hstub
 refine cls_open Kin LO L0 hg (looks_hook Kin (r:=none) (by rfl)) (by show subIn X.K _ _=_;rfl) F.tnew ?_
 exact aC (by show wpAny _ _ (handedOut (.builtin "tuple.__new__")) _ _ _;rw[handedOut_of (by decide+kernel)];exact aC h)
theorem wy(F:MF X)(ht:X.gl ("tuple":Str)=some (.type "tuple")){p apos pos:Pos}{pl:Sem Bool}{e e':Expr}{ds:List PyData}(hk:env.kindOf ("tuple":Str)=some .globalImplicit)(he:qQ X k env ρ e (.ref 135))(he':Ev X k env ρ e' (.tuple ds))(hz:ds.length<=sizeLine)(hev:autoParam (eval (.Call (.Attribute (.Name "tuple" p) "__new__" apos) [e,e'] [] pos) env=(do
   let ov<-eval (.Name "tuple" p) env
   standAt apos.atName let(f,first)<-holding [ov] (getMethod ov "__new__" pl)callWith pos f first (backTo pos (starEach [e,e'] env)) [])) aR)(hst:autoParam (starEach [e,e'] env=[(false,eval e env),(false,eval e' env)]) aR)(hst2:autoParam (starEach [e'] env=[(false,eval e' env)]) aR):Ev X k env ρ (.Call (.Attribute (.Name "tuple" p) "__new__" apos) [e,e'] [] pos) (.dict [(.none,.tuple ds)]):=fun A bad O s R r=>by
 refine MethodCall_ (g9 r ht hk ?_) hev
 refine x7 F (r.wf.kin.keeps r.base) ?_
 have x0:=gQ.toks s (s.toks+1)
 have r0:=r.ext x0
 refine bT ?_ (by rw[hst,hst2]) (by rw[hst2];rfl)
 refine af (he.use R r0 fun s1 x1 r1=>?_) (by rw[hst,hst2])
 refine af (he'.use R r1 fun v s2 x2 r2 q2=>?_) hst2
 refine a0 ?_
 refine q2.tupE fun T vs n hb ho qs=>?_
 have hl:vs.size=ds.length:=by rw[<-aE,qs.length]
 refine xr (F.looks (r2.wf.kin.keeps r2.base)) ho rfl rfl (by rw[hl];exact hz) fun h' l dd hk hl hnew=>?_
 have x3:gQ s2 {s2 with heap:=h'}:=⟨hk,rfl,rfl⟩
 exact⟨x0.trans (x1.trans (x2.trans x3)),.mt (i3 r2 hl) hnew (qs.ext x3)⟩
end
theorem zi{X:Cx}{k:Nat}(F:DF X)(G:MF X){A:Around}{bad:Addr->Prop}{s:Shared}{us:List Value}{i j n:Nat}(R:gG (k+1) A)(a:At X s)(low:∀a,bad a->∃o,s.heap.get? a=some o)(q:RepL bad s.heap [.int i,.int j,.int n] us):codeAny (model X.prog X.w) A (.call (.ref 82) ⟨.ref 135::us,[]⟩) (fun r s'=>∃v,r=.ok (.ret v)/\gQ s s'/\gF bad s'.heap (vC i j n) v) s:=by
 obtain⟨z,D⟩:=G.dnew
 have F':DF (X.on s.heap fun _ _=>False):=F.on a.base
 have G':MF (X.on s.heap fun _ _=>False):=G.on a.base
 refine q.consE fun _ _ q1 q=>q.twoE fun _ _ q2 q3=>?_
 refine au (lc (bad:=bad) (Dt:=fun _ _=>False) (bs:=[.raw (.ref 135),.val (.int i),.val (.int j),.val (.int n)]) (P:=fun fl _=>fl=.ret (vC i j n)) D R a low (fun _ _ e=>e.elim) (.cons (.raw _) (.cons (.val q1) (.cons (.val q2) (.cons (.val q3) .nil)))) rfl fun L=>?_) fun r s' h=>?_
 ·refine fe (ju ?_);refine fe (jb (d:=vC i j n) (wy G' F'.tuple rfl (gN (by k_mem)) (gV (fg (fc (d:=.int i) (by k_mem)) (fg (fc (d:=.int j) (by k_mem)) (fg (fc (d:=.int n) (by k_mem)) fq))) (by simp only[aM,aZ];decide)) (by simp only[aM,aZ];decide)) ⟨rfl,.inr ⟨_,rfl⟩⟩)
 ·refine Cy h ?_;rintro v fl ρ' O' L rfl rfl hv x r';exact⟨v,rfl,x,hv⟩
theorem vZ{prog:Program}{w:World}{A:Around}{s:Shared}{R:Result->Shared->Prop}{id owner n:String}{self:Value}{rest:List Value}{kw:List (Str×Value)}{b:Builtin}(hq:(Code.builtin id ⟨self::rest,kw⟩).quiet=true)(hb:entryFor table id=some b)(hk:builtinKind id=some .slot)(hs:splitId id=some (owner,n))(hi:Looks (model prog w) s.heap (isInstance self (.type owner)) true)(ha:argsOk id ⟨self::rest,kw⟩)(h:wpAny (model prog w) (A.under (.builtin id ⟨self::rest,kw⟩)) (b ⟨self::rest,kw⟩) (fun fin s'=>match fin with|.done f=>R (.ok f) s'|.again c'=>c'.quiet=true/\codeAny (model prog w) A c' R s') (fun e s'=>R (.error e) s') s):codeAny (model prog w) A (.call (.builtin id) ⟨self::rest,kw⟩) R s:=
 codeAny_call_builtin_at hq hb (check_slot hk hs hi ha h)
theorem lK{prog:Program}{w:World}{A:Around}{s:Shared}{R:Result->Shared->Prop}{id owner n:String}{self:Value}{rest:List Value}{b:Builtin}(hp:plainId id=true)(hb:entryFor table id=some b)(hk:builtinKind id=some .slot)(hs:splitId id=some (owner,n))(hi:Looks (model prog w) s.heap (isInstance self (.type owner)) true)(ha:argsOk id ⟨self::rest,[]⟩)(h:wpAny (model prog w) A.in1 (b ⟨self::rest,[]⟩) (fun fin s'=>match fin with|.done f=>R (.ok f) s'|.again c'=>c'.quiet=true/\codeAny (model prog w) A c' R s') (fun e s'=>R (.error e) s') s):codeAny (model prog w) A (.call (.builtin id) ⟨self::rest,[]⟩) R s:=
 et hp hb (check_slot hk hs hi ha h)
theorem yr(a b c d:Value):argsOk "object.__init__" ⟨[a,b,c,d],[]⟩:=by delta argsOk;kernel_rfl
theorem uX{X:Cx}{k:Nat}(F:DF X)(G:MF X){A:Around}{bad:Addr->Prop}{s:Shared}{us:List Value}{i j n:Nat}{Q:Value->Shared->Prop}(R:gG (k+2) A)(a:At X s)(low:∀a,bad a->∃o,s.heap.get? a=some o)(q:RepL bad s.heap [.int i,.int j,.int n] us)(h:∀v s',gQ s s'->gF bad s'.heap (vC i j n) v->Q v s'):wpAny (model X.prog X.w) A (call (.ref 135) us) Q g8 s:=by
 have Kin:=a.wf.kin.keeps a.base
 have L:=G.looks (M:=model X.prog X.w) Kin
 refine FT L.obj fun od cd sl hC hmro _=>?_
 have h82:∀{h':Heap},(∀b o,s.heap.get? b=some o->h'.get? b=some o)->X.K.In h':=fun hk=>Kin.keeps hk
 refine bO (codeAny_of_tree ?_)
 show wpAny _ _ (callAny (.ref 135) _) _ _ _
 refine nd_load hC ?_
 show wpAny _ _ (callAny.viaDunder (.ref 135) _) _ _ _
 delta callAny.viaDunder
 refine aA (L.call.here ?_)
 dsimp only
 rw[tc_bind]
 refine aA (aC (aA (aC ?_)))
 refine aC (a:=Fin.again (.call (.builtin "type.__call__") ⟨.ref 135::us,[]⟩)) (And.intro rfl ?_)
 refine vZ (Code.quiet_builtin _ (by decide+kernel)) entry_typeCall tc_kind tc_split L.typ (tc_args _ _ _) ?_
 have R':gG (k+1) (A.under (.builtin "type.__call__" ⟨.ref 135::us,[]⟩)):=R.tc 135 us []
 generalize A.under (.builtin "type.__call__" ⟨.ref 135::us,[]⟩)=A' at R'|-
 delta Builtin.«type.__call__»
 dsimp only
 rw[aL (by decide)]
 refine aA (L.mro.here ?_)
 rw[aL (by decide)]
 refine aA (L.made.here ?_)
 dsimp only
 refine aA ?_
 refine cls_bind Kin G.reads G.new (bO (sm_get (s:={s with toks:=s.toks+1}) Kin G.srec (handed_on rfl ?_)))
 refine aA (ah (bO ?_))
 have x0:=gQ.toks s (s.toks+1)
 refine au (zi F G (s:={s with toks:=s.toks+1}) R' (a.ext x0) low q) fun res s1 hr=>?_
 refine qe hr ?_;rintro v rfl x1 rv
 have rv':=rv
 revert rv'
 refine rv.mtE fun l dd vs m hb ho qs rv'=>?_
 have x01:=x0.trans x1
 have L1:=L.keeps x01.keep
 obtain⟨h1,g1,d1,t1,o1⟩:=s1
 have t1':Looks (model X.prog X.w) h1 (typeOf (.ref l)) (.ref 135):=(eU ho).andThen .now
 have ii:Looks (model X.prog X.w) h1 (isInstance (.ref l) (.ref 135)) true:=t1'.andThen L1.self
 have io:Looks (model X.prog X.w) h1 (isInstance (.ref l) (.type "object")) true:=t1'.andThen L1.top
 refine aA (ii.here ?_)
 simp only[dL,ae,bZ]
 refine aA (ah ?_)
 have fin:Q (.ref l) ⟨h1,g1,d1,t1,o1⟩:=h _ _ x01 rv'
 delta callSpecial? specialOf
 refine aA (aA (t1'.here (L1.init.here ?_)))
 dsimp only
 refine ah ?_
 rw[oi_bind]
 refine aA (aC ?_)
 dsimp only
 obtain⟨u1,u2,u3,rfl⟩:∃u1 u2 u3,us=[u1,u2,u3]:=by exact q.consE fun _ _ _ q=>q.twoE fun _ _ _ _=>⟨_,_,_,rfl⟩
 refine aA (bO (lK oi_plain entry_oi oi_kind oi_split io (yr _ _ _ _) ?_))
 delta Builtin.«object.__init__»
 have m1:=L1.made
 have i1:=L1.init
 dsimp only
 repeat(first|exact fin|simp only[eV,ae,bZ,fO,dL,beq_self_eq_true,Bool.not_false,List.isEmpty_cons,List.isEmpty_nil,cU,Bool.or_true,Bool.true_or,Bool.false_or]|lk)
theorem y6{X:Cx}{k:Nat}{env:Env}{ρ:List (Str×B)}(F:DF X)(G:MF X){p pos:Pos}{e e' e'':Expr}{i j n:Nat}(hk:env.kindOf ("Match":Str)=some .globalImplicit)(h:qy X (k+2) env ρ pos [e,e',e''] [.int i,.int j,.int n])(he:autoParam (starEach [e,e',e''] env=(false,eval e env)::starEach [e',e''] env) aR)(hplain:autoParam ((backTo pos (starEach [e',e''] env)).any (·.1)=false) aR):Ev X (k+2) env ρ (.Call (.Name "Match" p) [e,e',e''] [] pos) (vC i j n):=fun A bad O s R r=>by
 refine bE (g9 r F.mtch hk ?_)
 have h':=h A bad O s R r
 refine callWith_K (r.wf.kin.keeps r.base) G.keep (aF h' (fun vs s1 q=>?_) fun _ _ x=>x) he hplain
 have r1:=r.ext q.1
 exact⟨r1.wf.kin.keeps r1.base,uX F G R r1.at (gZ r1) q.2 fun v s2 x2 rv=>⟨q.1.trans x2,rv⟩⟩
theorem CQ:builtinKind "tuple.__iter__"=some .slot:=by decide+kernel
theorem ye:splitId "tuple.__iter__"=some ("tuple","__iter__"):=by decide+kernel
def D7(h:Heap)(it t:Addr)(i:Nat):Prop:=h.get? it=some {cls:=.type "tuple_iterator",data:=.fields #[.ref t,.int i 0]}
def oC(h:Heap)(t:Addr)(items:Array Value):Prop:=∃o n,h.get? t=some o/\o.data=.seq items n
section
variable{prog:Program}{w:World}{A:Around}{E:Value->Shared->Prop}{s:Shared}
theorem pV{self f:Value}{name:Str}{Q:Option (Value×List Value)->Shared->Prop}(hs:Looks (model prog w) s.heap (specialOf self name) (some f))(hb:bindSpecial f self=pure (f,[self]))(h:Q (some (f,[self])) s):wpAny (model prog w) A (bindSpecialIfBound? self name) Q E s:=by
 delta bindSpecialIfBound?
 refine aA (hs.here ?_)
 dsimp only
 rw[hb]
 refine aA (wpAny_askSetting ?_)
 refine wpAny_ite ?_
 split
 ·exact aA (aC (aC h))
 ·exact wpAny_tryCatch (aA (aC (aC h)))
theorem BO{t:Addr}{dd:Option Addr}{items:Array Value}{n:Nat}{Q:Value->Shared->Prop}(L:ML (model prog w) s.heap)(ho:s.heap.get? t=some {cls:=.ref 135,dict:=dd,data:=.seq items n}) (hQ:∀h' it,(∀b o,s.heap.get? b=some o->h'.get? b=some o)->s.heap.get? it=none->D7 h' it t 0->Q (.ref it) {s with heap:=h'}):wpAny (model prog w) A (pyIter (.ref t)) Q E s:=by
 obtain⟨hh,g,dr,tk,os⟩:=s
 have t1:Looks (model prog w) hh (typeOf (.ref t)) (.ref 135):=(eU ho).andThen .now
 have it1:=L.iter
 have iT:Looks (model prog w) hh (isInstance (.ref t) (.type "tuple")) true:=t1.andThen L.tup
 have bnd:=PySem.F.slot_tuple_iter.bind (.ref t)
 have fin:∀{P:Value->Shared->Prop},P (.ref hh.objs.size) ⟨hh.push {cls:=.type "tuple_iterator",data:=.fields #[.ref t,.int 0 0]},g,dr,tk,os⟩->wpAny (model prog w) A (call (.builtin "tuple.__iter__") [.ref t]) P E ⟨hh,g,dr,tk,os⟩:=fun hp=>by refine bO (lK PySem.F.slot_tuple_iter.plain PySem.F.entry_tuple_iter CQ ye iT (PySem.F.args_tuple_iter_1 _) ?_);show wpAny _ _ (do ret (<-newFields "tuple_iterator" [.ref t,rawInt 0])) _ _ _;exact aA (dn (aC hp))
 have done:∀(P:Value->Shared->Prop),Q (.ref hh.objs.size) ⟨hh.push {cls:=.type "tuple_iterator",data:=.fields #[.ref t,.int 0 0]},g,dr,tk,os⟩:=fun _=>hQ _ _ (fun b o e=>aG _ e) (iG _) (aT _ rfl)
 have nx:Looks (model prog w) (hh.push {cls:=.type "tuple_iterator",data:=.fields #[.ref t,.int 0 0]}) (specialOf (.ref hh.objs.size) "__next__") (some (.builtin "tuple_iterator.__next__")):=Looks.andThen (a:=.type "tuple_iterator") ((eU (aT _ rfl)).andThen .now) (ek br.lookup)
 delta pyIter
 refine aA ?_
 refine aA (t1.here (it1.here ?_))
 dsimp only
 refine aA ?_
 delta callSpecialIfBoundUnlessNone?
 refine ah (aA (pV (s:=⟨hh,g,dr,tk,os⟩) (t1.andThen it1) bnd ?_))
 dsimp only
 rw[aL (by decide)]
 refine aA (fin (aC ?_))
 dsimp only
 exact aA (nx.here (aC (done fun _ _=>True)))
theorem Az{it t:Addr}{i:Nat}{items:Array Value}{x:Value}{Q:Option Value->Shared->Prop}(hit:D7 s.heap it t i)(ht:oC s.heap t items)(hx:items[i]?=some x)(hQ:∀h',D7 h' it t (i+1)->Heap.SameBut it s.heap h'->Q (some x) {s with heap:=h'}):wpAny (model prog w) A (pyNext (.ref it)) Q E s:=by
 obtain⟨o,n,ho,hd⟩:=ht
 have hT:s.TypeIs (.ref it) "tuple_iterator":=⟨_,hit,rfl⟩
 delta pyNext
 refine aA (ej (cb (name:=Str.ofString "__next__") hT br (b7 br hT PySem.F.entry_tuple_iterator_next ?_ (PySem.F.args_tuple_iterator_next_1 _))))
 show wpAny _ _ (field (.ref it) 0>>=_) _ _ s
 refine aA (eL hit rfl (x:=.ref t) rfl ?_)
 show wpAny _ _ (if(Value.ref t==Value.none)=true then _ else _) _ _ s
 rw[aL (show¬((Value.ref t==Value.none)=true)from Bool.false_ne_true)]
 show wpAny _ _ (field (.ref it) 1>>=_) _ _ s
 refine aA (eL hit rfl (x:=.int i 0) rfl ?_)
 show wpAny _ _ (seqItems? (.ref t)>>=_) _ _ s
 refine aA (eW ho hd ?_)
 simp only[aq,hx]
 refine aA (wpAny_setField_rec hit (by simp) fun h' he' hs'=>aC ⟨x,rfl,aC (hQ h' ?_ hs')⟩)
 have e:((#[Value.ref t,Value.int (i:Int) 0]:Array Value).setIfInBounds 1 (rawInt ((i:Int)+1)))=#[.ref t,.int ((i+1:Nat):Int) 0]:=by simp[rawInt]
 rw[e]at he'
 exact he'
theorem Dw{it t:Addr}{i:Nat}{items:Array Value}{Q:Option Value->Shared->Prop}(hh:A.handled=none)(hit:D7 s.heap it t i)(ht:oC s.heap t items)(hx:items[i]?=none)(hQ:∀h',(∀b o,b≠it->s.heap.get? b=some o->h'.get? b=some o)->Q none {s with heap:=h'}):wpAny (model prog w) A (pyNext (.ref it)) Q E s:=by
 obtain⟨o,n,ho,hd⟩:=ht
 have hT:s.TypeIs (.ref it) "tuple_iterator":=⟨_,hit,rfl⟩
 delta pyNext
 refine aA (ej (cb (name:=Str.ofString "__next__") hT br (b7 br hT PySem.F.entry_tuple_iterator_next ?_ (PySem.F.args_tuple_iterator_next_1 _))))
 show wpAny _ _ (field (.ref it) 0>>=_) _ _ s
 refine aA (eL hit rfl (x:=.ref t) rfl ?_)
 show wpAny _ _ (if(Value.ref t==Value.none)=true then _ else _) _ _ s
 rw[aL (show¬((Value.ref t==Value.none)=true)from Bool.false_ne_true)]
 show wpAny _ _ (field (.ref it) 1>>=_) _ _ s
 refine aA (eL hit rfl (x:=.int i 0) rfl ?_)
 show wpAny _ _ (seqItems? (.ref t)>>=_) _ _ s
 refine aA (eW ho hd ?_)
 simp only[aq,hx]
 refine aA (ce (aA (wpAny_setField_rec hit (by simp) fun h' he' hs'=>?_)))
 show wpAny _ _ (newExc (.type "StopIteration") []>>=_) _ _ _
 refine aA ?_
 simp only[newExc,newTuple]
 refine aA (dn ?_ (by size_fits))
 refine aA (m:=firstArgMember _ _) (er (a:=Value.none) (by first|rfl|(simp only[firstArgMember];rfl)) ?_)
 refine dn ?_ (by size_fits)
 simp only[raiseNew]
 refine aA (wpAny_handled ?_)
 first|rw[show A.in1.handled=none from hh]|rw[hh]
 refine aA (aC (wpAny_throw ?_))
 refine aA (eh (T:="StopIteration") (b:=true) ⟨_,aT _ rfl,rfl⟩ isSubtype_stop ?_)
 exact aC (hQ _ fun b o hb e=>aG _ (aG _ (hs'.extBut b o hb e)))
theorem vt{it t:Addr}{items:Array Value}(hne:t≠it):∀(n i:Nat) (s:Shared) (Q:List Value->Shared->Prop),D7 s.heap it t i->oC s.heap t items->i+n<=items.size->(∀h',D7 h' it t (i+n)->Heap.SameBut it s.heap h'->Q ((items.toList.drop i).take n) {s with heap:=h'})->wpAny (model prog w) A (draw (.ref it) n) Q E s
 |0,i,s,Q,hit,_,_,hQ=>aC (by simpa using hQ s.heap hit (Heap.SameBut.refl ..))
 |n+1,i,s,Q,hit,ht,hle,hQ=>by
  have hlt:i<items.size:=by exact fu 0xf11201f2181a0a0f hle
  show wpAny _ _ (pyNext (.ref it)>>=_) Q E s;refine aA (Az hit ht (x:=items[i]) (by simp[hlt]) fun h₁ hit₁ hs₁=>?_);have ht₁:oC h₁ t items:=ht.imp fun _ h=>h.imp fun _ q=>⟨(hs₁.2 t hne).trans q.1,q.2⟩;refine aA (ah (vt hne n (i+1) _ _ hit₁ ht₁ (fu 0xf1121180aa0f2181a0a0f hle) fun h₂ hit₂ hs₂=>aC ?_));have hd:items.toList.drop i=items[i]::items.toList.drop (i+1):=by simp[dA,hlt]
  have:=hQ h₂ (by rw[show i+(n+1)=i+1+n by exact fk 0xf1f1f1180aa181a0a2ff];exact hit₂) (hs₁.trans hs₂);rw[hd,List.take_succ_cons]at this;exact this
theorem xf{t:Addr}{dd:Option Addr}{items:Array Value}{n:Nat}{Q:List Value->Shared->Prop}(hh:A.handled=none)(L:ML (model prog w) s.heap)(ho:s.heap.get? t=some {cls:=.ref 135,dict:=dd,data:=.seq items n}) (hQ:∀h',(∀b o,s.heap.get? b=some o->h'.get? b=some o)->Q items.toList {s with heap:=h'}):wpAny (model prog w) A (unpackItems (.ref t) items.size none) Q E s:=by
 have t1:Looks (model prog w) s.heap (typeOf (.ref t)) (.ref 135):=(eU ho).andThen .now
 have it1:Looks (model prog w) s.heap (specialOf (.ref t) "__iter__") (some (.builtin "tuple.__iter__")):=t1.andThen L.iter
 delta unpackItems
 refine aA ?_
 delta notIterableAtAll
 refine aA (it1.here ?_)
 refine aC ?_
 simp only[ae,bZ]
 refine aA (ah (BO L ho fun h1 it hk hn hit=>?_))
 have hne:t≠it:=fun e=>by rw[e,hn]at ho;cases ho
 have ht1:oC h1 t items:=⟨_,_,hk _ _ ho,rfl⟩
 refine aA (ah (vt hne items.size 0 _ _ hit ht1 (f5 0xf10008a0ff) fun h2 hit2 hs2=>?_))
 have hall:List.take items.size (List.drop 0 items.toList)=items.toList:=by rw[dT];exact ao (by simp)
 rw[hall,aL (by simp)]
 have ht2:oC h2 t items:=ht1.imp fun _ h=>h.imp fun _ q=>⟨(hs2.2 t hne).trans q.1,q.2⟩
 refine aA (ah (Dw hh hit2 ht2 (by simp) fun h3 he3=>?_))
 simp only[Option.isSome_none,ae,bZ]
 refine aC (hQ h3 fun b o e=>?_)
 have hb:b≠it:=fun z=>by rw[z,hn]at e;cases e
 exact he3 b o hb ((hs2.2 b hb).trans (hk b o e))
end
theorem uZ{X:Cx}{k:Nat}{env:Env}{ρ:List (Str×B)}(G:MF X){ts:List Expr}{n:Nat}{p:Pos}{ds:List PyData}{ρ':List (Str×B)}(h:zW X k env ρ ts ds ρ')(hn:(assignEach ts env).length=ds.length)(hstar:(assignEach ts env).findIdx? (·.1)=none):sk X k env ρ (.Tuple ts n p) (.dict [(.none,.tuple ds)]) ρ':=fun A bad O s v R r q=>by
 refine q.mtE fun t dd vs m hb ho qs=>?_
 have hl:vs.size=ds.length:=by rw[<-aE,qs.length]
 rw[arm_assign_Tuple]
 refine aA (cr ?_)
 delta unpack
 rw[hstar,hn,<-hl]
 refine aA (ah (xf R.handled (G.looks (r.wf.kin.keeps r.base)) ho fun h' hk=>?_))
 have x1:gQ s {s with heap:=h'}:=⟨hk,rfl,rfl⟩
 refine aF (h A bad O {s with heap:=h'} vs.toList R (r.ext x1) (qs.ext x1)) (fun _ s2 p=>?_) fun _ _ x=>x
 refine gR p fun O2 st2 r2=>?_
 exact⟨O2,(f8.of_ext x1).trans st2,r2⟩
section
variable{prog:Program}{w:World}{A:Around}{E:Value->Shared->Prop}{s:Shared}{O:KeyOrd}{ky:Keyed->O.α}{κ:SortKind}
theorem rZ{a:Addr}{vs:List Value}{n:Nat}{P:Fin->Shared->Prop}(ho:s.heap.get? a=some {cls:=.type "list",data:=.seq vs.toArray n}) (h64:vs.length<=5000) (hk:2<=vs.length->∀s':Shared,(∀b o,b≠a->s.heap.get? b=some o->s'.heap.get? b=some o)->∀(Q:SortKind->Shared->Prop),Q κ s'->wpAny (model prog w) A (keyKind' vs.toArray) Q E s') (hC:∀s':Shared,(∀b o,b≠a->s.heap.get? b=some o->s'.heap.get? b=some o)->nh (model prog w) A s' ky (pairsOf vs) κ) (h:∀h' (xs:Array Keyed)n',(∀b o,b≠a->s.heap.get? b=some o->h'.get? b=some o)->h'.get? a=some {cls:=.type "list",data:=.seq (xs.map (·.2)) n'}->xs.Perm (pairsOf vs)->jC ky xs 0 vs.length->P (.done (.ret .none)) {s with heap:=h'}):wpAny (model prog w) A (Builtin.«list.sort» ⟨[.ref a],[]⟩) P E s:=by
 rw[list_sort_plain]
 have ha:a<s.heap.objs.size:=am ho
 have keeps:∀b o,b≠a->s.heap.get? b=some o->(((s.heap.update a (Obj.mapSeq fun _=>#[])).push (seqObj "tuple" vs.toArray 0)).push (seqObj "list" #[] 0)).get? b=some o:=fun b o hb e=>aG _ (aG _ ((dO _ _ _ _ hb).trans e))
 have fin:∀st':SortSt,(arrOf st').Perm (pairsOf vs)->jC ky (arrOf st') 0 vs.length->P (.done (.ret .none)) {s with heap:=sortedHeap s.heap a vs ((arrOf st').map (·.2))}:=fun st' hp hs=>by obtain⟨e,he⟩:=sortedHeap_at (out:=(arrOf st').map (·.2)) ho;exact h _ (arrOf st') e (fun b o hb eb=>by rw[sortedHeap_old hb (am eb)];exact eb) he hp hs
 refine aA (listItems_at ho rfl ?_)
 refine aA (listUpdate_at ho rfl ?_ (hsz:=by show vs.toArray.size<=_;simp;rw[fR];exact f5 0xf1110000005900f13882900f h64))
 obtain⟨e1,ho1⟩:∃e1,(s.heap.update a (Obj.mapSeq fun _=>#[])).get? a=some (seqObj "list" #[] e1):=⟨_,get?_update_seq ho (fun _=>#[])⟩
 refine aA (seqEpoch_at ho1 rfl ?_)
 refine aA (wpAny_newTuple ?_ (hsz:=by simp;rw[fR];exact f5 0xf1110000005900f13882900f h64))
 refine aA (wpAny_newList ?_)
 refine ah ?_
 have ho6:(((s.heap.update a (Obj.mapSeq fun _=>#[])).push (seqObj "tuple" vs.toArray 0)).push (seqObj "list" #[] 0)).get? a=some (seqObj "list" #[] e1):=by rw[Heap.get?_push_ne _ _ _ (by rw[size_push',fX];exact bQ (ca ha)),Heap.get?_push_ne _ _ _ (by rw[fX];exact bQ ha)];exact ho1
 show wpAny (model prog w) A _ P E {s with heap:=((s.heap.update a (Obj.mapSeq fun _=>#[])).push (seqObj "tuple" vs.toArray 0)).push (seqObj "list" #[] 0)}
 dsimp only
 have hsz:vs.toArray.size=vs.length:=by simp
 by_cases h2:vs.toArray.size<2
 ·rw[aN h2,aN h2];refine aA (aC ?_);rw[StateT.run_pure];refine aA (aC ?_);dsimp only;refine aA (seqEpoch_at ho6 rfl ?_);refine aA (listUpdate_at ho6 rfl ?_ (hsz2:=by rw[Array.size_map];show(pairsOf vs).size<=_;rw[fY,fR];exact f5 0xf1118100000059a00f13882900f h64));simp only[eV,ae,bZ];refine aC (fin (SortSt.mk' general' (vs.toArray.zip vs.toArray) #[] 7 none) (Array.Perm.refl _) ?_);intro i j _ hij hj;have:i=j:=by exact gK 0xf10111f1001f322f108a313202801102f hsz h2 hij hj
  subst this;exact bF _
 ·rw[aL h2,aL h2];refine aA (hk (fk 0xf1811280f28016102f hsz h2) {s with heap:=((s.heap.update a (Obj.mapSeq fun _=>#[])).push (seqObj "tuple" vs.toArray 0)).push (seqObj "list" #[] 0)} keeps _ ?_);refine aA (aF (AH (ky:=ky) (κ:=κ) (a₀:=pairsOf vs) (st:=SortSt.mk' κ (vs.toArray.zip vs.toArray) #[] 7 none) (Q:=fun _ st'=>(arrOf st').Perm (pairsOf vs)/\failedOf st'=none/\jC ky (arrOf st') 0 vs.length) (hC _ keeps) ⟨Array.Perm.refl _,rfl,rfl⟩ rfl (by rw[fY];exact fk 0xf1811280f28016102f hsz h2) fun st' b1 b2=>⟨b1.perm,b1.failed,by rw[fY]at b2;exact b2⟩) ?_ fun _ _ e=>e);rintro⟨⟨⟩,st'⟩s' ⟨rfl,hp,hf,hs⟩;dsimp only;refine aA (seqEpoch_at ho6 rfl ?_);refine aA (listUpdate_at ho6 rfl ?_ (hsz2:=by refine bA (Nat.le_of_eq ((Array.size_map ..).trans (hp.size_eq.trans (fY _)))) ?_;rw[fR];exact f5 0xf1118100000059a00f13882900f h64));rw[hf];simp only[eV,ae,bZ];exact aC (fin st' hp hs)
end
noncomputable def gv:List Int->List Int->Bool
 |[],[]=>false
 |[],_::_=>true
 |_::_,[]=>false
 |a::as,b::bs=>if a=b then gv as bs else decide (a<b)
theorem nX:∀a,gv a a=false
 |[]=>rfl
 |a::as=>by unfold gv;rw[aN rfl];exact nX as
theorem oT:∀a b c,gv a b=true->gv b c=true->gv a c=true
 |[],[],c,h,_=>by cases h
 |[],b::bs,[],_,h=>by cases h
 |[],b::bs,c::cs,_,_=>rfl
 |a::as,[],c,h,_=>by cases h
 |a::as,b::bs,[],_,h=>by cases h
 |a::as,b::bs,c::cs,h,g=>by
  unfold gv at h g|-;by_cases e1:a=b
  ·subst e1;rw[aN rfl]at h;by_cases e2:a=c;·subst e2;rw[aN rfl]at g|-;exact oT _ _ _ h g
   ·rw[aL e2]at g|-;exact g
  ·rw[aL e1]at h;have h':=of_decide_eq_true h;by_cases e2:b=c;·subst e2;rw[aL e1];exact h
   ·rw[aL e2]at g;have g':=of_decide_eq_true g;rw[aL (by exact iz [] [_,_,_] 0xf1112056f214104f h' g')];exact bH (iz [] [_,_,_] 0xf111204f214104f h' g')
theorem rL:∀a b c,gv a c=true->gv a b=true\/gv b c=true
 |[],[],c,h=>.inr h
 |[],b::bs,c,_=>.inl rfl
 |a::as,b,[],h=>by cases h
 |a::as,[],c::cs,_=>.inr rfl
 |a::as,b::bs,c::cs,h=>by
  unfold gv at h|-;by_cases e1:a=b
  ·subst e1;rw[aN rfl];by_cases e2:a=c;·subst e2;rw[aN rfl]at h|-;exact rL _ _ _ h
   ·rw[aL e2]at h|-;exact .inr h
  ·rw[aL e1];by_cases e2:b=c;·subst e2;rw[aN rfl];rw[aL e1]at h;exact .inl h
   ·rw[aL e2];by_cases hab:a<b;·exact .inl (bH hab)
    ·refine .inr (bH ?_);by_cases e3:a=c;·exact iz [] [_,_,_] 0xf101f8011f214f10562051046f hab e3 e1
     ·rw[aL e3]at h;have:=of_decide_eq_true h;exact iz [] [_,_,_] 0xf111214f2041046f hab this
theorem kX:∀a b,gv a b=false->gv b a=false->a=b
 |[],[],_,_=>rfl
 |[],b::bs,h,_=>by cases h
 |a::as,[],_,h=>by cases h
 |a::as,b::bs,h,g=>by
  unfold gv at h g;by_cases e:a=b;·subst e;rw[aN rfl]at h g;rw[kX _ _ h g]
  ·rw[aL e]at h;rw[aL (fun x=>e x.symm)]at g;have h':=bu h;have g':=bu g;exact(iz [] [_,_] 0xf11f101f9f105601461046f h' g' e).elim
noncomputable def jT:KeyOrd:=⟨List Int,gv,nX,oT,rL,kX⟩
theorem DG(args:Args):Builtin.«tuple.__lt__» args=(do
  let(a,[b])<-slotArgs "__lt__" 1 args|unsupported "internal:tuple.compare"
  if !(<-isInstance b (.type "tuple"))then return<-ret .notImplemented
  let xs<-Builtin.Tuple.tupleItemsOf a let ys<-Builtin.Tuple.tupleItemsOf b
  for (x,y)in xs.toList.zip ys.toList do if !(<-eqBool x y)then rule "tuple.compare.by-the-first-pair-that-differs";return<-ret (<-richCompare .Lt x y)
  ret (Builtin.Tuple.tupleCompareSizes .Lt xs.size ys.size)):=rfl
section
variable{prog:Program}{w:World}{A:Around}{E:Value->Shared->Prop}{s:Shared}
theorem oK{a b:Int}{t u:Tok}{Q:Value->Shared->Prop}(h:Q (.bool (decide (a<b))) s):wpAny (model prog w) A (richCompare .Lt (.int a t) (.int b u)) Q E s:=
 wpAny_richCompare_same (typeIs_int s a t) (typeIs_int s b u) slot_int_lt (call_int_lt ⟨by simp,h⟩)
theorem qA{ys:List Value}{ms:List Int}(q:IntsAre ys ms):@List.casesOn _ (fun _=>Prop) ms (ys=[]) fun m ms=>∃u ys',ys=.int m u::ys'/\IntsAre ys' ms:=
 IntsAre.rec (motive:=fun ys ms _=>@List.casesOn _ (fun _=>Prop) ms (ys=[]) fun m ms=>∃u ys',ys=.int m u::ys'/\IntsAre ys' ms) rfl (fun _ t _ _ h _=>⟨t,_,rfl,h⟩) q
theorem zQ{f:Value×Value->Option Fin×Unit->Sem (ForInStep (Option Fin×Unit))}(hf:∀x y c,f (x,y) c=(do
   let b<-eqBool x y if(!b)=true then do
    rule "tuple.compare.by-the-first-pair-that-differs"let r<-richCompare .Lt x y let r<-ret r
    pure (.done (some r,()))else pure (.yield (none,())))){Q:Option Fin×Unit->Shared->Prop}{vs ws:List Value}{ns ms:List Int}(p:IntsAre vs ns):IntsAre ws ms->(∀r,(r=(none,())/\gv ns ms=decide (ns.length<ms.length))\/r=(some (.done (.ret (.bool (gv ns ms)))),())->Q r s)->wpAny (model prog w) A (forIn (vs.zip ws) ((none,()):Option Fin×Unit) f) Q E s:=by
 induction p generalizing ws ms with
 |nil=>intro q h;rw[List.zip_nil_left,List.forIn_nil];cases ms with
  |nil=>exact aC (h _ (.inl ⟨rfl,rfl⟩))|cons m ms=>exact aC (h _ (.inl ⟨rfl,rfl⟩))
 |cons n t hs ih=>intro q h;cases ms with
  |nil=>obtain rfl:=qA q;exact aC (h _ (.inl ⟨rfl,rfl⟩))|cons m ms=>
  obtain⟨u,ws',rfl,gs⟩:=qA q;rw[eI,dg,hf];refine aA (aA (wpAny_eqBool_int ?_));by_cases e:n=m
  ·subst e;rw[aL (by simp)];refine aC ?_;refine ih gs fun r hr=>h r ?_;unfold gv;rw[aN rfl];simpa using hr
  ·rw[aN (by simpa using e)];refine aA (ce (aA (oK ?_)));refine aA (aC (aC (aC (h _ (.inr ?_)))));unfold gv;rw[aL e]
theorem CK{a b:Addr}{o o':Obj}{vs ws:Array Value}{n n':Nat}{ns ms:List Int}{P:Fin->Shared->Prop}(ho:s.heap.get? a=some o)(hd:o.data=.seq vs n)(ho':s.heap.get? b=some o')(hd':o'.data=.seq ws n')(hi:Looks (model prog w) s.heap (isInstance (.ref b) (.type "tuple")) true)(hv:IntsAre vs.toList ns)(hw:IntsAre ws.toList ms)(h:P (.done (.ret (.bool (gv ns ms)))) s):wpAny (model prog w) A (Builtin.«tuple.__lt__» ⟨[.ref a,.ref b],[]⟩) P E s:=by
 rw[DG]
 refine aA (er (a:=(.ref a,[.ref b])) (by first|rfl|kernel_rfl) ?_)
 dsimp only
 refine aA (hi.here ?_)
 simp only[dL,ae,bZ]
 refine aA (fJ ho hd (aA (fJ ho' hd' ?_)))
 refine aA (zQ ?_ hv hw fun r hr=>?_)
 ·intro x y c;rfl
 ·rcases hr with⟨rfl,e⟩|rfl
  ·dsimp only;refine aC ?_;rw[e]at h;have l1:=hv.length;have l2:=hw.length;rw[aE]at l1 l2;delta Builtin.Tuple.tupleCompareSizes;rw[l1,l2];exact h
  ·exact aC h
end
noncomputable abbrev Mt:=Nat->Nat->Bool
def ve(m:Mt)(x y n:Nat):Prop:=∀t,t<n->m (x+t) (y+t)=true
def Ak(alo ahi blo bhi x y n:Nat):Prop:=alo<=x/\x+n<=ahi/\blo<=y/\y+n<=bhi
structure ku(m:Mt)(alo ahi blo bhi i j k:Nat):Prop where
 win:Ak alo ahi blo bhi i j k
 run:ve m i j k
 zero:k=0->i=alo/\j=blo
 best:∀x y n,0<n->Ak alo ahi blo bhi x y n->ve m x y n->n<k\/(n=k/\(i<x\/(i=x/\j<=y)))
theorem ku.unique{m:Mt}{alo ahi blo bhi i j k i' j' k':Nat}(h:ku m alo ahi blo bhi i j k)(h':ku m alo ahi blo bhi i' j' k'):i=i'/\j=j'/\k=k':=by
 rcases cx k with hk|hk
 ·rcases cx k' with hk'|hk';·obtain⟨a,b⟩:=h.zero hk;obtain⟨c,d⟩:=h'.zero hk';exact Dx 0xf801f81f8010001f1080001f801001f108001f102074276227f507236254232208120802f hk hk' a b c d
  ·have:=h.best i' j' k' hk' h'.win h'.run;exact jr 0xf1008f108f11ff181f180008f18008f1801ff1100f18008f1801ff1010f18008f1801ff1080f110f1801ff10254273227f540322732180127011810810802f hk hk' this
 ·rcases cx k' with hk'|hk';·have:=h'.best i j k hk h.win h.run;exact jr 0xf811f1008f108f11ff1100f81008f8101ff810008f81008f8101ff1080f110f8101ff1010f81008f8101ff10245272327f540322732181027101808120081f hk hk' this
  ·have a:=h.best i' j' k' hk' h'.win h'.run;have b:=h'.best i j k hk h.win h.run;exact jr 0xf1008f108f11ff1001f101f1008f108f11fff1000100f8010f81ff10080f1010f81ff1008f108f11fff1100f10080f1010f81ff1008f108f11fff1010f10080f1010f81ff1008f1010f11fff1080f110f1008f108f11fff01254273227f45023272318012701185403227321810271018f a b
noncomputable def rl(m:Mt)(alo blo:Nat):Nat->Nat->Nat
 |0,j=>if m 0 j then 1 else 0
 |i+1,j=>if m (i+1) j then(if alo<=i/\blo<j then rl m alo blo i (j-1)else 0)+1 else 0
theorem EE{m:Mt}{alo blo i j:Nat}(h:m i j=false):rl m alo blo i j=0:=by cases i<;>simp[rl,h]
theorem zM{m:Mt}{alo blo i j:Nat}(h:m i j=true):0<rl m alo blo i j:=by cases i<;>simp[rl,h]
theorem zG{m:Mt}{alo blo:Nat}:∀{i j:Nat},alo<=i->blo<=j->alo+rl m alo blo i j<=i+1/\blo+rl m alo blo i j<=j+1
 |0,j,h1,h2=>by
  unfold rl;split;·lia
  ·lia
 |i+1,j,h1,h2=>by
  unfold rl;split
  ·split
   ·rename_i h;have:=zG (m:=m) (alo:=alo) (blo:=blo) (i:=i) (j:=j-1) h.1 (fk 0xf1101200f101f1811 h.2);exact i8 0xf10018f101108ff101f181a183a0a018184aa183a2a07f185a30a0184a32a0101f1810 h.2 this.1 this.2
   ·exact gK 0xf101f11f183a1808a2a018181aa1808a0a07f320181a00f h1 h2
  ·exact gK 0xf101f11f183a082a018181aa080a07f320181a00f h1 h2
theorem AI{m:Mt}{alo blo:Nat}:∀{i j t:Nat},alo<=i->blo<=j->t<rl m alo blo i j->m (i-t) (j-t)=true
 |0,j,t,h1,h2,h=>by
  unfold rl at h;split at h
  ·rename_i hm;have:t=0:=by exact f5 0xf1f11f0802f1801f h
   subst this;exact hm
  ·exact(f5 0xf19f0801f h).elim
 |i+1,j,t,h1,h2,h=>by
  unfold rl at h;split at h;·rename_i hm;cases t with
   |zero=>exact hm|succ t=>
    split at h
    ·rename_i hb;have:=AI (m:=m) (alo:=alo) (blo:=blo) (i:=i) (j:=j-1) (t:=t) hb.1 (fk 0xf1101200f101f1811 hb.2) (fk 0xf11101f181a180a1f h);have e1:i+1-(t+1)=i-t:=by exact fk 0xf118f1008ff1108f10008fff181f1810ff108ff322ff100181a180a0
     have e2:j-(t+1)=j-1-t:=by exact fk 0xf1188f10008ff10088f100008fff11088f100008ff100088f1000008ffff1811f18110ff1810ff108ff422ff1301800181a00
     rw[e1,e2];exact this
    ·exact(f5 0xf19f1808a180a1f h).elim
  ·exact(f5 0xf19f0801f h).elim
theorem uQ{m:Mt}{alo blo:Nat}:∀{i j x y n:Nat},alo<=x->blo<=y->ve m x y n->0<n->x+n=i+1->y+n=j+1->n<=rl m alo blo i j
 |0,j,x,y,n,h1,h2,hr,hn,e1,e2=>by
  have:n=1:=by exact fk 0xf11f801f1802f1808a01a20081f hn e1
  subst this;have:=hr 0 (iz [] [] 0xf118081ff);have hx:x=0:=by exact f5 0xf1f81f0802f1808a180a2f e1
  have hy:y=j:=by exact fk 0xf11f81f102f181a180a2f e2
  subst hx hy;have:=zM (alo:=alo) (blo:=blo) this;simp only[eS]at this;exact f5 0xf110180f0081f this
 |i+1,j,x,y,n,h1,h2,hr,hn,e1,e2=>by
  have hm:m (i+1) j=true:=by have:=hr (n-1) (f5 0xf18f1108f011f0081f1800 hn);rwa [show x+(n-1)=i+1 by exact fu 0xf1011f10110ff8018f81108ff182a31a2f18182aa01a20081f1800 hn e1,show y+(n-1)=j by exact fu 0xf1011f10110ff8018f81108ff231a2f182a01a20081f1800 hn e2]at this
  unfold rl;rw[aN hm];rcases a9 1 n with hn1|hn1
  ·rw[aN (by exact uH 0xf180101f108011f6215007f4181186a43a218185aa41a2320100f h1 h2 e1 e2 hn1)];have:=uQ (m:=m) (alo:=alo) (blo:=blo) (i:=i) (j:=j-1) (x:=x) (y:=y) (n:=n-1) h1 h2 (fun t ht=>hr t (fk 0xf1011101f201f1811 ht)) (f5 0xf11011081f0181f1801 hn1) (fu 0xf111f10010ff818f18108ff182a30a2f118118182aa10a2f1810 e1 hn1) (fu 0xf1118f101108ff10010ff8181f81810ff10010ff184a30a2f1181182a10a2f18201810 e2 hn1);exact fk 0xf1101181a00f120f1801 this
  ·exact fk 0xf11181a00f1800f hn1
structure kM(m:Mt)(alo ahi blo bhi:Nat)(P:Nat->Nat->Prop)(bi bj bk:Nat):Prop where
 win:Ak alo ahi blo bhi bi bj bk
 run:ve m bi bj bk
 zero:bk=0->bi=alo/\bj=blo
 done:0<bk->P (bi+bk-1) (bj+bk-1)
 best:∀x y n,0<n->alo<=x->blo<=y->ve m x y n->P (x+n-1) (y+n-1)->n<bk\/(n=bk/\(bi<x\/(bi=x/\bj<=y)))
theorem kM.start{m:Mt}{alo ahi blo bhi:Nat}(h1:alo<=ahi)(h2:blo<=bhi):kM m alo ahi blo bhi (fun _ _=>False) alo blo 0:=
 ⟨⟨aH _,h1,aH _,h2⟩,fun t h=>absurd h (ew _),fun _=>⟨rfl,rfl⟩,fun h=>absurd h (cq _),fun _ _ _ _ _ _ _ h=>h.elim⟩
theorem kM.skip{m:Mt}{alo ahi blo bhi:Nat}{P P':Nat->Nat->Prop}{bi bj bk:Nat}(h:kM m alo ahi blo bhi P bi bj bk)(h1:∀x y,P x y->P' x y)(h2:∀x y,P' x y->P x y\/m x y=false):kM m alo ahi blo bhi P' bi bj bk:=
 ⟨h.win,h.run,h.zero,fun hk=>h1 _ _ (h.done hk),fun x y n hn hx hy hr hp=>by
  rcases h2 _ _ hp with hp|hm;·exact h.best x y n hn hx hy hr hp
  ·have:=hr (n-1) (f5 0xf18f1108f011f0081f1800 hn);rw[show x+(n-1)=x+n-1 by exact fk 0xf118f1008ff1108f10008fff181f1810ff11081f110810fff321a2f0081f1801a01800 hn,show y+(n-1)=y+n-1 by exact fk 0xf118f1008ff1108f10008fff181f1810ff11081f110810fff321a2f0081f1801a01800 hn,hm]at this;cases this⟩
theorem kM.step{m:Mt}{alo ahi blo bhi:Nat}{P:Nat->Nat->Prop}{bi bj bk i j:Nat}(h:kM m alo ahi blo bhi P bi bj bk)(hi:alo<=i)(hi':i<ahi)(hj:blo<=j)(hj':j<bhi)(hP:∀x y,P x y->x<i\/(x=i/\y<j)):if bk<rl m alo blo i j then kM m alo ahi blo bhi (fun x y=>P x y\/(x=i/\y=j)) (i+1-rl m alo blo i j) (j+1-rl m alo blo i j) (rl m alo blo i j)else kM m alo ahi blo bhi (fun x y=>P x y\/(x=i/\y=j)) bi bj bk:=by
 have hle:=zG (m:=m) hi hj
 split
 ·rename_i hk;refine⟨⟨by exact fu 0xf1101300f182a10a0f1182a1 hle.1,by exact gK 0xf118f11108f134a0f180a32a0101f3180a0 hi' hle.1,by exact fu 0xf1101300f182a10a0f1182a1 hle.2,by exact gK 0xf118f11108f134a0f180a32a0101f3180a0 hj' hle.2⟩,fun t ht=>?_,fun e=>by exact jr 0xf81000050723627f0812101f1184a11182a1 hk e,fun _=>.inr ⟨by exact fu 0xf111f1110ff1101f11010fff188f1008ff11088f10008fff242f182a10a0f1813a01182a0 hle.1,by exact fu 0xf111f1110ff1101f11010fff188f1008ff11088f10008fff242f182a10a0f1813a01182a0 hle.2⟩,fun x y n hn hx hy hr hp=>?_⟩;·have:=AI (m:=m) (t:=rl m alo blo i j-1-t) hi hj (fu 0xf118f101108f141f101f2311810 hk);rwa [show i-(rl m alo blo i j-1-t)=i+1-rl m alo blo i j+t by exact gK 0xf18818f1188108ff188108f11881008fff10100818f111008108ff101008108f1110081008ffff10108818f101100008ff101088108f1011000008fff101000818f1011000008ff1010008108f10110000008fffff11181f111810ff10008ff111081f1110810ff100008fff110081f1100810ff100008ff1100081f11000810ff1000008ffff307a62f131182a10a0f1182a05203401810 hle.1 ht,show j-(rl m alo blo i j-1-t)=j+1-rl m alo blo i j+t by exact gK 0xf18818f1188108ff188108f11881008fff10100818f111008108ff101008108f1110081008ffff10108818f101100008ff101088108f1011000008fff101000818f1011000008ff1010008108f10110000008fffff11181f111810ff10008ff111081f1110810ff100008fff110081f1100810ff100008ff1100081f11000810ff1000008ffff307a62f131182a10a0f1182a05203401810 hle.2 ht]at this
  ·rcases hp with hp|⟨e1,e2⟩;·have:=h.best x y n hn hx hy hr hp;exact iz [_,_,_,_,_,_,_,_,_] [] 0xf10000100008f1000010008f100001001ff11f10000100008f1000010008f100001001ff11f1000001008f100000108f10000011ff6370427274271812271218f6504327431802270218101f11817a111807a1 hk this
   ·have:=uQ (m:=m) (i:=i) (j:=j) hx hy hr hn (fu 0xf1018f11108ff8011f110ff182a01a2f2320081f1801a0 hn e1) (fu 0xf1018f11108ff8011f110ff182a01a2f2320081f1801a0 hn e2);rcases a9 n (rl m alo blo i j)with h'|h';·exact .inl h'
    ·refine .inr ⟨by exact fk 0xf101f11f102f010100f this h',.inr ⟨by exact gK 0xf1080111f11010ff10801101f110010fff110188f1111808ff108ff142f0303002520081f1801a03182a0 hn e1 this h',by exact i8 0xf110188f111808ff108f250f130462101f1832a01184a0 hk e2 this⟩⟩
 ·rename_i hk;refine⟨h.win,h.run,h.zero,fun hk=>.inl (h.done hk),fun x y n hn hx hy hr hp=>?_⟩;rcases hp with hp|⟨e1,e2⟩;·exact h.best x y n hn hx hy hr hp
  ·have:=uQ (m:=m) (i:=i) (j:=j) hx hy hr hn (fu 0xf1018f11108ff8011f110ff182a01a2f2320081f1801a0 hn e1) (fu 0xf1018f11108ff8011f110ff182a01a2f2320081f1801a0 hn e2);rcases a9 n bk with h'|h';·exact .inl h'
   ·have hd:=hP _ _ (h.done (fu 0xf11110081f12020811016f hk hn this));refine .inr ⟨by exact fu 0xf1001f111f022f2001201016f hk this h',?_⟩;exact iz [_,_,_,_,_,_,_,_,_] [] 0xf1100110000101010f101010010001081ff11001100001010010f10000000000081fff11f1010100100001808f101010010000181ff10111001000010808f10000000000081fff51703072730718f657144727447181206372427220811016f18017a118007a11825a11823a0 hk hn e1 e2 this hd
theorem kM.finish{m:Mt}{alo ahi blo bhi:Nat}{bi bj bk:Nat}(h:kM m alo ahi blo bhi (fun x y=>alo<=x/\x<ahi/\blo<=y/\y<bhi) bi bj bk):ku m alo ahi blo bhi bi bj bk:=
 ⟨h.win,h.run,h.zero,fun x y n hn hw hr=>h.best x y n hn hw.1 hw.2.2.1 hr (by obtain⟨a,b,c,d⟩:=hw;exact uH 0xf10000108f100011008ff100001008f1000110008fff1001101f10011010ff10011001f100110010fff10018f101108ff1111f11110ff6171174073071707107f605a0540302a02100081f1805a01802a0 hn a b c d)⟩
theorem ku.left{m:Mt}{alo ahi blo bhi i j k:Nat}(h:ku m alo ahi blo bhi i j k)(hi:alo<i)(hj:blo<j):m (i-1) (j-1)=false:=by
 obtain⟨⟨h1,h2,h3,h4⟩,hr,hz,hb⟩:=h
 cases e:m (i-1) (j-1)with
 |false=>rfl
 |true=>
  have hk:k≠0:=fun e=>by have:=hz e;exact fk 0xf819f012101f hi this.1
  have:=hb (i-1) (j-1) (k+1) (f5 0xf1180a081ff) ⟨by exact fk 0xf1101200f101f1811 hi,by exact gK 0xf1018f11108f3182a4a0f321a0101f1810 hi h2,by exact fk 0xf1101200f101f1811 hj,by exact gK 0xf1018f11108f3182a4a0f321a0101f1810 hj h4⟩ (fun t ht=>by cases t with|zero=>exact e|succ t=>have:=hr t (fk 0xf11101f181a180a1f ht);rwa [show i-1+(t+1)=i+t by exact fu 0xf11f110ff18f1108ff21a182a3a2f101f1810 hi,show j-1+(t+1)=j+t by exact fu 0xf11f110ff18f1108ff21a182a3a2f101f1810 hj]);exact(fu 0xf8f8f1f9f420312731180180a270180a18f18211811 this).elim
theorem ku.right{m:Mt}{alo ahi blo bhi i j k:Nat}(h:ku m alo ahi blo bhi i j k)(hi:i+k<ahi)(hj:j+k<bhi):m (i+k) (j+k)=false:=by
 obtain⟨⟨h1,h2,h3,h4⟩,hr,hz,hb⟩:=h
 cases e:m (i+k) (j+k)with
 |false=>rfl
 |true=>have:=hb i j (k+1) (f5 0xf1180a081ff) ⟨by exact fk 0xf11100f100f h1,by exact fu 0xf112181a0a0f210a1f hi,by exact fk 0xf11100f100f h3,by exact fu 0xf112181a0a0f210a1f hj⟩ (fun t ht=>by
   rcases a9 t k with h|h;·exact hr t h
   ·have:t=k:=by exact fk 0xf101f11f102f010181a01f ht h
    subst this;exact e);exact(fu 0xf8f8f1f9f220112711180180a270180a18f this).elim
section
variable{X:Cx}{k:Nat}{env:Env}{ρ:List (Str×B)}{Q:Fl->List (Str×B)->Prop}
def wQ(X:Cx)(k:Nat)(env:Env)(ρ:List (Str×B))(ts:List Expr)(vs:List Value)(P:List (Str×B)->Prop):Prop:=
 ∀(A:Around) (bad:Addr->Prop) (O:Str->Option Addr) (s:Shared),gG k A->gE X bad O env ρ s->wpAny (model X.prog X.w) A (assignInOrder ((assignEach ts env).map (·.2)) vs) (fun _ s'=>∃O' ρ',P ρ'/\f8 env O O' s s'/\gE X bad O' env ρ' s') g8 s
theorem xK{P:List (Str×B)->Prop}(h:P ρ):wQ X k env ρ [] [] P:=fun A bad O s R r=>aC ⟨O,ρ,h,f8.refl _ _ _,r⟩
theorem lN{t:Expr}{ts:List Expr}{v:Value}{vs:List Value}{P:List (Str×B)->Prop}(h:rD X k env ρ t v fun ρ₁=>wQ X k env ρ₁ ts vs P)(he:autoParam (assignEach (t::ts) env=(false,assign t env)::assignEach ts env) aR):wQ X k env ρ (t::ts) (v::vs) P:=fun A bad O s R r=>by
 rw[he,bJ]
 refine aA (ah (aF (h A bad O s R r) (fun _ s1 p=>?_) fun _ _ x=>x))
 refine jq p fun O1 ρ1 h1 st r1=>?_
 refine aF (h1 A bad O1 s1 R r1) (fun _ s2 p=>?_) fun _ _ x=>x
 refine jq p fun O2 ρ2 h2 st2 r2=>?_
 exact⟨O2,ρ2,h2,st.trans st2,r2⟩
theorem Bn{ts:List Expr}{e1 e2 e3 e4:Expr}{n n':Nat}{p p' pos:Pos}{v1 v2 v3:Value}{Po:Obj->Prop}(key:Str)(h1:qQ X k env ρ e1 v1)(h2:qQ X k env ρ e2 v2)(h3:qQ X k env ρ e3 v3)(h4:Cl X k env ρ e4 Po)(hq:∀l o,Po o->wQ X k env (put ρ key (.at l o)) ts [v1,v2,v3,.ref l] (Q .next))(hst:autoParam (starEach [e1,e2,e3,e4] env=[(false,eval e1 env),(false,eval e2 env),(false,eval e3 env),(false,eval e4 env)]) aR)(hst2:autoParam (starEach [e2,e3,e4] env=[(false,eval e2 env),(false,eval e3 env),(false,eval e4 env)]) aR)(hst3:autoParam (starEach [e3,e4] env=[(false,eval e3 env),(false,eval e4 env)]) aR)(hst4:autoParam (starEach [e4] env=[(false,eval e4 env)]) aR)(hn:autoParam ((assignEach ts env).length=4) aR)(hstar:autoParam ((assignEach ts env).findIdx? (·.1)=none) aR)(hs:autoParam (swapsWithSole [.Tuple ts n p] (.Tuple [e1,e2,e3,e4] n' p') pos.line env=pure false) aR)(hw:autoParam (swappedStores [.Tuple ts n p] (.Tuple [e1,e2,e3,e4] n' p') env=pure none) aR)(hm:autoParam ((assignEach [.Tuple ts n p] env).map (·.2)=[assign (.Tuple ts n p) env]) aR):jz X k env ρ (.Assign [.Tuple ts n p] (.Tuple [e1,e2,e3,e4] n' p') pos) Q:=fun A bad O s R r=>by
 refine cM (wpAny_Tuple ?_) hs hw
 refine af (h1.use R r fun s1 x1 r1=>?_) (by rw[hst,hst2])
 refine af (h2.use R r1 fun s2 x2 r2=>?_) (by rw[hst2,hst3])
 refine af (h3.use R r2 fun s3 x3 r3=>?_) (by rw[hst3,hst4])
 refine af (aF (h4 A bad O s3 R r3) (fun u s4 h=>?_) fun _ _ x=>x) hst4
 obtain⟨x4,l,o,rfl,hl,ho,_,hP⟩:=h
 refine a0 ⟨by simp only[aM,aZ];decide,?_⟩
 rw[hm]
 have x13:=x1.trans (x2.trans x3)
 have x5:gQ s3 {s4 with heap:=s4.heap.push {cls:=.type "tuple",data:=.seq [v1,v2,v3,.ref l].toArray}}:=x4.trans (gQ.push _ _)
 have hT:IsTup (s4.heap.push {cls:=.type "tuple",data:=.seq [v1,v2,v3,.ref l].toArray}) s4.heap.objs.size #[v1,v2,v3,.ref l]:=⟨_,aT _ rfl,rfl,_,rfl⟩
 refine fF R.handled hT (by rw[hn];rfl) hstar fun h' he=>?_
 have x6:gQ s3 {s4 with heap:=h'}:=x5.trans ⟨fun b o e=>he b o (bQ (am e)) e,rfl,rfl⟩
 obtain⟨st,r6⟩:=r3.at_new key x6 hl (he _ _ (bQ (by rw[dw];exact ca (am ho))) (aG _ ho))
 refine aF (hq l o hP A bad _ _ R r6) (fun _ s7 p=>?_) fun _ _ x=>x
 refine jq p fun O7 ρ7 h7 st7 r7=>?_
 exact⟨.next,ρ7,O7,h7,rfl,(f8.of_ext x13).trans (st.trans st7),r7⟩
theorem rg{e:Expr}{pos:Pos}{js:Addr}{led:Bool}(he:qQ X k env ρ e (.ref js))(hj:Bu X ρ js {cls:=.type "set",dict:=none,data:=.set #[] 0 (.fresh 0 0 led)}) (hev:autoParam (eval (.Attribute e "__contains__" pos) env=(do
   let o<-eval e env
   standAt pos.atName let r<-holding [o] (getAttr o "__contains__" true)letTemporaryGo e o r
   pure r)) aW):Cl X k env ρ (.Attribute e "__contains__" pos) (fun o'=>o'=hZ "set.__contains__" (.ref js)):=fun A bad O s R r=>by
 refine Attribute_any_ (he.use R r fun s1 x1 r1=>?_) hev
 refine mV (hj.get r1) rfl rfl (fun c e=>by cases e) PySem.F.slot_set_contains.lookup PySem.F.type_set_contains (by decide) yC s6 Ai Di ri t9 ?_
 exact⟨x1.trans ⟨fun b o e=>aG _ e,rfl,rfl⟩,_,_,rfl,x1.none (iG _),aT _ rfl,nJ r1 (aH _),rfl⟩
theorem BJ{x y key:Str}{px py p pos:Pos}{i e:Expr}{d:Addr}{o:Obj}{kvs:List (Int×Value)}{j v:Int}(he:Ev X k env ρ e (.int v))(hy:sO env y)(hx:fn (put ρ y (.val (.int v))) x (.raw (.ref d)))(hi:Ev X k env (put ρ y (.val (.int v))) i (.int j))(hk:fn (put ρ y (.val (.int v))) key (.at d o))(ho:o.IsDictOf (DK X) kvs)(hz:kvs.length<=sizeLine)(hq:∀o' t,o'.IsDictOf (DK X) (stored kvs j (.int v t))->Q .next (put (put ρ y (.val (.int v))) key (.at d o')))(hd:autoParam ((x==("__debug__":Str))=false) aD)(hns:∀a b c d,i≠.Slice a b c d:=by intro _ _ _ _ h;cases h) (hm:autoParam ((assignEach [.Name y py,.Subscript (.Name x px) i p] env).map (·.2)=[assign (.Name y py) env,assign (.Subscript (.Name x px) i p) env]) aR) (hw:autoParam (swappedStores [.Name y py,.Subscript (.Name x px) i p] e env=pure none) aR):jz X k env ρ (.Assign [.Name y py,.Subscript (.Name x px) i p] e pos) Q:=fun A bad O s R r=>
 ef (he.use R r fun u s1 x1 r1 q1=>by refine q1.intE fun t=>?_;refine cJ (k5 r1 hy (.int v t) fun s2 st2 r2=>?_);rw[assign_Subscript];refine aA (ah (bW (Lk.load r2.ok.kind (r2.raw x _ hx) ?_) hd));refine aA (ah (hi.use R r2 fun w s3 x3 r3 q3=>?_));refine q3.intE fun t'=>?_;refine aA (cr (aA (ah ?_)));refine wpAny_setItem_pairs (hsz:=hz) (fH _ _ j t') (nz r3 hk ho) fun h' hD' hs'=>?_;refine gR (Heap.dictOf_iff.mp hD') fun o' ho' hd'=>?_;obtain⟨st4,r4⟩:=r3.at_change (s':={s3 with heap:=h',toks:=s3.toks+1}) hk (fun b ob hb e=>(hs'.2 b hb).trans e) ho' rfl rfl;refine wpAny_releaseD ⟨.next,_,_,hq o' t hd',rfl,(f8.of_ext x1).trans (st2.trans ((f8.of_ext x3).trans st4)),r4⟩) hm hw
theorem uO{x:Str}{px apos cpos:Pos}{pl:Sem Bool}{e e':Expr}{d:Addr}{bs:List Int}{c:Int}(hx:fn ρ x (.raw (.ref d)))(hch:jS X X.h₀ bs d)(he:Ev X k env ρ e (.int c))(he':Ev X k env ρ e' (.list []))(hd:autoParam ((x==("__debug__":Str))=false) aD)(hev:autoParam (eval (.Call (.Attribute (.Name x px) "get" apos) [e,e'] [] cpos) env=(do
   let ov<-eval (.Name x px) env
   standAt apos.atName let(f,first)<-holding [ov] (getMethod ov "get" pl)callWith cpos f first (backTo cpos (starEach [e,e'] env)) [])) aR)(hst:autoParam (starEach [e,e'] env=[(false,eval e env),(false,eval e' env)]) aR)(hst2:autoParam (starEach [e'] env=[(false,eval e' env)]) aR):yh X k env ρ (.Call (.Attribute (.Name x px) "get" apos) [e,e'] [] cpos) ((iY bs bs.length c).map .int):=fun A bad O s R r=>by
 obtain⟨kvs,hD,hlow,hz,hc⟩:=hch
 refine MethodCall_ (bW (Lk.load r.ok.kind (r.raw x _ hx) ?_) hd) hev
 refine kx PySem.F.slot_dict_get PySem.F.type_dict_get (hD.keep r.base) ?_
 refine bT ?_ (by rw[hst,hst2]) (by rw[hst2];rfl)
 refine af (he.use R r fun v s1 x1 r1 q1=>?_) (by rw[hst,hst2])
 refine af (he'.use R r1 fun u s2 x2 r2 q2=>?_) hst2
 refine a0 ?_
 refine q1.intE fun t=>?_
 have D2:=hD.keep r2.base
 refine call_meetsIn PySem.F.slot_dict_get D2.typeIs PySem.F.entry_dict_get (PySem.F.args_dict_get_3 _ _ _) (meets_dict_get_default (DK X) d (fH _ _ c t) hlow u) ⟨_,D2.mapOf,?_⟩
 have x3:gQ s {s2 with toks:=s2.toks+1}:=(x1.trans x2).trans (gQ.toks s2 (s2.toks+1))
 show wpAny _ _ (pyIter ((valueAt kvs c).getD u)) _ _ _
 rcases hc c with⟨v,l,o,hv,rfl,ho,hio⟩|⟨hv,hp⟩
 ·rw[hv,Option.getD_some];obtain⟨vs,n,rfl,hil⟩:=hio;refine nV (bad:=bad) (O:=O) R x3 ((r.ext x3).base _ _ ho) hil.rep fun s4 I x4 t4=>?_;obtain⟨P,St,t4⟩:=t4;refine⟨x4,I,_,_,P,St,rfl,t4,fun b hb'=>?_⟩;simp at hb';rcases hb' with rfl|rfl;·exact .inl (by simp)
  ·refine .inr ⟨fun hp=>?_,fun y hy=>?_⟩;·have:=n8 r.frm hp;rw[ho]at this;cases this
   ·have:=(r.good y _ hy).2.1;rw[ho]at this;cases this
 ·rw[hv,hp,Option.getD_none,List.map_nil];refine q2.listE fun l us n hb g qs=>?_;refine nV R x3 (s1:={s2 with toks:=s2.toks+1}) g qs fun s4 I x4 t4=>?_;obtain⟨P,St,t4⟩:=t4;refine⟨x4,I,_,_,P,St,rfl,t4,fun b hb'=>?_⟩;simp at hb';rcases hb' with rfl|rfl;·exact .inl (by simp)
  ·exact .inr ⟨iE r2.frm g rfl,fun y hy=>hb (.inr ⟨y,hy⟩)⟩
end
noncomputable def mm(as bs:List Int):Mt:=fun x y=>match as[x]?,bs[y]? with
 |some a,some b=>a==b
 |_,_=>false
noncomputable def k7(bs:List Int)(c:Int):List Nat:=(List.range bs.length).filter fun j=>bs[j]?==some c
theorem tQ(bs:List Int)(c:Int):iY bs bs.length c=(k7 bs c).map fun j:Nat=>(j:Int):=rfl
theorem kF{bs:List Int}{c:Int}{y:Nat}:y∈k7 bs c↔bs[y]?=some c:=by
 delta k7
 rw[List.mem_filter,fK,ea]
 exact⟨fun h=>h.2,fun h=>⟨(List.getElem?_eq_some_iff.mp h).1,h⟩⟩
theorem oO(bs:List Int)(c:Int):(k7 bs c).Pairwise (·<·):=(List.pairwise_lt_range (n:=bs.length)).filter _
theorem vi{bs:List Int}{c:Int}{t j y:Nat}(h:(k7 bs c)[t]?=some j)(hy:y∈(k7 bs c).take t):y<j:=by
 have hs:=oO bs c
 obtain⟨h1,h2⟩:=List.getElem?_eq_some_iff.mp h
 obtain⟨i,hi,e⟩:=List.mem_iff_getElem.mp hy
 rw[bC]at hi
 rw[eP]at e
 have:=(List.pairwise_iff_getElem.mp hs) i t (fu 0xf1108f1118f201f301f213 hi) h1 (fu 0xf1118f1108f101f301f213 hi)
 rw[e,h2]at this
 exact this
theorem Aw{bs:List Int}{c:Int}{t j y:Nat}(h:(k7 bs c)[t]?=some j)(hy:y∈k7 bs c)(hn:y∉(k7 bs c).take t):j<=y:=by
 have hs:=oO bs c
 obtain⟨h1,h2⟩:=List.getElem?_eq_some_iff.mp h
 obtain⟨i,hi,e⟩:=List.mem_iff_getElem.mp hy
 rcases a9 i t with hit|hit
 ·exact absurd (List.mem_iff_getElem.mpr ⟨i,by rw[bC];exact fu 0xf11101f10101f321f021101f103 h1 hit,by rw[eP];exact e⟩) hn
 ·rcases Nat.eq_or_lt_of_le hit with rfl|hlt;·rw[e]at h2;exact fk 0xf11010f102f h2
  ·have:=(List.pairwise_iff_getElem.mp hs) t i h1 hi hlt;rw[e,h2]at this;exact fk 0xf11100f101f this
theorem iI{α:Type}{l:List α}{t:Nat}{j y:α}(h:l[t]?=some j):y∈l.take (t+1)↔y∈l.take t\/y=j:=by
 rw[cI,h,aY];simp
theorem EP{m:Mt}{alo blo r j:Nat}(h:m r j=true):rl m alo blo r j=(if alo<r/\blo<j then rl m alo blo (r-1) (j-1)else 0)+1:=by
 cases r with
 |zero=>simp[rl,h]
 |succ r=>rw[rl,aN h];simp only[cO,Nat.lt_succ_iff]
def DP(kvs:List (Int×Value))(S:Nat->Prop)(f:Nat->Nat):Prop:=∀z:Int,(∃(y:Nat) (t:Tok),z=y/\S y/\valueAt kvs z=some (.int (f y) t))\/(valueAt kvs z=none/\∀y:Nat,z=y->¬S y)
theorem DP.nil{f:Nat->Nat}{S:Nat->Prop}(h:∀y,¬S y):DP [] S f:=fun z=>.inr ⟨rfl,fun y _=>h y⟩
theorem DP.add{kvs:List (Int×Value)}{S S':Nat->Prop}{f:Nat->Nat}{j:Nat}{t:Tok}(h:DP kvs S f)(hj:¬S j)(hS:∀y,S' y↔S y\/y=j):DP (stored kvs j (.int (f j) t)) S' f:=fun z=>by
 have hn:valueAt kvs (j:Int)=none:=by
  rcases h j with⟨y,_,e,hy,_⟩|⟨e,_⟩
  ·have:y=j:=by exact fk 0xf81f11f012f1c0c5f e
   subst this;exact absurd hy hj
  ·exact e
 rw[kI _ _ _ hn]
 by_cases hz:z=j
 ·subst hz;exact .inl ⟨j,t,rfl,(hS j).mpr (.inr rfl),aN rfl⟩
 ·rw[aL hz];rcases h z with⟨y,t',e,hy,hv⟩|⟨e,hno⟩;·exact .inl ⟨y,t',e,(hS y).mpr (.inl hy),hv⟩
  ·refine .inr ⟨e,fun y ey hy=>?_⟩;rcases(hS y).mp hy with hy|rfl;·exact hno y ey hy
   ·exact hz ey
theorem DP.congr{kvs:List (Int×Value)}{S S':Nat->Prop}{f:Nat->Nat}(h:DP kvs S f)(hS:∀y,S' y↔S y):DP kvs S' f:=fun z=>by
 rcases h z with⟨y,t',e,hy,hv⟩|⟨e,hno⟩
 ·exact .inl ⟨y,t',e,(hS y).mpr hy,hv⟩
 ·exact .inr ⟨e,fun y ey hy=>hno y ey ((hS y).mp hy)⟩
structure FC(as bs:List Int)(va vb:Value)(d g js:Addr)(alo ahi blo bhi:Nat)(ρ:List (Str×B)):Prop where
 a:fn ρ "a" (.raw va)
 b:fn ρ "b" (.raw vb)
 b2j:fn ρ "b2j" (.raw (.ref d))
 isb:fn ρ "isbjunk" (.raw (.ref g))
 bg:fn ρ "#g" (.at g (hZ "set.__contains__" (.ref js)))
 alo:fn ρ "alo" (.val (.int alo))
 ahi:fn ρ "ahi" (.val (.int ahi))
 blo:fn ρ "blo" (.val (.int blo))
 bhi:fn ρ "bhi" (.val (.int bhi))
 no:fn ρ "nothing" (.val (.list []))
structure FB(bi bj bk:Nat)(ρ:List (Str×B)):Prop where
 i:fn ρ "besti" (.val (.int bi))
 j:fn ρ "bestj" (.val (.int bj))
 k:fn ρ "bestsize" (.val (.int bk))
theorem FC.pt{as bs:List Int}{va vb:Value}{d g js:Addr}{alo ahi blo bhi:Nat}{ρ:List (Str×B)}(C:FC as bs va vb d g js alo ahi blo bhi ρ){z:Str}{b:B}(h:(j6 "a" z&&(j6 "b" z&&(j6 "b2j" z&&(j6 "isbjunk" z&&(j6 "#g" z&&(j6 "alo" z&&(j6 "ahi" z&&(j6 "blo" z&&(j6 "bhi" z&&j6 "nothing" z)))))))))=true):FC as bs va vb d g js alo ahi blo bhi (put ρ z b):=by
 simp only[ad]at h
 refine F6 h fun h1 h2 h3 h4 h5 h6 h7 h8 h9 h10=>?_
 exact⟨hn C.a h1,hn C.b h2,hn C.b2j h3,hn C.isb h4,hn C.bg h5,hn C.alo h6,hn C.ahi h7,hn C.blo h8,hn C.bhi h9,hn C.no h10⟩
theorem FB.pt{bi bj bk:Nat}{ρ:List (Str×B)}(C:FB bi bj bk ρ){z:Str}{b:B}(h:(j6 "besti" z&&(j6 "bestj" z&&j6 "bestsize" z))=true):FB bi bj bk (put ρ z b):=by
 simp only[ad]at h
 exact⟨hn C.i h.1,hn C.j h.2.1,hn C.k h.2.2⟩
inductive u5(m:Mt)(alo ahi blo bhi:Nat)(P:Nat->Nat->Prop)(ρ:List (Str×B)):Prop
 |mk {bi bj bk:Nat}:FB bi bj bk ρ->kM m alo ahi blo bhi P bi bj bk->u5 m alo ahi blo bhi P ρ
inductive Cc(X:Cx)(d2:Addr)(S:Nat->Prop)(f:Nat->Nat)(n:Nat)(ρ:List (Str×B)):Prop
 |mk {o2:Obj}{kvs2:List (Int×Value)}:fn ρ "newj2len" (.raw (.ref d2))->fn ρ "#n" (.at d2 o2)->o2.IsDictOf (DK X) kvs2->kvs2.length<=n->DP kvs2 S f->Cc X d2 S f n ρ
structure FE(r:Nat)(gh d1:Addr)(o1:Obj)(ρ:List (Str×B)):Prop where
 i:fn ρ "i" (.val (.int r))
 g:fn ρ "j2lenget" (.raw (.ref gh))
 h:fn ρ "#h" (.at gh (hZ "dict.get" (.ref d1)))
 o:fn ρ "#o" (.at d1 o1)
theorem FE.pt{r:Nat}{gh d1:Addr}{o1:Obj}{ρ:List (Str×B)}(C:FE r gh d1 o1 ρ){z:Str}{b:B}(h:(j6 "i" z&&(j6 "j2lenget" z&&(j6 "#h" z&&j6 "#o" z)))=true):FE r gh d1 o1 (put ρ z b):=by
 simp only[ad]at h
 exact⟨hn C.i h.1,hn C.g h.2.1,hn C.h h.2.2.1,hn C.o h.2.2.2⟩
section
variable{X:Cx}{k:Nat}{L f:Addr}{z:Value×Value×Value×Value}{as bs:List Int}{va vb:Value}{d g js:Addr}{alo ahi blo bhi:Nat}
noncomputable abbrev mu(z:Value×Value×Value×Value)(L:Addr):Env:=callEnvC (ub 6 "find_longest_match" z) L 196
noncomputable abbrev Cj(i:Nat):Stmt:=(fm (kj 6)).getD i (.Pass ⟨0,0,0,0⟩)
abbrev Rows(alo blo bhi r:Nat):Nat->Nat->Prop:=fun x y=>alo<=x/\x<r/\blo<=y/\y<bhi
abbrev y5(alo blo bhi r:Nat)(S:Nat->Prop):Nat->Nat->Prop:=fun x y=>(alo<=x/\x<r/\blo<=y/\y<bhi)\/(x=r/\blo<=y/\y<bhi/\S y)
structure FN(X:Cx)(as bs:List Int)(va vb:Value)(d g js:Addr)(alo ahi blo bhi r:Nat)(S:Nat->Prop)(n:Nat)(d2:Addr)(ρ:List (Str×B)):Prop where
 c:FC as bs va vb d g js alo ahi blo bhi ρ
 best:u5 (mm as bs) alo ahi blo bhi (y5 alo blo bhi r S) ρ
 new:Cc X d2 (fun y=>blo<=y/\y<bhi/\S y) (rl (mm as bs) alo blo r) n ρ
set_option tactic.hygienic true in
theorem uu (hdata:X.dat (.list (as.map .int)) va) (hdatb:X.dat (.list (bs.map .int)) vb) (hch:jS X X.h₀ bs d) (h1:alo<=ahi) (h2:ahi<=as.length) (h3:blo<=bhi) (h4:bhi<=bs.length) (hza:as.length<=sizeLine) (hz:bs.length+1<=sizeLine) {r:Nat}(hr1:alo<=r) (hr2:r<ahi) {d1 d2 gh:Addr}{o1:Obj}{kvs1:List (Int×Value)}(ho1:o1.IsDictOf (DK X) kvs1) (hlow1:(d1==sysModules)=false) (hdp:DP kvs1 (fun y=>alo<r/\blo<=y/\y<bhi/\mm as bs (r-1) y=true) (rl (mm as bs) alo blo (r-1))) {ρ:List (Str×B)}{Q:Fl->List (Str×B)->Prop}(J:FN X as bs va vb d g js alo ahi blo bhi r (fun _=>False) 0 d2 ρ) (E:FE r gh d1 o1 ρ) (hq:∀ρ',FN X as bs va vb d g js alo ahi blo bhi r (fun y=>mm as bs r y=true) bs.length d2 ρ'->Q .next ρ') {tgt:Expr}{it:Expr}{body:List Stmt}{pos:Pos}(hst:autoParam ((fh (iQ (Cj 7)) 2)=.For tgt it body [] pos) aR):jz X k (mu z L) ρ (fh (iQ (Cj 7)) 2) Q:=by
 have hra:r<as.length:=by exact fu 0xf111121f021100f h2 hr2
 obtain⟨c,hc⟩:∃c,as[r]?=some c:=⟨_,aK hra⟩
 have hm:∀y,mm as bs r y=true↔bs[y]?=some c:=fun y=>by delta mm;rw[hc];cases e:bs[y]? with|none=>simp|some b=>simp only[ea,dm];exact eq_comm
 have ec:as.getD r 0=c:=by rw[a8,hc];rfl
 have JC:=J.c
 refine ip (items:=(iY bs bs.length c).map .int) (uO JC.b2j hch (jM (n:=(r:Int)) (d:=.int c) (gH (lg (gN JC.a) hdata)) (fc E.i) (fk 0xf11c0ce3ff) (by rw[aB];exact fk 0xf111c0c4f101f hra) (by rw[aB];exact hza) (by rw[<-ec];exact pj hra)) (fc JC.no)) (fun t ρ=>FN X as bs va vb d g js alo ahi blo bhi r (fun y=>y∈(k7 bs c).take t) t d2 ρ/\FE r gh d1 o1 ρ) ?_ ?_ ?_
 ·refine⟨⟨J.c,?_,?_⟩,E⟩;·obtain⟨fb,fi⟩:=J.best;exact⟨fb,fi.skip (fun x y h=>h.imp id fun h=>h.2.2.2.elim) (fun x y h=>.inl (h.imp id fun h=>by simp at h))⟩
  ·obtain⟨a1,a2,a3,a4,a5⟩:=J.new;exact⟨a1,a2,a3,a4,a5.congr fun y=>by simp⟩
 ·intro t dd ρ' ht JE Q1 H1;rw[tQ,cK,aS]at ht;refine gR (Option.map_eq_some_iff.mp ht) fun j hpt hdd=>?_;obtain rfl:PyData.int (j:Nat)=dd:=hdd;clear ht;have hjm:bs[j]?=some c:=kF.mp (ay hpt);have hjl:j<bs.length:=(List.getElem?_eq_some_iff.mp hjm).1;have htl:t<bs.length:=by
   have h1:=(List.getElem?_eq_some_iff.mp hpt).1;have h2:(k7 bs c).length<=bs.length:=by delta k7;exact bA (di _ _) (by simp)
   exact fu 0xf111201f210101f h1 h2
  have hmj:mm as bs r j=true:=(hm j).mpr hjm;obtain⟨⟨C,⟨fb,fi⟩,⟨a1,a2,a3,a4,a5⟩⟩,E'⟩:=JE;rename_i bi bj bk o2 kvs2;refine⟨_,fo (.inl rfl),?_⟩;have C:=C.pt (z:="j") (b:=.val (.int j)) rfl;have E:=E'.pt (z:="j") (b:=.val (.int j)) rfl;have fb:=fb.pt (z:="j") (b:=.val (.int j)) rfl;have a1:=hn (x:="j") (b:=.val (.int j)) a1 rfl;have a2:=hn (x:="j") (b:=.val (.int j)) a2 rfl;have hj:fn (put ρ' "j" (.val (.int j))) "j" (.val (.int j)):=hs;generalize put ρ' "j" (.val (.int j))=ρ1 at*;refine fe (gu (f0 (fc hj) (fc C.blo) rfl) (fun e=>?_) (fun e=>fj ?_))
  ·simp only[aQ]at e;have e':j<blo:=by exact fk 0xf11101f1c0c4f e
   refine fe (sf (H1.cont ⟨⟨C,⟨fb,fi.skip (fun x y h=>h.imp id fun h=>⟨h.1,h.2.1,h.2.2.1,(iI hpt).mpr (.inl h.2.2.2)⟩) (fun x y h=>.inl (h.imp id fun h=>⟨h.1,h.2.1,h.2.2.1,((iI hpt).mp h.2.2.2).resolve_right (fu 0xf1180226f210101f e' h.2.1)⟩))⟩,⟨a1,a2,a3,by exact fk 0xf11181a00f100f a4,a5.congr fun y=>?_⟩⟩,E⟩));rw[iI hpt];constructor
   ·rintro⟨x1,x2,x3|x3⟩;·exact⟨x1,x2,x3⟩
    ·exact(fu 0xf8119f022210101f e' x1 x3).elim
   ·rintro⟨x1,x2,x3⟩;exact⟨x1,x2,.inl x3⟩
  simp only[az]at e;have hbj:blo<=j:=by exact fk 0xf11010f1c0c46f e
  refine fe (gu (f0 (fc hj) (fc C.bhi) rfl) (fun e=>?_) (fun e=>fj ?_))
  ·simp only[aQ]at e;have e':bhi<=j:=by exact fk 0xf11100f1c0c3f e
   have key:∀y,y<bhi->mm as bs r y=true->y∈(k7 bs c).take t:=fun y hy hmy=>by
    rcases Classical.em (y∈(k7 bs c).take t)with h|h;·exact h
    ·have:=Aw hpt (kF.mpr ((hm y).mp hmy)) h;exact(fu 0xf1119f210021100f e' hy this).elim
   refine fe (zA (H1.brk (hq _ ⟨C,⟨fb,fi.skip (fun x y h=>h.imp id fun h=>⟨h.1,h.2.1,h.2.2.1,(hm y).mpr (kF.mp (bU h.2.2.2))⟩) (fun x y h=>.inl (h.imp id fun h=>⟨h.1,h.2.1,h.2.2.1,key y h.2.2.1 h.2.2.2⟩))⟩,⟨a1,a2,a3,by exact fu 0xf111120f020101f htl a4,a5.congr fun y=>?_⟩⟩)));constructor;·rintro⟨x1,x2,x3⟩;exact⟨x1,x2,key y x2 x3⟩
   ·rintro⟨x1,x2,x3⟩;exact⟨x1,x2,(hm y).mpr (kF.mp (bU x3))⟩
  simp only[az]at e;have hbh:j<bhi:=by exact fk 0xf11011f1c0c36f e
  have hrlp:=zM (alo:=alo) (blo:=blo) hmj;have hrle:=zG (m:=mm as bs) (alo:=alo) (blo:=blo) hr1 hbj;have hreq:=EP (alo:=alo) (blo:=blo) hmj;generalize hK:rl (mm as bs) alo blo r j=K at hrlp hrle hreq;have hget:(∀v,valueAt kvs1 ((j:Int)-1)=some v->∃t,v=.int ((K:Int)-1) t)/\(valueAt kvs1 ((j:Int)-1)=none->(K:Int)-1=0):=by
   rcases hdp ((j:Int)-1)with⟨y,t',ey,⟨s1,s2,s3,s4⟩,hv⟩|⟨hv,hno⟩
   ·have hy:y=j-1:=by exact fk 0xf818f108ff111f1110ff212f1c180cd5f1800 ey
    subst hy;rw[aN (by exact gK 0xf110001f1001f2311017f4304c182cd5101f1821 s1 ey s2)]at hreq;refine⟨fun v hv'=>?_,fun hn=>by rw[hv]at hn;cases hn⟩;rw[hv]at hv';cases hv';exact⟨t',by rw[hreq];congr 1;push_cast;exact f5 0xf1f1f18180cad0c5ff⟩
   ·refine⟨fun v hv'=>(by rw[hv]at hv';cases hv'),fun _=>?_⟩;split at hreq
    ·rename_i hcond;have hnm:mm as bs (r-1) (j-1)=false:=by cases em:mm as bs (r-1) (j-1)with
      |false=>rfl|true=>exact absurd ⟨hcond.1,by exact fk 0xf1101200f101f1811 hcond.2,by exact fk 0xf1011121f101f1801 hbh,em⟩ (hno (j-1) (fk 0xf18f1108ff11f110ff2c181cd5f101f1810 hcond.2))
     rw[EE hnm]at hreq;exact f5 0xf11f81f08180cd5f1808a02f hreq
    ·exact f5 0xf11f81f08180cd5f1808a02f hreq
  refine fe (BJ (key:="#n") (d:=d2) (o:=o2) (kvs:=kvs2) (j:=j) (v:=K) (fy (f7 (sY (g:=gh) (d:=d1) (o:=o1) (kvs:=kvs1) (i:=(j:Int)-1) (j:=0) (z:=(K:Int)-1) E.g (.inl ⟨"#h",E.h⟩) (.inl ⟨"#o",E.o⟩) ho1 hlow1 (jO (fc hj) ft) ft hget.1 hget.2) ft) (by congr 1;exact f5 0xf1f1f0c18180cda5ff)) (.inl rfl) (hn a1 rfl) (fc (hn hj rfl)) (hn a2 rfl) a3 (gK 0xf1111130f2300211180a0f hz htl a4) fun o3 t3 ho3=>?_);have C:=(C.pt (z:="k") (b:=.val (.int K)) rfl).pt (z:="#n") (b:=.at d2 o3) rfl;have E:=(E.pt (z:="k") (b:=.val (.int K)) rfl).pt (z:="#n") (b:=.at d2 o3) rfl;have fb:=(fb.pt (z:="k") (b:=.val (.int K)) rfl).pt (z:="#n") (b:=.at d2 o3) rfl;have a1:=hn (x:="#n") (b:=.at d2 o3) (hn (x:="k") (b:=.val (.int K)) a1 rfl) rfl;have a2:fn (put (put ρ1 "k" (.val (.int K))) "#n" (.at d2 o3)) "#n" (.at d2 o3):=hs;have hj:=hn (x:="#n") (b:=.at d2 o3) (hn (x:="k") (b:=.val (.int K)) hj rfl) rfl;have hk:fn (put (put ρ1 "k" (.val (.int K))) "#n" (.at d2 o3)) "k" (.val (.int K)):=hn hs rfl;generalize put (put ρ1 "k" (.val (.int K))) "#n" (.at d2 o3)=ρ2 at*;have hdp3:DP (stored kvs2 j (.int (K:Int) t3)) (fun y=>blo<=y/\y<bhi/\y∈(k7 bs c).take (t+1)) (rl (mm as bs) alo blo r):=by
   rw[<-hK];refine a5.add (fun h=>?_) fun y=>?_;·have:=vi hpt h.2.2;exact f5 0xf19f001f this
   ·rw[iI hpt];constructor
    ·rintro⟨x1,x2,x3|x3⟩;·exact .inl ⟨x1,x2,x3⟩
     ·exact .inr x3
    ·rintro(⟨x1,x2,x3⟩|rfl);·exact⟨x1,x2,.inl x3⟩
     ·exact⟨hbj,hbh,.inr rfl⟩
  have hlen3:(stored kvs2 j (.int (K:Int) t3)).length<=t+1:=by have:=stored_length_le kvs2 (j:Int) (.int (K:Int) t3);exact fu 0xf111181a20f180a20100f a4 this
  have hstep:=fi.step hr1 hr2 hbj hbh (fun x y h=>by
   rcases h with h|h;·exact gK 0xf1132110271018f101f h.2.1
   ·have:=vi hpt h.2.2.2;exact gK 0xf1001f11f801f32110271018f321102f h.1 this);rw[hK]at hstep;have hcells:∀{a b e:Nat},kM (mm as bs) alo ahi blo bhi (fun x y=>y5 alo blo bhi r (fun y=>y∈(k7 bs c).take t) x y\/(x=r/\y=j)) a b e->kM (mm as bs) alo ahi blo bhi (y5 alo blo bhi r (fun y=>y∈(k7 bs c).take (t+1))) a b e:=fun h=>h.skip (fun x y h=>by
    rcases h with(h|h)|⟨rfl,rfl⟩;·exact .inl h
    ·exact .inr ⟨h.1,h.2.1,h.2.2.1,(iI hpt).mpr (.inl h.2.2.2)⟩
    ·exact .inr ⟨rfl,hbj,hbh,(iI hpt).mpr (.inr rfl)⟩) (fun x y h=>by
    rcases h with h|⟨q1,q2,q3,q4⟩;·exact .inl (.inl (.inl h))
    ·rcases(iI hpt).mp q4 with h'|q5;·exact .inl (.inl (.inr ⟨q1,q2,q3,h'⟩))
     ·exact .inl (.inr ⟨q1,q5⟩));refine fe (gu (f0 (fc hk) (fc fb.k) rfl) (fun e=>?_) (fun e=>?_))
  ·simp only[aQ]at e;rw[aN (by exact fk 0xf11101f1c0c4f e)]at hstep;refine fe (lO (xs:=["besti","bestj","bestsize"]) (ds:=[.int (r+1-K:Nat),.int (j+1-K:Nat),.int K]) (gV (fg (fy (f7 (jO (fc E.i) (fc hk)) ft) (by congr 1;exact fu 0xf18f1108ff11f110ff3c181c2cda5f182a10a0f1182a0 hrle.1)) (fg (fy (f7 (jO (fc hj) (fc hk)) ft) (by congr 1;exact fu 0xf18f1108ff11f110ff3c181c2cda5f182a10a0f1182a0 hrle.2)) (fg (fc hk) fq))) (by simp only[aM,aZ];decide)) (gU (.inl rfl) (gU (.inl rfl) (gU (.inl rfl) kL))) (fj (fj ?_)) rfl rfl rfl);exact H1.next ⟨⟨((C.pt rfl).pt rfl).pt rfl,⟨⟨by k_mem,by k_mem,by k_mem⟩,hcells hstep⟩,⟨by k_mem,by k_mem,ho3,hlen3,hdp3⟩⟩,((E.pt rfl).pt rfl).pt rfl⟩
  ·simp only[az]at e;rw[aL (by exact fk 0xf111016f1c0c46f e)]at hstep;exact fj (fj (H1.next ⟨⟨C,⟨fb,hcells hstep⟩,⟨a1,a2,ho3,hlen3,hdp3⟩⟩,E⟩))
 ·rintro ρ' ⟨JN,_⟩;have hl:((iY bs bs.length c).map PyData.int).length=(k7 bs c).length:=by rw[tQ];simp
  rw[hl,d8]at JN;refine hq _ ⟨JN.c,?_,?_⟩;·obtain⟨fb,fi⟩:=JN.best;exact⟨fb,fi.skip (fun x y h=>h.imp id fun h=>⟨h.1,h.2.1,h.2.2.1,(hm y).mpr (kF.mp h.2.2.2)⟩) (fun x y h=>.inl (h.imp id fun h=>⟨h.1,h.2.1,h.2.2.1,kF.mpr ((hm y).mp h.2.2.2)⟩))⟩
  ·obtain⟨a1,a2,a3,a4,a5⟩:=JN.new;have hle:(k7 bs c).length<=bs.length:=by delta k7;exact bA (di _ _) (by simp)
   exact⟨a1,a2,a3,by exact fu 0xf111200f210100f a4 hle,a5.congr fun y=>by rw[kF,hm]⟩
end
theorem z4{as bs:List Int}{x y:Nat}(hx:x<as.length)(hy:y<bs.length):mm as bs x y=(as.getD x 0==bs.getD y 0):=by
 delta mm
 rw[a8,a8,aK hx,aK hy]
 rfl
theorem Cq{X:Cx}{k:Nat}{env:Env}{ρ:List (Str×B)}{value slice:Expr}{pos:Pos}{xs:List Int}{n:Nat}{i:Int}(hv:Ev X k env ρ value (.list (xs.map .int)))(hi:Ev X k env ρ slice (.int i))(hin:i=n)(hn:n<xs.length)(hz:xs.length<=sizeLine)(hs:autoParam (∀a u,subscripted slice false (.ref a) (.int i u)=operate [.ref a,.int i u] (getItem (.ref a) (.int i u))) aJ):Ev X k env ρ (.Subscript value slice pos) (.int (xs.getD n 0)):=by
 subst hin
 exact jM (gH hv) hi (fk 0xf11c0ce3ff) (by rw[aB];exact fk 0xf111c0c4f101f hn) (by rw[aB];exact hz) (pj hn) hs
section
variable{X:Cx}{k:Nat}{as bs:List Int}{va vb:Value}{d js:Addr}{alo ahi blo bhi:Nat}
inductive CT(X:Cx)(S:Nat->Prop)(f:Nat->Nat)(ρ:List (Str×B)):Prop
 |mk {d1:Addr}{o1:Obj}{kvs1:List (Int×Value)}:fn ρ "j2len" (.raw (.ref d1))->fn ρ "#o" (.at d1 o1)->o1.IsDictOf (DK X) kvs1->(d1==sysModules)=false->DP kvs1 S f->CT X S f ρ
set_option tactic.hygienic true in
theorem w5 (F:DF X) (G:MF X) {cd:ClassData}(hC:lU X.K 242 cd) {x dx:Addr}{m:Str->Option Value}{N:Nat}{led:Bool}{L:Addr}{z:Value×Value×Value×Value}(hx:X.h₀.get? x=some (instObj 242 dx)) (hdx:∃o,X.h₀.get? dx=some o/\gr o m N) (ha:m "a"=some va) (hva:handedIn va=true) (hb:m "b"=some vb) (hvb:handedIn vb=true) (hd:m "b2j"=some (.ref d)) (hj:m "bjunk"=some (.ref js)) (hjs:X.h₀.get? js=some {cls:=.type "set",dict:=none,data:=.set #[] 0 (.fresh 0 0 led)}) (hdata:X.dat (.list (as.map .int)) va) (hdatb:X.dat (.list (bs.map .int)) vb) (hch:jS X X.h₀ bs d) (h1:alo<=ahi) (h2:ahi<=as.length) (h3:blo<=bhi) (h4:bhi<=bs.length) (hza:as.length+1<=sizeLine) (hz:bs.length+1<=sizeLine):iP X (k+2) (mu z L) [("self",.raw (.ref x)),("alo",.val (.int alo)),("ahi",.val (.int ahi)),("blo",.val (.int blo)),("bhi",.val (.int bhi))] (fm (kj 6))
   fun fl _=>∃i j n,fl=.ret (vC i j n)/\ku (mm as bs) alo ahi blo bhi i j n:=by
 have hsl:sizeLine<2^30:=by decide
 have S:∀{ρ:List (Str×B)},lB X ρ 242 x dx "#d" m N:=⟨hx,.inr hdx⟩
 refine fe (ju ?_)
 refine fe (Bn "#g" (gX (key:="#d") (by k_mem) S hC (F.own "a" (by decide)).1 ha hva) (gX (key:="#d") (by k_mem) S hC (F.own "b" (by decide)).1 hb hvb) (gX (key:="#d") (by k_mem) S hC (F.own "b2j" (by decide)).1 hd) (rg (gX (key:="#d") (by k_mem) S hC (F.own "bjunk" (by decide)).1 hj) (.inr hjs)) fun g og hog=>lN (gy (.inl rfl) (lN (gy (.inl rfl) (lN (gy (.inl rfl) (lN (gy (.inl rfl) (xK ?_)))))))))
 subst hog
 refine fe (gu (b:=false) (oU (fc (d:=.int ahi) (by k_mem)) jH) (fun e=>by cases e) fun _=>fj ?_)
 refine fe (gu (b:=false) (oU (fc (d:=.int bhi) (by k_mem)) jH) (fun e=>by cases e) fun _=>fj ?_)
 refine fe (lO (xs:=["besti","bestj","bestsize"]) (ds:=[.int alo,.int blo,.int 0]) (gV (fg (fc (d:=.int alo) (by k_mem)) (fg (fc (d:=.int blo) (by k_mem)) (fg ft fq))) (by simp only[aM,aZ];decide)) (gU (.inl rfl) (gU (.inl rfl) (gU (.inl rfl) kL))) ?_ rfl rfl rfl)
 refine fe (mj "#o" qE fun d0 o0 hlow0 ho0=>gy (.inl rfl) ?_)
 subst ho0
 refine fe (gM (d:=.list []) (nQ fq (by simp)) (.inl rfl) ?_)
 refine fe (ip (items:=gO alo 1 ((ahi:Int)-alo).toNat) (lI F.range rfl (fc (d:=.int alo) (by k_mem)) (fc (d:=.int ahi) (by k_mem)) (gK 0xf11111f1f10000000000990c30c1000000000099e37f4000000069313182a0210100f h1 h2 hza hsl) (fu 0xf1111f1f10000000000990c30c1000000000099e37f4000000069212181a0100f h2 hza hsl)) (fun i ρ=>FC as bs va vb d g js alo ahi blo bhi ρ/\u5 (mm as bs) alo ahi blo bhi (Rows alo blo bhi (alo+i)) ρ/\CT X (fun y=>alo<alo+i/\blo<=y/\y<bhi/\mm as bs (alo+i-1) y=true) (rl (mm as bs) alo blo (alo+i-1)) ρ) ?_ ?_ ?_)
 ·refine⟨⟨by k_mem,by k_mem,by k_mem,by k_mem,by k_mem,by k_mem,by k_mem,by k_mem,by k_mem,by k_mem⟩,⟨⟨by k_mem,by k_mem,by k_mem⟩,(kM.start h1 h3).skip (fun _ _ h=>h.elim) fun x y h=>by exact(i8 0xf119f4313207080a1171007f h).elim⟩,⟨by k_mem,by k_mem,⟨#[],0,⟨rfl,rfl,rfl⟩,rfl,fun _ he=>by simp at he,.nil,by simp⟩,hlow0,DP.nil fun y h=>by exact f5 0xf19f080a01f h.1⟩⟩
 ·intro i dd ρ hi J Q1 H1;have hil:i<((ahi:Int)-alo).toNat:=by have:=(List.getElem?_eq_some_iff.mp hi).1;rwa [fx]at this
  rw[hH hil]at hi;obtain rfl:PyData.int ((alo+i:Nat):Int)=dd:=by cases hi;congr 1;exact fk 0xf1f1f1c01f0ca10ac5ff
  have hr:alo+i<ahi:=by exact fu 0xf1008f118f102a1f301f082c1cd5 hil
  clear hi;refine⟨_,fo (.inl rfl),?_⟩;refine qd J ?_;rintro JC ⟨fb,fi⟩ ⟨j1,j2,j3,j4,j5⟩;rename_i bi bj bk d1 o1 kvs1;have C:=JC.pt (z:="i") (b:=.val (.int (alo+i:Nat))) rfl;have fb:=fb.pt (z:="i") (b:=.val (.int (alo+i:Nat))) rfl;have j1:=hn (x:="i") (b:=.val (.int (alo+i:Nat))) j1 rfl;have j2:=hn (x:="i") (b:=.val (.int (alo+i:Nat))) j2 rfl;have hi:fn (put ρ "i" (.val (.int (alo+i:Nat)))) "i" (.val (.int (alo+i:Nat))):=hs;generalize put ρ "i" (.val (.int (alo+i:Nat)))=ρ1 at*;clear JC;refine fe (mj "#h" (Bj (d:=d1) (o:=o1) (kvs:=kvs1) j1 (.inl ⟨"#o",j2⟩) j3) fun gh oh _ hoh=>gy (.inl rfl) ?_);subst hoh;refine fe (mj "#n" qE fun d2 o2 hlow2 ho2=>gy (.inl rfl) ?_);subst ho2;refine fe (uu hdata hdatb hch h1 h2 h3 h4 (fk 0xf11100f1180a0f hza) hz (r:=alo+i) (fk 0xf110a00ff) hr (d1:=d1) (d2:=d2) (gh:=gh) (o1:=o1) (kvs1:=kvs1) j3 j4 j5 ⟨(((C.pt rfl).pt rfl).pt rfl).pt rfl,⟨(((fb.pt rfl).pt rfl).pt rfl).pt rfl,fi.skip (fun x y h=>.inl h) fun x y h=>.inl (h.elim id fun h=>h.2.2.2.elim)⟩,⟨by k_mem,by k_mem,⟨#[],0,⟨rfl,rfl,rfl⟩,rfl,fun _ he=>by simp at he,.nil,by simp⟩,aV _,DP.nil fun y h=>h.2.2⟩⟩ ⟨by k_mem,by k_mem,by k_mem,by k_mem⟩ fun ρ' JN=>?_);obtain⟨C,⟨fb,fi⟩,⟨a1,a2,a3,a4,a5⟩⟩:=JN;refine fe (ig (gN a1) (gy (.inl rfl) ?_));refine yH (x:="#n") (y:="#o") (a:=d2) (hn a2 rfl) (by decide) (fj (H1.next ?_));refine⟨((C.pt rfl).pt rfl).pt rfl,⟨((fb.pt rfl).pt rfl).pt rfl,fi.skip (fun x y h=>h.elim (fun h=>by exact jr 0xf10001f1001f101f11f5414307182a0a1171007f54143020a11100f h.1 h.2.1 h.2.2.1 h.2.2.2) fun h=>by exact jr 0xf1001f101f81f11f5414307182a1a0170107f54143021a02f h.1 h.2.1 h.2.2.1) fun x y h=>?_⟩,⟨by k_mem,by k_mem,a3,hlow2,?_⟩⟩
  ·rcases a9 x (alo+i)with hlt|hge;·exact .inl (.inl ⟨h.1,hlt,h.2.2.1,h.2.2.2⟩)
   ·have hxe:x=alo+i:=by exact jr 0xf100001f101f20a12f120a05414307182a0a1171007f h hge
    cases e:mm as bs x y with|false=>exact .inr rfl|true=>exact .inl (.inr ⟨hxe,h.2.2.1,h.2.2.2,hxe▸e⟩)
  ·refine a5.congr fun y=>?_;rw[show alo+(i+1)-1=alo+i by exact fk 0xf11f110ff18f108ff10a22ff18181a0a0];exact⟨fun h=>h.2,fun h=>⟨by exact fk 0xf1181a0a01ff,h⟩⟩
 ·rintro ρ ⟨JC,⟨fb,fi⟩,_⟩;rename_i bi bj bk;rw[fx]at fi;have best:ku (mm as bs) alo ahi blo bhi bi bj bk:=(fi.skip (P':=fun x y=>alo<=x/\x<ahi/\blo<=y/\y<bhi) (fun x y h=>by exact jr 0xf10001f1001f11008f1018ff11f541430721171007f541430760a1171007f080c2cd5 h) fun x y h=>.inl (jr 0xf10001f1001f10110f1011ff11f541430760a1171007f541430211100f080c2cd5 h.1 h.2.1 h.2.2.1 h.2.2.2)).finish;obtain⟨c1,c2,c3,c4,c5,c6,c7,c8,c9,c10⟩:=id JC;obtain⟨b1,b2,b3⟩:=id fb;have hw:=best.win;unfold Ak at hw;have WL:∀(test:Expr) (pos:Pos) (body:List Stmt),mM X (k+2) (mu z L) ρ test false->jz X (k+2) (mu z L) ρ (.While test body [] pos) fun f ρ'=>f=.next/\ρ'=ρ:=fun test pos body ht=>nc (fun _ ρ'=>ρ'=ρ) (n:=0) rfl (fun n ρ' e _ _=>by subst e;exact⟨false,ht,(fun e=>by cases e),fun _=>⟨rfl,rfl⟩⟩);have next:∀{st:Stmt}{ss:List Stmt}{Q:Fl->List (Str×B)->Prop},jz X (k+2) (mu z L) ρ st (fun f ρ'=>f=.next/\ρ'=ρ)->iP X (k+2) (mu z L) ρ ss Q->iP X (k+2) (mu z L) ρ (st::ss) Q:=fun h1 h2=>fe fun A bad O s R r=>aF (h1 A bad O s R r) (fun fl s' p=>by obtain⟨f,ρ',O',⟨rfl,rfl⟩,fi,st,r'⟩:=p;exact⟨.next,ρ',O',h2,fi,st,r'⟩) fun _ _ x=>x;have itB:∀{e:Expr}{pos:Pos}{p:Pos}{n:Nat}{i:Int}(_:Ev X (k+2) (mu z L) ρ e (.int i)) (_:i=n) (_:n<bs.length) (_:∀a u,subscripted e false (.ref a) (.int i u)=operate [.ref a,.int i u] (getItem (.ref a) (.int i u))),Ev X (k+2) (mu z L) ρ (.Subscript (.Name "b" p) e pos) (.int (bs.getD n 0)):=fun he hi hn hs=>Cq (lg (gN c2) hdatb) he hi hn (fk 0xf11100f1180a0f hz) hs;have itA:∀{e:Expr}{pos:Pos}{p:Pos}{n:Nat}{i:Int}(_:Ev X (k+2) (mu z L) ρ e (.int i)) (_:i=n) (_:n<as.length) (_:∀a u,subscripted e false (.ref a) (.int i u)=operate [.ref a,.int i u] (getItem (.ref a) (.int i u))),Ev X (k+2) (mu z L) ρ (.Subscript (.Name "a" p) e pos) (.int (as.getD n 0)):=fun he hi hn hs=>Cq (lg (gN c1) hdata) he hi hn (fk 0xf11100f1180a0f hza) hs;have hnj:∀{e:Expr}{p pos:Pos}{i:Int}(_:Ev X (k+2) (mu z L) ρ e (.int i)) (_:starEach [e] (mu z L)=[(false,eval e (mu z L))]),Ev X (k+2) (mu z L) ρ (.Call (.Name "isbjunk" p) [e] [] pos) (.bool false):=fun he hs=>yb c4 (.inl ⟨"#g",c5⟩) (.inr hjs) he (by decide) hs;refine next (WL _ _ _ (gd (gL (f0 (fc b1) (fc c6) rfl) fun q1=>gL (f0 (fc b2) (fc c8) rfl) fun q2=>gL (wV (k9 (hnj (itB (n:=bj-1) (jO (fc b2) ft) ?_ ?_ (by intro _ _;with_unfolding_all rfl)) rfl))) fun _=>gL (f0 (itA (n:=bi-1) (jO (fc b1) ft) ?_ ?_ (by intro _ _;with_unfolding_all rfl)) (itB (n:=bj-1) (jO (fc b2) ft) ?_ ?_ (by intro _ _;with_unfolding_all rfl)) rfl) fun _=>iw) ?_)) ?_;·simp only[aQ]at q1 q2;exact fk 0xf18f1108ff11f110ff2c181cd5f1c0c4f1810 q2
  ·simp only[aQ]at q1 q2;exact i8 0xf1118f111108f151f2c4c4032a0100f1820 h4 hw.2.2.2 q2
  ·simp only[aQ]at q1 q2;exact fk 0xf18f1108ff11f110ff2c181cd5f1c0c4f1810 q1
  ·simp only[aQ]at q1 q2;exact i8 0xf1118f111108f151f2c4c4032a0100f1820 h2 hw.2.1 q1
  ·simp only[aQ]at q1 q2;exact fk 0xf18f1108ff11f110ff2c181cd5f1c0c4f1810 q2
  ·simp only[aQ]at q1 q2;exact i8 0xf1118f111108f151f2c4c4032a0100f1820 h4 hw.2.2.2 q2
  ·rcases a9 alo bi with h1'|h1'
   ·rcases a9 blo bj with h2'|h2'
    ·have:=best.left h1' h2';rw[z4 (by exact i8 0xf1118f111108f151f241032a0100f1820 h2 hw.2.1 h1') (by exact i8 0xf1118f111108f151f241032a0100f1820 h4 hw.2.2.2 h2')]at this;rw[this];simp
    ·have:¬((blo:Int)<bj):=by exact fk 0xf110c1c46f100f h2'
     simp[this]
   ·have:¬((alo:Int)<bi):=by exact fk 0xf110c1c46f100f h1'
    simp[this]
  refine next (WL _ _ _ (gd (gL (f0 (f7 (fc b1) (fc b3)) (fc c7) rfl) fun q1=>gL (f0 (f7 (fc b2) (fc b3)) (fc c9) rfl) fun q2=>gL (wV (k9 (hnj (itB (n:=bj+bk) (f7 (fc b2) (fc b3)) ?_ ?_ (by intro _ _;with_unfolding_all rfl)) rfl))) fun _=>gL (f0 (itA (n:=bi+bk) (f7 (fc b1) (fc b3)) ?_ ?_ (by intro _ _;with_unfolding_all rfl)) (itB (n:=bj+bk) (f7 (fc b2) (fc b3)) ?_ ?_ (by intro _ _;with_unfolding_all rfl)) rfl) fun _=>iw) ?_)) ?_;·simp only[aQ]at q1 q2;exact fk 0xf1f1f10ac1c0ca5ff
  ·simp only[aQ]at q1 q2;exact gK 0xf111132a1f0c3c2ca4100f h4 q2
  ·simp only[aQ]at q1 q2;exact fk 0xf1f1f10ac1c0ca5ff
  ·simp only[aQ]at q1 q2;exact gK 0xf111132a1f0c3c2ca4100f h2 q1
  ·simp only[aQ]at q1 q2;exact fk 0xf1f1f10ac1c0ca5ff
  ·simp only[aQ]at q1 q2;exact gK 0xf111132a1f0c3c2ca4100f h4 q2
  ·rcases a9 (bi+bk) ahi with h1'|h1'
   ·rcases a9 (bj+bk) bhi with h2'|h2';·have:=best.right h1' h2';rw[z4 (by exact gK 0xf111132a1f032a1100f h2 h1') (by exact gK 0xf111132a1f032a1100f h4 h2')]at this;rw[this];simp
    ·have:¬((bj:Int)+bk<bhi):=by exact fu 0xf110c2c1ca46f21a00f h2'
     simp[this]
   ·have:¬((bi:Int)+bk<ahi):=by exact fu 0xf110c2c1ca46f21a00f h1'
    simp[this]
  refine next (WL _ _ _ (gd (gL (f0 (fc b1) (fc c6) rfl) fun q1=>gL (f0 (fc b2) (fc c8) rfl) fun q2=>gL (b:=false) (c:=true) (k9 (hnj (itB (n:=bj-1) (jO (fc b2) ft) ?_ ?_ (by intro _ _;with_unfolding_all rfl)) rfl)) fun e=>by cases e) ?_)) ?_;·simp only[aQ]at q1 q2;exact fk 0xf18f1108ff11f110ff2c181cd5f1c0c4f1810 q2
  ·simp only[aQ]at q1 q2;exact i8 0xf1118f111108f151f2c4c4032a0100f1820 h4 hw.2.2.2 q2
  ·simp
  refine next (WL _ _ _ (gd (gL (f0 (f7 (fc b1) (fc b3)) (fc c7) rfl) fun q1=>gL (f0 (f7 (fc b2) (fc b3)) (fc c9) rfl) fun q2=>gL (b:=false) (c:=true) (k9 (hnj (itB (n:=bj+bk) (f7 (fc b2) (fc b3)) ?_ ?_ (by intro _ _;with_unfolding_all rfl)) rfl)) fun e=>by cases e) ?_)) ?_;·simp only[aQ]at q1 q2;exact fk 0xf1f1f10ac1c0ca5ff
  ·simp only[aQ]at q1 q2;exact gK 0xf111132a1f0c3c2ca4100f h4 q2
  ·simp
  refine fe (jb (y6 F G rfl (fg (fc b1) (fg (fc b2) (fg (fc b3) fq)))) ⟨bi,bj,bk,rfl,best⟩)
end
noncomputable abbrev T3:=Nat×Nat×Nat
noncomputable def m0(t:T3):PyData:=vC t.1 t.2.1 t.2.2
noncomputable def pq(t:T3):List Int:=[t.1,t.2.1,t.2.2]
noncomputable def Cn:Value->Int
 |.int i _=>i
 |_=>0
noncomputable def iH(h:Heap)(x:Keyed):List Int:=match x.1 with
 |.ref a=>match h.get? a with
  |some o=>match o.data with
   |.seq vs _=>vs.toList.map Cn|_=>[]
  |none=>[]
 |_=>[]
theorem mq{M:Model}{h:Heap}{α β:Type}{f:α->Sem β}{g:α->β}:∀{vs:List α},(∀v∈vs,Looks M h (f v) (g v))->Looks M h (vs.mapM f) (vs.map g)
 |[],_=>by rw[List.mapM_nil];exact .now
 |v::vs,hv=>by rw[List.mapM_cons];exact(hv v bX).andThen ((mq fun u hu=>hv u (bv _ hu)).andThen .now)
def t8(h:Heap)(v:Value):Prop:=∃l dd xs n ns,v=.ref l/\h.get? l=some {cls:=.ref 135,dict:=dd,data:=.seq xs n}/\IntsAre xs.toList ns
section
variable{prog:Program}{w:World}{A:Around}{E:Value->Shared->Prop}{s:Shared}
theorem t8.typ{h:Heap}{v:Value}(m:t8 h v):Looks (model prog w) h (typeOf v) (.ref 135):=by
 obtain⟨l,dd,xs,n,ns,rfl,g,_⟩:=m
 exact(eU g).andThen .now
theorem yz{h:Heap}{v:Value}(m:t8 h v):Looks (model prog w) h (firstOfTuple' v) none:=by
 show Looks _ _ (do
  if(<-typeOf v)!=.type "tuple"then return none
  return(<-Builtin.List.listItems v)[0]?) _
 refine m.typ.andThen ?_
 rw[aN (by decide)]
 exact .now
theorem Ax{h:Heap}{vs:List Value}(hv:∀v∈vs,t8 h v)(h2:2<=vs.length):Looks (model prog w) h (keyKind' vs.toArray) oneType':=by
 rw[keyKind'_eq,List.mapM_toArray]
 have m1:Looks (model prog w) h (List.toArray<$>List.mapM firstOfTuple' vs) (vs.map fun _=>none).toArray:=by rw[map_eq_pure_bind];exact(mq fun v hm=>yz (hv v hm)).andThen .now
 refine m1.andThen ?_
 obtain⟨v,us,rfl⟩:∃v us,vs=v::us:=by cases vs with|nil=>simp at h2|cons v us=>exact⟨v,us,rfl⟩
 rw[aL (by simp),aL (by simp)]
 have m2:Looks (model prog w) h (oneTypeOnly' (v::us).toArray) (some (.ref 135)):=by
  rw[oneTypeOnly'_eq,List.mapM_toArray];have m3:Looks (model prog w) h (List.toArray<$>List.mapM typeOf (v::us)) ((v::us).map fun _=>Value.ref 135).toArray:=by rw[map_eq_pure_bind];exact(mq fun v hm=>(hv v hm).typ).andThen .now
  refine m3.andThen ?_;simp only[bJ,List.getElem?_toArray,eM];rw[aN (by simp)];exact .now
 refine m2.andThen ?_
 exact .now
theorem A9:builtinKind "tuple.__lt__"=some .slot:=by decide+kernel
theorem Ah:splitId "tuple.__lt__"=some ("tuple","__lt__"):=by decide+kernel
theorem i6:∀{vs:List Value}{ns:List Int},IntsAre vs ns->vs.map Cn=ns
 |_,_,.nil=>rfl
 |_,_,.cons n t h=>by rw[bJ,i6 h];rfl
theorem Dj{a₀:Array Keyed}(L:ML (model prog w) s.heap)(hu:A.units<cLine)(hv:∀x∈a₀.toList,t8 s.heap x.1):nh (O:=jT) (model prog w) A s (iH s.heap) a₀ oneType':=by
 intro x y hx hy Q E' h
 obtain⟨x1,x2⟩:=x
 obtain⟨y1,y2⟩:=y
 obtain⟨l,dd,xs,n,ns,e1,g1,i1⟩:=hv _ hx
 obtain⟨m,dd',ys,n',ms,e2,g2,i2⟩:=hv _ hy
 dsimp only at e1 e2
 subst e1 e2
 have k1:iH s.heap (.ref l,x2)=ns:=by delta iH;simp only[g1,i6 i1]
 have k2:iH s.heap (.ref m,y2)=ms:=by delta iH;simp only[g2,i6 i2]
 rw[k1,k2]at h
 have h':Q (gv ns ms) s:=h
 have t1:Looks (model prog w) s.heap (typeOf (.ref l)) (.ref 135):=(eU g1).andThen .now
 have t2:Looks (model prog w) s.heap (typeOf (.ref m)) (.ref 135):=(eU g2).andThen .now
 dsimp only
 rw[keyLt'_oneType,oneLt'_eq]
 simp only[fO]
 refine aA (wpAny_cRoomFor hu ?_)
 refine aA ?_
 delta callSpecialIfBound?
 refine ah (aA (pV (t1.andThen L.ltm) (PySem.F.slot_tuple_lt.bind (.ref l)) ?_))
 dsimp only
 refine aA (bO (lK PySem.F.slot_tuple_lt.plain PySem.F.entry_tuple_lt A9 Ah (t1.andThen L.tup) (PySem.F.args_tuple_lt_2 _ _) ?_))
 refine CK g1 rfl g2 rfl (t2.andThen L.tup) i1 i2 ?_
 refine aC ?_
 dsimp only
 exact bV h'
end
section
variable{X:Cx}{k:Nat}{env:Env}{ρ:List (Str×B)}{Q:Fl->List (Str×B)->Prop}
theorem gE.turnX{bad:Addr->Prop}{O:Str->Option Addr}{s:Shared}{x:Str}{l:Addr}{ds ds':List PyData}{vs':Array Value}{n':Nat}{h':Heap}{t:Nat}(r:gE X bad O env ρ s)(hx:ρ.lookup x=some (.own ds))(ho:O x=some l)(hs:∀b o,b≠l->s.heap.get? b=some o->h'.get? b=some o)(hg:h'.get? l=some {cls:=.type "list",data:=.seq vs' n'}) (q:RepL (fv bad O) s.heap ds' vs'.toList):f8 env O O s {s with heap:=h',toks:=t}/\gE X bad O env (put ρ x (.own ds')) {s with heap:=h',toks:=t}:=by
 refine qY (r.own x ds hx) fun l₀ vs n ho' lk g _=>?_
 obtain rfl:l₀=l:=Option.some.inj (ho'.symm.trans ho)
 have x1:gQ s {s with heap:=h'.update l₀ fun _=>{cls:=.type "list",data:=.seq vs n}}:=⟨fun b o e=>by
  by_cases hb:b=l₀
  ·subst hb;rw[g]at e;cases e;exact aw _ hg rfl
  ·exact(dO _ _ _ _ hb).trans (hs b o hb e),rfl,rfl⟩
 have sb:=cj h' l₀ fun _=>({cls:=.type "list",data:=.seq vs n}:Obj)
 have sb':Heap.SameBut l₀ (h'.update l₀ fun _=>{cls:=.type "list",data:=.seq vs n}) h':=⟨sb.1.symm,fun b hb=>(sb.2 b hb).symm⟩
 obtain⟨st,r2⟩:=(r.ext x1).turn (t:=t) hx ho sb' hg (q.ext x1)
 exact⟨(f8.of_ext x1).trans st,r2⟩
theorem oQ{pl:Sem Bool}{x:Str}{name:Str}{id:String}{px apos cpos:Pos}{ds:List PyData}{A:Around}{bad:Addr->Prop}{O:Str->Option Addr}{s:Shared}{P:Value->Shared->Prop}(r:gE X bad O env ρ s)(hx:ρ.lookup x=some (.own ds))(slot:Slot "list" name id)(hty:typeOf (.builtin id)=pure (.type "method_descriptor"))(h:∀l vs n,O x=some l->s.heap.get? l=some {cls:=.type "list",data:=.seq vs n}->RepL (fv bad O) s.heap ds vs.toList->wpAny (model X.prog X.w) A (call (.builtin id) [.ref l]) P g8 s) (hd:autoParam ((x==("__debug__":Str))=false) aD) (he:autoParam (eval (.Call (.Attribute (.Name x px) name apos) [] [] cpos) env=(do
   let ov<-eval (.Name x px) env
   standAt apos.atName let(f,first)<-holding [ov] (getMethod ov name pl)callWith cpos f first (backTo cpos (starEach [] env)) [])) aR):wpAny (model X.prog X.w) A (eval (.Call (.Attribute (.Name x px) name apos) [] [] cpos) env) P g8 s:=by
 refine qY (oB r hx) fun l vs n ho lk g q=>?_
 refine MethodCall_ (bW (Lk.load r.ok.kind lk ?_) hd) he
 exact cY slot hty ⟨_,g,rfl,_,rfl⟩ ⟨_,g,rfl⟩ (callWith_method0 (h l vs n ho g q))
theorem RepL.permF{α:Type}{f:α->PyData}{bad:Addr->Prop}{h:Heap}{vs vs':List Value}(p:vs'.Perm vs):∀{ms:List α},RepL bad h (ms.map f) vs->∃ms':List α,ms'.Perm ms/\RepL bad h (ms'.map f) vs':=by
 induction p with
 |nil=>exact fun{ms}q=>⟨ms,.refl _,q⟩
 |cons x p ih=>intro ms q;cases ms with|nil=>exact nomatch q.inv0|cons m ms=>refine gR (ih q.inv2.2) fun ms' h1 h2=>?_;exact⟨m::ms',h1.cons _,.cons q.inv2.1 h2⟩
 |swap x y l=>intro ms q;cases ms with|nil=>exact nomatch q.inv0|cons m ms=>cases ms with|nil=>exact nomatch q.inv2.2.inv0|cons m' ms=>exact⟨m'::m::ms,.swap _ _ _,.cons q.inv2.2.inv2.1 (.cons q.inv2.1 q.inv2.2.inv2.2)⟩
 |trans p1 p2 ih1 ih2=>intro ms q;refine gR (ih2 q) fun ms1 h1 q1=>?_;refine gR (ih1 q1) fun ms2 h2 q2=>?_;exact⟨ms2,h2.trans h1,q2⟩
theorem RepL.ints{bad:Addr->Prop}{h:Heap}:∀{ns:List Int}{vs:List Value},RepL bad h (ns.map .int) vs->IntsAre vs ns
 |[],_,q=>by rw[q.inv0];exact .nil
 |n::ns,_,q=>by refine jq q.inv ?_;rintro v vs rfl q1 q2;obtain⟨t,rfl⟩:=q1.invI;exact .cons _ _ (RepL.ints q2)
theorem RepL.ints3{bad:Addr->Prop}{h:Heap}{a b c:Int}{L:List Value}(q:RepL bad h [.int a,.int b,.int c] L):IntsAre L [a,b,c]:=RepL.ints (ns:=[a,b,c]) q
theorem gF.isMt{bad:Addr->Prop}{h:Heap}{t:T3}{v:Value}(q:gF bad h (m0 t) v):t8 h v/\iH h (v,v)=pq t/\∃l,v=.ref l/\¬bad l:=by
 delta m0 vC at q
 refine q.mtE fun l dd vs n hb g qs=>?_
 have:IntsAre vs.toList (pq t):=qs.ints3
 exact⟨⟨l,dd,vs,n,_,rfl,g,this⟩,by delta iH;simp only[g,i6 this],l,rfl,hb⟩
theorem RepL.allMt{bad:Addr->Prop}{h:Heap}{ms:List T3}:∀{vs:List Value},RepL bad h (ms.map m0) vs->(∀v∈vs,t8 h v/\∃l,v=.ref l/\¬bad l)/\vs.map (fun v=>iH h (v,v))=ms.map pq:=by
 induction ms with
 |nil=>intro vs q;rw[q.inv0];exact⟨fun v hv=>(dW hv).elim,rfl⟩
 |cons m ms ih=>
  intro vs q;refine jq (RepL.inv q) ?_;rintro v vs rfl a b;obtain⟨h1,h2⟩:=ih b;refine⟨fun v hv=>?_,by rw[bJ,bJ,h2,a.isMt.2.1]⟩;rcases ak.mp hv with rfl|hv;·exact⟨a.isMt.1,a.isMt.2.2⟩
  ·exact h1 v hv
def Dy(a b:T3):Prop:=gv (pq b) (pq a)=false
theorem jB{vs:List Value}:∀x∈(pairsOf vs).toList,x.1=x.2/\x.2∈vs:=by
 intro x hx
 have:x∈vs.zip vs:=by simpa[pairsOf]using hx
 obtain⟨i,hi,e⟩:=List.mem_iff_getElem.mp this
 rw[List.getElem_zip]at e
 exact⟨by rw[<-e],by rw[<-e];exact List.getElem_mem _⟩
theorem rS(vs:List Value):(pairsOf vs).toList.map (·.2)=vs:=by
 simp[pairsOf,List.map_snd_zip]
theorem BZ{pl:Sem Bool}{x:Str}{px apos cpos pos:Pos}{ms:List T3}(G:MF X)(hx:ρ.lookup x=some (.own (ms.map m0)))(h64:ms.length<64)(hq:∀ms':List T3,ms'.Perm ms->ms'.Pairwise Dy->Q .next (put ρ x (.own (ms'.map m0))))(hd:autoParam ((x==("__debug__":Str))=false) aD)(he:autoParam (eval (.Call (.Attribute (.Name x px) "sort" apos) [] [] cpos) env=(do
   let ov<-eval (.Name x px) env
   standAt apos.atName let(f,first)<-holding [ov] (getMethod ov "sort" pl)callWith cpos f first (backTo cpos (starEach [] env)) [])) aR)(hi:autoParam (interactive env=false) aR)(hs:autoParam (swapsWith (.Call (.Attribute (.Name x px) "sort" apos) [] [] cpos) none pos.line env=pure false) aR):jz X (k+1) env ρ (.Expr (.Call (.Attribute (.Name x px) "sort" apos) [] [] cpos) pos) Q:=fun A bad O s R r=>by
 refine cg (oQ r hx slot_list_sort PySem.F.type_list_sort (fun l vs n ho g q=>?_) hd he) hi hs
 obtain⟨hall,hkeys⟩:=q.allMt
 have hl:vs.toList.length=ms.length:=by have:=q.length;rw[aB]at this;exact fk 0xf81f11f012f102f this
 have L:=G.looks (M:=model X.prog X.w) (r.wf.kin.keeps r.base)
 have hne:∀v∈vs.toList,∃m,v=.ref m/\m≠l:=fun v hv=>by obtain⟨_,m,rfl,hb⟩:=hall v hv;exact⟨m,rfl,fun e=>hb (.inr ⟨x,e▸ho⟩)⟩
 have still:∀h':Heap,(∀b o,b≠l->s.heap.get? b=some o->h'.get? b=some o)->(∀v∈vs.toList,t8 h' v)/\ML (model X.prog X.w) h'/\∀v∈vs.toList,∀u,iH h' (v,u)=iH s.heap (v,u):=fun h' hk=>by
  have hkK:∀b o,X.h₀.get? b=some o->h'.get? b=some o:=fun b o e=>hk b o (fun z=>(r.good x l ho).2.1|>fun n0=>by rw[z,n0]at e;cases e) (r.base b o e);refine⟨fun v hv=>?_,G.looks (r.wf.kin.keeps hkK),fun v hv u=>?_⟩
  ·obtain⟨⟨m,dd,xs,n',ns,rfl,gm,im⟩,_⟩:=hall v hv;refine gR (hne _ hv) fun m' e hn=>?_;cases e;exact⟨m,dd,xs,n',ns,rfl,hk _ _ hn gm,im⟩
  ·obtain⟨⟨m,dd,xs,n',ns,rfl,gm,im⟩,_⟩:=hall v hv;refine gR (hne _ hv) fun m' e hn=>?_;cases e;delta iH;simp only[gm,hk _ _ hn gm]
 refine b7 slot_list_sort ⟨_,g,rfl⟩ entry_list_sort ?_ (args_list_sort _)
 have hu:A.in1.units<cLine:=by have:=R.in1.units;have c:cLine=9900:=rfl;exact fu 0xf111201f26ac2922232829164b0a0f this c
 refine rZ (κ:=oneType') (O:=jT) (ky:=iH s.heap) (vs:=vs.toList) (n:=n) (by simpa using g) (fk 0xf81113882910f012400901f h64 hl) (fun h2 s' hk Q' hQ'=>?_) (fun s' hk=>?_) fun h' xs n' hk hg' hp hsort=>?_
 ·exact(Ax (still _ hk).1 h2).here hQ'
 ·refine qd (still _ hk) fun c1 c2 c3=>?_;intro a b ha hb Q' E' h';refine Dj (a₀:=pairsOf vs.toList) c2 hu (fun p hp=>?_) a b ha hb Q' E' ?_;·obtain⟨e1,e2⟩:=jB p hp;rw[e1];exact c1 _ e2
  ·obtain⟨a1,a2⟩:=jB a ha;obtain⟨b1,b2⟩:=jB b hb;obtain⟨x1,x2⟩:=a;obtain⟨y1,y2⟩:=b;dsimp only at a1 a2 b1 b2;subst a1 b1;rw[c3 _ a2,c3 _ b2];exact h'
 ·have pv:(xs.map (·.2)).toList.Perm vs.toList:=by have:=(Array.perm_iff_toList_perm.mp hp).map (·.2);rw[rS]at this;simpa using this
  refine gR (q.permF pv) fun ms' pm q'=>?_;obtain⟨st,r2⟩:=r.turnX (t:=s.toks) hx ho hk hg' q';refine⟨.none,rfl,.next,_,O,hq ms' pm ?_,rfl,st,r2⟩;obtain⟨_,hkeys'⟩:=q'.allMt;rw[List.pairwise_iff_getElem];intro i j hi hj hij;have hxs:xs.size=ms'.length:=by have:=q'.length;rw[aB]at this;rw[this];simp
  have kk':∀i (hi:i<ms'.length),kk (O:=jT) (iH s.heap) xs i=pq ms'[i]:=fun i hi=>by
   have hi':i<xs.size:=by exact fu 0xf111021f121102f hxs hi
   have hm:xs[i]∈(pairsOf vs.toList).toList:=(Array.perm_iff_toList_perm.mp hp).mem_iff.mp (by simp);obtain⟨e1,e2⟩:=jB _ hm;have:kk (O:=jT) (iH s.heap) xs i=iH s.heap (xs[i].2,xs[i].2):=by delta kk;rw[cH,eB hi',Option.getD_some];delta iH;rw[e1]
   rw[this];have h5:=congrArg (·[i]?) hkeys';simp only[aS,Array.toList_map,cK]at h5;rw[aK (by simpa using hi'),aK hi]at h5;have h6:iH s.heap (xs[i].2,xs[i].2)=pq ms'[i]:=by simpa using h5
   exact h6
  have:=hsort i j (aV _) (cS hij) (by have:=pv.length_eq;simp at this;simp;exact gK 0xf8111301f322122101f hj hxs this);rw[kk' i hi,kk' j hj]at this;exact this
end
theorem kM.same{m:Mt}{alo ahi blo bhi:Nat}{P P':Nat->Nat->Prop}{bi bj bk:Nat}(h:kM m alo ahi blo bhi P bi bj bk)(h1:∀x y,P x y↔P' x y):kM m alo ahi blo bhi P' bi bj bk:=h.skip (fun x y p=>(h1 x y).mp p) fun x y p=>.inl ((h1 x y).mpr p)
theorem pU{m:Mt}{alo ahi blo bhi i:Nat}(hi:alo<=i)(hi':i<ahi)(h0:∃bi bj bk,kM m alo ahi blo bhi (fun x y=>alo<=x/\x<i/\blo<=y/\y<bhi) bi bj bk):∀c,blo+c<=bhi->∃bi bj bk,kM m alo ahi blo bhi (fun x y=>(alo<=x/\x<i/\blo<=y/\y<bhi)\/(x=i/\blo<=y/\y<blo+c)) bi bj bk
 |0,_=>by obtain⟨bi,bj,bk,h⟩:=h0;exact⟨bi,bj,bk,h.same fun x y=>⟨.inl,fun p=>p.elim id fun p=>by exact jr 0xf11511100743173207f080a11100f p.2.1 p.2.2⟩⟩
 |c+1,hc=>by
  obtain⟨bi,bj,bk,h⟩:=pU hi hi' h0 c (by exact fu 0xf11210a0f2181a0a0f hc);have hs:=h.step (i:=i) (j:=blo+c) hi hi' (by exact fk 0xf110a00ff) (by exact fu 0xf11210a1f2181a0a0f hc) fun x y p=>by exact uH 0xf1100f100010ff11f1008f10010ff63a4121272118f63a41430721275414307211710078f p
  have e:∀x y,((alo<=x/\x<i/\blo<=y/\y<bhi)\/(x=i/\blo<=y/\y<blo+c))\/(x=i/\y=blo+c)↔(alo<=x/\x<i/\blo<=y/\y<bhi)\/(x=i/\blo<=y/\y<blo+(c+1)):=fun x y=>⟨fun p=>p.elim (fun h=>h.imp id fun⟨a,b,d⟩=>⟨a,b,ca d⟩) fun⟨a,b⟩=>.inr ⟨a,by rw[b];exact cQ _ _,by rw[b];exact dU _⟩,fun p=>p.elim (fun h=>.inl (.inl h)) fun⟨a,b,d⟩=>(Nat.lt_succ_iff_lt_or_eq.mp d).elim (fun h=>.inl (.inr ⟨a,b,h⟩)) fun h=>.inr ⟨a,h⟩⟩;split at hs;·exact⟨_,_,_,hs.same e⟩
  ·exact⟨_,_,_,hs.same e⟩
theorem re{m:Mt}{alo ahi blo bhi:Nat}(h1:alo<=ahi)(h2:blo<=bhi):∀r,alo+r<=ahi->∃bi bj bk,kM m alo ahi blo bhi (fun x y=>alo<=x/\x<alo+r/\blo<=y/\y<bhi) bi bj bk
 |0,_=>⟨_,_,_,(kM.start h1 h2).same fun x y=>⟨False.elim,fun p=>by exact fk 0xf119f080a11100f p.1 p.2.1⟩⟩
 |r+1,hr=>by obtain⟨bi,bj,bk,h⟩:=pU (m:=m) (i:=alo+r) (by exact fk 0xf110a00ff) (by exact fu 0xf11210a1f2181a0a0f hr) (re h1 h2 r (by exact fu 0xf11210a0f2181a0a0f hr)) (bhi-blo) (by exact fk 0xf18f1108f120a0f100f010 h2);exact⟨bi,bj,bk,h.same fun x y=>⟨fun p=>by exact jr 0xf18100f101000ff8110f1001000fff10010f100100ff100010f1000100fff10008f100010ff100008f1000010fff10001f100001ff100001f1000001fff5414307182a0a1171007f63a41430720a127541430720a11710078f350 p,fun p=>by exact jr 0xf1000001f100001f10001001f1000001f11f100001ff1001f63a41430720a127541430720a11710078f541430182a0a11100f351 p.1 p.2.1 p.2.2.1 p.2.2.2⟩⟩
theorem lp(m:Mt){alo ahi blo bhi:Nat}(h1:alo<=ahi)(h2:blo<=bhi):∃i j k,ku m alo ahi blo bhi i j k:=by
 obtain⟨bi,bj,bk,h⟩:=re (m:=m) h1 h2 (ahi-alo) (by exact fk 0xf18f1108f120a0f100f010 h1)
 exact⟨bi,bj,bk,(h.same fun x y=>⟨fun p=>by exact jr 0xf10001f1001f1018f11008ff11f541430721171007f54143060a11100f020 p.1 p.2.1 p.2.2.1 p.2.2.2,fun p=>by exact jr 0xf1000001f100001f10101f1001f541430760a1171007f541430211100f021 p.1 p.2.1 p.2.2.1 p.2.2.2⟩).finish⟩
theorem iP.mono{X:Cx}{k:Nat}{env:Env}{ρ:List (Str×B)}{ss:List Stmt}{Q Q':Fl->List (Str×B)->Prop}(h:iP X k env ρ ss Q)(g:∀f ρ',Q f ρ'->Q' f ρ'):iP X k env ρ ss Q':=fun A bad O s R r=>
 aF (h A bad O s R r) (fun fl s' p=>Cf p fun f ρ' O' hq rest=>⟨f,ρ',O',g _ _ hq,rest⟩) fun _ _ x=>x
structure uG(X:Cx)(h:Heap)(x dx:Addr)(m:Str->Option Value)(va vb:Value)(as bs:List Int):Prop where
 obj:h.get? x=some (instObj 242 dx)
 a:m "a"=some va
 ha:handedIn va=true
 b:m "b"=some vb
 hb:handedIn vb=true
 free:∀f∈(["find_longest_match","get_matching_blocks","get_opcodes"]:List Str),m f=none
 rest:∃d js led,m "b2j"=some (.ref d)/\m "bjunk"=some (.ref js)/\h.get? js=some {cls:=.type "set",dict:=.none,data:=.set #[] 0 (.fresh 0 0 led)}/\jS X h bs d
theorem jS.keeps{X:Cx}{h h':Heap}{bs:List Int}{d:Addr}(c:jS X h bs d)(k:∀b o,h.get? b=some o->h'.get? b=some o):jS X h' bs d:=by
 obtain⟨kvs,⟨o,es,ep,ho,rest⟩,h1,h2,h3⟩:=c
 refine⟨kvs,⟨o,es,ep,k _ _ ho,rest⟩,h1,h2,fun x=>?_⟩
 rcases h3 x with⟨v,l,ol,e1,e2,e3,e4⟩|e
 ·exact .inl ⟨v,l,ol,e1,e2,k _ _ e3,e4⟩
 ·exact .inr e
theorem jS.on{X:Cx}{h g:Heap}{D:PyData->Value->Prop}{bs:List Int}{d:Addr}(c:jS X h bs d):jS (X.on g D) h bs d:=c
section
variable{X:Cx}{k:Nat}{env:Env}{ρ:List (Str×B)}{as bs:List Int}{va vb:Value}{alo ahi blo bhi i j n:Nat}
theorem Bo(F:DF X)(G:MF X){x dx:Addr}{m:Str->Option Value}{N:Nat}{y:Str}{yp apos pos:Pos}{pl:Sem Bool}{e1 e2 e3 e4:Expr}(hy:ρ.lookup y=some (.raw (.ref x)))(S:lB X ρ 242 x dx "#d" m N)(M:uG X X.h₀ x dx m va vb as bs)(da:X.dat (.list (as.map .int)) va)(db:X.dat (.list (bs.map .int)) vb)(h1:alo<=ahi)(h2:ahi<=as.length)(h3:blo<=bhi)(h4:bhi<=bs.length)(hza:as.length+1<=sizeLine)(hz:bs.length+1<=sizeLine)(hB:ku (mm as bs) alo ahi blo bhi i j n)(hargs:qy X (k+3) env ρ pos [e1,e2,e3,e4] [.int alo,.int ahi,.int blo,.int bhi])(he:autoParam (eval (.Call (.Attribute (.Name y yp) "find_longest_match" apos) [e1,e2,e3,e4] [] pos) env=(do
   let ov<-eval (.Name y yp) env
   standAt apos.atName let(f,first)<-holding [ov] (getMethod ov "find_longest_match" pl)callWith pos f first (backTo pos (starEach [e1,e2,e3,e4] env)) [])) aR)(hst:autoParam (starEach [e1,e2,e3,e4] env=(false,eval e1 env)::starEach [e2,e3,e4] env) aR)(hd:autoParam ((y==("__debug__":Str))=false) aD):Ev X (k+3) env ρ (.Call (.Attribute (.Name y yp) "find_longest_match" apos) [e1,e2,e3,e4] [] pos) (vC i j n):=fun A bad O s R r=>by
 obtain⟨cd,hC⟩:=F.cls
 obtain⟨hf,ht,z,D⟩:=F.find
 refine gR D.obj fun o ho hdat=>?_
 refine mN (Pa:=fun vs s'=>RepL (fv bad O) s'.heap [.int alo,.int ahi,.int blo,.int bhi] vs) R r hy S hC hf ht (M.free _ (by decide)) ho hdat (hargs A bad O s R r) (fun vs s1 x1 r1 q=>?_) he hst hd
 refine jq q.inv ?_;rintro _ _ rfl q1 q
 refine jq q.inv ?_;rintro _ _ rfl q2 q
 refine jq q.inv ?_;rintro _ _ rfl q3 q
 refine jq q.inv ?_;rintro _ _ rfl q4 q
 obtain rfl:=q.inv0
 obtain⟨t1,rfl⟩:=q1.invI
 obtain⟨t2,rfl⟩:=q2.invI
 obtain⟨t3,rfl⟩:=q3.invI
 obtain⟨t4,rfl⟩:=q4.invI
 refine bO (au (lc (bad:=fv bad O) (Dt:=fun d v=>(d=.list (as.map .int)/\v=va)\/(d=.list (bs.map .int)/\v=vb)) (P:=fun fl _=>fl=.ret (vC i j n)) (bs:=[.raw (.ref x),.val (.int alo),.val (.int ahi),.val (.int blo),.val (.int bhi)]) D (k:=k+2) R r1.at (gZ r1) ?dat ?binds rfl ?body) ?post)
 case dat=>
  rintro d v (⟨rfl,rfl⟩|⟨rfl,rfl⟩);·exact r1.datR da
  ·exact r1.datR db
 case binds=>exact .cons (.raw _) (.cons (.val (.int _ _)) (.cons (.val (.int _ _)) (.cons (.val (.int _ _)) (.cons (.val (.int _ _)) .nil))))
 case body=>
  intro L;refine qY M.rest fun d js led hd' hj hjs hch=>?_;have kb:∀b o,X.h₀.get? b=some o->s1.heap.get? b=some o:=r1.base;refine iP.mono (w5 (X:=X.on s1.heap _) (k:=k) (F.on kb) (G.on kb) hC (x:=x) (dx:=dx) (m:=m) (N:=N) (z:=z) (kb _ _ M.obj) ?_ M.a M.ha M.b M.hb hd' hj (kb _ _ hjs) (.inl ⟨rfl,rfl⟩) (.inr ⟨rfl,rfl⟩) (hch.keeps kb).on h1 h2 h3 h4 hza hz) fun fl ρ' p=>?_
  ·rcases S.dict with⟨o,ho,q⟩|⟨o,ho,q⟩;·exact⟨o,(r1.pt _ _ _ ho).2,q⟩
   ·exact⟨o,kb _ _ ho,q⟩
  ·refine Cf p ?_;rintro i' j' n' rfl hB';refine qd (hB.unique hB') ?_;rintro rfl rfl rfl;exact⟨rfl,.inr ⟨_,rfl⟩⟩
 case post=>rintro res s' ⟨v,fl,ρ',O',L,rfl,rfl,rv,x2,_⟩;exact⟨x1.trans x2,rv⟩
end
theorem RepL.split_last{bad:Addr->Prop}{h:Heap}{d:PyData}{ds:List PyData}:∀{vs:List Value},RepL bad h (ds++[d]) vs->∃us u,vs=us++[u]/\RepL bad h ds us/\gF bad h d u:=by
 induction ds with
 |nil=>intro vs q;refine jq q.inv ?_;rintro u us rfl a b;exact⟨[],u,by rw[b.inv0];rfl,.nil,a⟩
 |cons c ds ih=>intro vs q;refine jq (RepL.inv q) ?_;rintro v vs rfl a b;refine jq (ih b) ?_;rintro us u rfl h1 h2;exact⟨_::us,u,rfl,.cons a h1,h2⟩
section
variable{X:Cx}{k:Nat}{env:Env}{ρ ρ':List (Str×B)}{Q:Fl->List (Str×B)->Prop}
theorem yU{e:Expr}{ds:List PyData}(h:uJ X k env ρ e ds)(hz:ds.length<=sizeLine)(he:autoParam (∀whole,isTrue e env whole=(do let v<-whole;standAt e.pos;holding [v] (truthy v))) aI):mM X k env ρ e (!ds.isEmpty):=fun A bad O s R r=>by
 have hsl:sizeLine<2^30:=by decide
 rw[he]
 refine aA (aF (h A bad O s R r) (fun v s1 q=>?_) fun _ _ x=>x)
 obtain⟨x1,l,vs,rfl,⟨n,g⟩,q⟩:=q
 have hl:vs.size=ds.length:=by rw[<-aE,q.length]
 refine aA (cr (ah (wpAny_truthy_list ⟨_,g,rfl,_,rfl⟩ (by rw[hl];exact fk 0xf1118000000000000000e90c4f400000006911100f hz hsl) ?_)))
 refine⟨x1.trans (gQ.toks _ _),?_⟩
 cases ds with
 |nil=>simp at hl;simp[hl]
 |cons d ds=>simp at hl|-;intro z;simp[z]at hl
theorem DV{pl:Sem Bool}{x:Str}{px apos cpos pos:Pos}{t:Expr}{ds:List PyData}{d:PyData}(hx:ρ.lookup x=some (.own (ds++[d])))(hz:ds.length+1<=sizeLine)(h1:sk X k env (put ρ x (.own ds)) t d ρ')(hq:Q .next ρ')(hd:autoParam ((x==("__debug__":Str))=false) aD)(he:autoParam (eval (.Call (.Attribute (.Name x px) "pop" apos) [] [] cpos) env=(do
   let ov<-eval (.Name x px) env
   standAt apos.atName let(f,first)<-holding [ov] (getMethod ov "pop" pl)callWith cpos f first (backTo cpos (starEach [] env)) [])) aR)(hs:autoParam (swapsWithSole [t] (.Call (.Attribute (.Name x px) "pop" apos) [] [] cpos) pos.line env=pure false) aR)(hw:autoParam (swappedStores [t] (.Call (.Attribute (.Name x px) "pop" apos) [] [] cpos) env=pure none) aR)(hm:autoParam ((assignEach [t] env).map (·.2)=[assign t env]) aR):jz X k env ρ (.Assign [t] (.Call (.Attribute (.Name x px) "pop" apos) [] [] cpos) pos) Q:=fun A bad O s R r=>by
 refine cM (oQ r hx PySem.F.slot_list_pop PySem.F.type_list_pop (fun l vs n ho g q=>?_) hd he) hs hw
 have hl:vs.size=ds.length+1:=by rw[<-aE];have:=q.length;simp at this|-;exact fk 0xf81f11f180a12f1180a2f this
 obtain⟨us,u,hvs,qs,qu⟩:∃us u,vs.toList=us++[u]/\RepL (fv bad O) s.heap ds us/\gF (fv bad O) s.heap d u:=RepL.split_last q
 have hul:us.length=ds.length:=by have:=congrArg List.length hvs;simp at this;exact fu 0xf811f181f122f182a02181a02f hl this
 have hpop:vs.pop.toList=us:=by rw[Array.toList_pop,hvs,List.dropLast_concat]
 have hget:vs[vs.size-1]?=some u:=by rw[<-ab,hvs,hl,ba (by exact fk 0xf8101200f102f18181a1 hul)];simp[hul]
 refine Copied.pop_at g hget (fun h' hs' hg'=>?_) (fu 0xf811120f180a221180a0f hz hl)
 obtain⟨st,r2⟩:=r.turn (t:=s.toks) hx ho hs' hg' (by rw[hpop];exact qs)
 have q2:gF (fv bad O) h' d u:=qu.keep fun b o _ _ hb e _=>(hs'.2 b fun z=>hb (z▸.inr ⟨x,ho⟩)).trans e
 rw[hm]
 refine aF (h1 A bad O {s with heap:=h'} u R r2 q2) (fun _ s3 p3=>?_) fun _ _ x=>x
 refine gR p3 fun O3 st3 r3=>?_
 exact⟨.next,_,_,hq,rfl,st.trans st3,r3⟩
end
inductive RO(m:Mt):Nat->Nat->Nat->Nat->List T3->Prop
 |none {alo ahi blo bhi i j:Nat}:ku m alo ahi blo bhi i j 0->RO m alo ahi blo bhi []
 |some {alo ahi blo bhi i j k:Nat}{l r:List T3}:ku m alo ahi blo bhi i j k->0<k->RO m alo i blo j l->RO m (i+k) ahi (j+k) bhi r->RO m alo ahi blo bhi (l++(i,j,k)::r)
theorem RO.unique{m:Mt}{alo ahi blo bhi:Nat}{bs bs':List T3}(h:RO m alo ahi blo bhi bs)(h':RO m alo ahi blo bhi bs'):bs=bs':=by
 induction h generalizing bs' with
 |none b=>cases h' with|none _=>rfl|some b' hk _ _=>have:=b.unique b';exact(f5 0xf119f00820081f hk this.2.2).elim
 |some b hk _ _ ih1 ih2=>cases h' with|none b'=>have:=b.unique b';exact(f5 0xf819f08020081f hk this.2.2).elim|some b' hk' h1 h2=>refine qd (b.unique b') ?_;rintro rfl rfl rfl;rw[ih1 h1,ih2 h2]
theorem RO.exists(m:Mt):∀(n alo ahi blo bhi:Nat),ahi-alo<=n->alo<=ahi->blo<=bhi->∃bs,RO m alo ahi blo bhi bs
 |n,alo,ahi,blo,bhi,hn,h1,h2=>by
  obtain⟨i,j,k,b⟩:=lp m h1 h2;rcases cx k with rfl|hk;·exact⟨[],.none b⟩
  ·obtain⟨w1,w2,w3,w4⟩:=b.win;cases n with|zero=>exact(gK 0xf1111109f0840302a02100081f131 hk w1 w2 hn).elim|succ n=>obtain⟨l,hl⟩:=RO.exists m n alo i blo j (i8 0xf1111018f108f450f184a60201a00081f321310 hk w2 hn) (fk 0xf11100f100f w1) (fk 0xf11100f100f w3);obtain⟨r,hr⟩:=RO.exists m n (i+k) ahi (j+k) bhi (i8 0xf1111018f108f450f184a602100081f13102a30 hk w1 hn) (fu 0xf11210a0f210a0f w2) (fu 0xf11210a0f210a0f w4);exact⟨_,.some b hk hl hr⟩
noncomputable abbrev W4:=Nat×Nat×Nat×Nat
open Classical in
noncomputable def ro (m:Mt) (w:W4):List T3:=if h:∃bs,RO m w.1 w.2.1 w.2.2.1 w.2.2.2 bs then h.choose else[]
def FD(la lb:Nat)(w:W4):Prop:=w.1<=w.2.1/\w.2.1<=la/\w.2.2.1<=w.2.2.2/\w.2.2.2<=lb
theorem kZ(m:Mt){alo ahi blo bhi:Nat}(h1:alo<=ahi)(h2:blo<=bhi):RO m alo ahi blo bhi (ro m (alo,ahi,blo,bhi)):=by
 have h:=RO.exists m _ alo ahi blo bhi (aH _) h1 h2
 delta ro
 rw[dif_pos h]
 exact h.choose_spec
theorem Cm{m:Mt}{alo ahi blo bhi:Nat}{bs:List T3}(h1:alo<=ahi)(h2:blo<=bhi)(h:RO m alo ahi blo bhi bs):ro m (alo,ahi,blo,bhi)=bs:=(kZ m h1 h2).unique h
theorem ku.le{m:Mt}{alo ahi blo bhi i j k:Nat}(b:ku m alo ahi blo bhi i j k):alo<=ahi/\blo<=bhi:=by obtain⟨h1,h2,h3,h4⟩:=b.win;exact uH 0xf11001f111f6403007f625a0540321a0100f h1 h2 h3 h4
theorem vq{m:Mt}{alo ahi blo bhi i j:Nat}(b:ku m alo ahi blo bhi i j 0):ro m (alo,ahi,blo,bhi)=[]:=Cm b.le.1 b.le.2 (.none b)
theorem BP{m:Mt}{alo ahi blo bhi i j k:Nat}(b:ku m alo ahi blo bhi i j k)(hk:0<k):ro m (alo,ahi,blo,bhi)=ro m (alo,i,blo,j)++(i,j,k)::ro m (i+k,ahi,j+k,bhi):=by
 obtain⟨h1,h2,h3,h4⟩:=b.win
 exact Cm b.le.1 b.le.2 (.some b hk (kZ m h1 h3) (kZ m h2 h4))
theorem B0(m:Mt){alo ahi blo bhi:Nat}(h1:alo<=ahi)(h2:blo<=bhi)(h:ahi<=alo\/bhi<=blo):ro m (alo,ahi,blo,bhi)=[]:=by
 obtain⟨i,j,k,b⟩:=lp m h1 h2
 obtain⟨w1,w2,w3,w4⟩:=b.win
 obtain rfl:k=0:=by exact uH 0xf1f110011f1111ff0822f4600308625a0540321a0100f w1 w2 w3 w4 h
 exact vq b
def E7(m:Mt)(alo ahi blo bhi la lb:Nat)(rest:List T3):Prop:=
 (rest=[]/\ahi<=la/\bhi<=lb)\/∃n r,rest=(ahi,bhi,n)::r/\0<n/\gY la lb false (ahi+n) (bhi+n) r/\(alo<ahi->blo<bhi->m (ahi-1) (bhi-1)=false)
theorem RO.good{m:Mt}{alo ahi blo bhi:Nat}{bs:List T3}(h:RO m alo ahi blo bhi bs):∀{b:Bool}{la lb:Nat}{rest:List T3},(b=false->alo<ahi->blo<bhi->m alo blo=false)->(b=false->rest≠[]->¬(alo=ahi/\blo=bhi))->E7 m alo ahi blo bhi la lb rest->gY la lb b alo blo (bs++rest):=by
 induction h with
 |none bt=>
  intro b la lb rest c1 c2 hr;obtain⟨l1,l2⟩:=bt.le;rcases hr with⟨rfl,h1,h2⟩|⟨n,r,rfl,hn,g,_⟩;·exact .nil (fu 0xf111200f210100f l1 h1) (fu 0xf111200f210100f l2 h2)
  ·exact .cons l1 l2 hn (fun e=>c2 e (by simp)) g
 |@some alo ahi blo bhi i j k l r bt hk _ _ ih1 ih2=>
  intro b la lb rest c1 c2 hr;obtain⟨w1,w2,w3,w4⟩:=bt.win;have run:∀t,t<k->m (i+t) (j+t)=true:=bt.run;have last:m (i+k-1) (j+k-1)=true:=by have:=run (k-1) (f5 0xf18f1108f011f0081f1800 hk);rwa [show i+(k-1)=i+k-1 by exact fk 0xf118f1008ff1108f10008fff181f1810ff11081f110810fff321a2f0081f1801a01800 hk,show j+(k-1)=j+k-1 by exact fk 0xf118f1008ff1108f10008fff181f1810ff11081f110810fff321a2f0081f1801a01800 hk]at this
  have g2:gY la lb false (i+k) (j+k) (r++rest):=by
   refine ih2 (fun _ h1 h2=>bt.right h1 h2) (fun _ hne e=>?_) ?_
   ·rcases hr with⟨rfl,_⟩|⟨n,r',rfl,hn,g,hm⟩;·exact hne rfl
    ·have:=hm (gK 0xf1111311f302a02100081f hk w1 w2) (gK 0xf1111311f302a02100081f hk w3 w4);rw[<-e.1,<-e.2,last]at this;cases this
   ·rcases hr with hr|⟨n,r',rfl,hn,g,hm⟩;·exact .inl hr
    ·exact .inr ⟨n,r',rfl,hn,g,fun h1 h2=>hm (gK 0xf111301f321a1100f w1 h1) (gK 0xf111301f321a1100f w3 h2)⟩
  rw[av,fV];refine ih1 (fun e h1 h2=>c1 e (gK 0xf111231f031210a0f w2 h1) (gK 0xf111231f031210a0f w4 h2)) (fun e _ q=>?_) (.inr ⟨k,_,rfl,hk,g2,fun h1 h2=>bt.left h1 h2⟩);have:=run 0 hk;have f:=c1 e (gK 0xf1111311f302a02100081f hk w1 w2) (gK 0xf1111311f302a02100081f hk w3 w4);rw[q.1,q.2]at f;rw[eS,eS,f]at this;cases this
theorem RO.good'{m:Mt}{ahi bhi:Nat}{bs:List T3}(h:RO m 0 ahi 0 bhi bs):gY ahi bhi true 0 0 bs:=by
 have:=h.good (b:=true) (la:=ahi) (lb:=bhi) (rest:=[]) (fun e=>by cases e) (fun e=>by cases e) (.inl ⟨rfl,aH _,aH _⟩)
 rwa [ar]at this
theorem gY.from{la lb:Nat}{b:Bool}{i j:Nat}{bs:List T3}(g:gY la lb b i j bs):∀t∈bs,i<=t.1:=by
 induction g with
 |nil _ _=>intro t ht;cases ht
 |cons h1 _ h3 _ _ ih=>
  intro t ht;rcases ak.mp ht with rfl|ht;·exact h1
  ·have:=ih t ht;exact gK 0xf111300f321a0100f h1 this
theorem Dg{a b:T3}(h:a.1<b.1):Dy a b:=by
 unfold Dy pq gv
 rw[aL (by exact fk 0xf180c1c56f101f h)]
 exact de (fk 0xf110c1c46f101f h)
theorem gY.sorted{la lb:Nat}{b:Bool}{i j:Nat}{bs:List T3}(g:gY la lb b i j bs):bs.Pairwise Dy:=by
 induction g with
 |nil _ _=>exact .nil
 |cons h1 _ h3 _ g ih=>exact .cons (fun t ht=>Dg (by have:=g.from t ht;show _<t.1;exact fu 0xf111211f201a00081f h3 this)) ih
theorem zJ{a b:T3}(h:pq a=pq b):a=b:=by
 obtain⟨a1,a2,a3⟩:=a;obtain⟨b1,b2,b3⟩:=b
 simp only[pq,List.cons.injEq,and_true]at h
 simp only[Prod.mk.injEq];exact jr 0xf1001f8001f101f801f11f81f54232271027f5c4c53c2c51c0c5f h.1 h.2.1 h.2.2
theorem mT:∀{as bs:List T3},as.Perm bs->as.Pairwise Dy->bs.Pairwise Dy->as=bs
 |[],bs,p,_,_=>p.nil_eq
 |a::as,[],p,_,_=>by cases p.length_eq
 |a::as,b::bs,p,h,g=>by
  have hab:a=b:=by
   rcases ak.mp (p.mem_iff.mp bX)with e|hm;·exact e
   ·rcases ak.mp (p.mem_iff.mpr bX)with e|hm';·exact e.symm
    ·exact zJ (kX _ _ (List.rel_of_pairwise_cons g hm) (List.rel_of_pairwise_cons h hm'))
  subst hab;rw[mT (List.perm_cons a|>.mp p) (List.Pairwise.of_cons h) (List.Pairwise.of_cons g)]
def Ew(c r:T3):Prop:=r.2.2<c.2.2\/(r.2.2=c.2.2/\(c.1<r.1\/(c.1=r.1/\c.2.1<=r.2.1)))
def qB(c r:T3):Prop:=c.1+c.2.2<=r.1/\c.2.1+c.2.2<=r.2.1
def A8(c r:T3):Prop:=Ew c r/\¬qB c r/\¬qB r c
theorem RO.mem{m:Mt}{alo ahi blo bhi:Nat}{S:List T3}(h:RO m alo ahi blo bhi S):∀c∈S,0<c.2.2/\Ak alo ahi blo bhi c.1 c.2.1 c.2.2/\ve m c.1 c.2.1 c.2.2:=by
 induction h with
 |none _=>intro c hc;cases hc
 |some b hk _ _ ih1 ih2=>
  intro c hc;obtain⟨w1,w2,w3,w4⟩:=b.win;rcases aY.mp hc with hc|hc
  ·refine qd (ih1 c hc) ?_;rintro a1 ⟨a2,a3,a4,a5⟩a6;exact⟨a1,⟨by exact fk 0xf11100f100f a2,by exact i8 0xf111243a0f043a0210a0f w2 a3,by exact fk 0xf11100f100f a4,by exact i8 0xf111243a0f043a0210a0f w4 a5⟩,a6⟩
  ·rcases ak.mp hc with rfl|hc;·exact⟨hk,b.win,b.run⟩
   ·refine qd (ih2 c hc) ?_;rintro a1 ⟨a2,a3,a4,a5⟩a6;exact⟨a1,⟨by exact gK 0xf111300f321a0100f w1 a2,by exact fu 0xf11210a0f210a0f a3,by exact gK 0xf111300f321a0100f w3 a4,by exact fu 0xf11210a0f210a0f a5⟩,a6⟩
theorem RO.dom{m:Mt}{alo ahi blo bhi:Nat}{S:List T3}(h:RO m alo ahi blo bhi S):∀x y n,0<n->Ak alo ahi blo bhi x y n->ve m x y n->∃c∈S,A8 c (x,y,n):=by
 induction h with
 |none b=>intro x y n hn hw hr;have:=b.best x y n hn hw hr;exact(i8 0xf1008f108f1f9f4302127211808027080180081f hn this).elim
 |@some alo ahi blo bhi i j k l r b hk _ _ ih1 ih2=>
  intro x y n hn hw hr;obtain⟨w1,w2,w3,w4⟩:=hw;by_cases h1:qB (x,y,n) (i,j,k);·refine gR (ih1 x y n hn ⟨w1,h1.1,w3,h1.2⟩ hr) fun c hc d=>?_;exact⟨c,aY.mpr (.inl hc),d⟩
  ·by_cases h2:qB (i,j,k) (x,y,n);·refine gR (ih2 x y n hn ⟨h2.1,w2,h2.2,w4⟩ hr) fun c hc d=>?_;exact⟨c,aY.mpr (.inr (bv _ hc)),d⟩
   ·refine⟨(i,j,k),aY.mpr (.inr bX),?_,h2,h1⟩;have:=b.best x y n hn ⟨w1,w2,w3,w4⟩ hr;delta Ew;simp only;exact jr 0xf10100f110f1001ff11f10080f1010f1001ff11f1008f108f11ff5403227321810271018f5403227321810271018f this
section
variable{K:Nat->Nat->Prop}
def mR(K:Nat->Nat->Prop)(x y n:Nat):Prop:=∀t,t<n->K (x+t) (y+t)
structure qt(K:Nat->Nat->Prop)(c:T3):Prop where
 pos:0<c.2.2
 run:mR K c.1 c.2.1 c.2.2
 left:0<c.1->0<c.2.1->¬K (c.1-1) (c.2.1-1)
 right:¬K (c.1+c.2.2) (c.2.1+c.2.2)
def jv(K:Nat->Nat->Prop):Prop:=∀x y x' y',K x y->K x' y'->(x<x'↔y<y')
theorem jv.eq(h:jv K){x y x' y':Nat}(a:K x y)(b:K x' y'):x=x'↔y=y':=by
 have h1:=h x y x' y' a b
 have h2:=h x' y' x y b a
 exact⟨gK 0xf101f11ff101f8001f101fff102322af231011a321101af h1.mpr h2.mpr,gK 0xf101f11ff101f8001f101fff102322af231011a321101af h1.mp h2.mp⟩
theorem z6{la:Nat}(hb:∀x y,K x y->x<la){x y:Nat}:∀m n,la-(x+n)<=m->0<n->mR K x y n->∃n',n<=n'/\mR K x y n'/\¬K (x+n') (y+n')
 |m,n,hm,hn,hr=>by
  by_cases h:K (x+n) (y+n);·have hlt:=hb _ _ h;cases m with
   |zero=>exact(fu 0xf11109f0830210a1f10a21 hlt hm).elim|succ m=>
    obtain⟨n',h1,h2,h3⟩:=z6 hb (x:=x) (y:=y) m (n+1) (gK 0xf11018f108f340f183a50f21a01182a1a00 hm) (f5 0xf1180a081ff) (fun t ht=>by
     rcases a9 t n with h'|h';·exact hr t h'
     ·have:t=n:=by exact fk 0xf101f11f102f010181a01f ht h'
      subst this;exact h);exact⟨n',by exact fk 0xf11100f1180a0f h1,h2,h3⟩
  ·exact⟨n,aH _,hr,h⟩
theorem sZ:∀(x y n:Nat),mR K x y n->∃d,d<=x/\d<=y/\mR K (x-d) (y-d) (n+d)/\(0<x-d->0<y-d->¬K (x-d-1) (y-d-1))
 |0,y,n,hr=>⟨0,aH _,aV _,hr,fun h=>absurd h (iz [] [] 0xf1100816ff08081)⟩
 |x+1,0,n,hr=>⟨0,aV _,aH _,hr,fun _ h=>absurd h (iz [] [] 0xf1100816ff08081)⟩
 |x+1,y+1,n,hr=>by
  by_cases h:K x y
  ·obtain⟨d,h1,h2,h3,h4⟩:=sZ x y (n+1) (fun t ht=>by cases t with
    |zero=>exact h|succ t=>have:=hr t (fk 0xf11101f181a180a1f ht);rwa [show x+(t+1)=x+1+t by exact fk 0xf1f1f1180aa181a0a2ff,show y+(t+1)=y+1+t by exact fk 0xf1f1f1180aa181a0a2ff]);refine⟨d+1,by exact fk 0xf11181a180a0f100f h1,by exact fk 0xf11181a180a0f100f h2,?_,?_⟩;·rw[show x+1-(d+1)=x-d by exact fk 0xf118f1008ff1108f10008fff181f1810ff108ff322ff100181a180a0,show y+1-(d+1)=y-d by exact fk 0xf118f1008ff1108f10008fff181f1810ff108ff322ff100181a180a0,show n+(d+1)=n+1+d by exact fk 0xf1f1f1180aa181a0a2ff];exact h3
   ·rw[show x+1-(d+1)=x-d by exact fk 0xf118f1008ff1108f10008fff181f1810ff108ff322ff100181a180a0,show y+1-(d+1)=y-d by exact fk 0xf118f1008ff1108f10008fff181f1810ff108ff322ff100181a180a0];exact h4
  ·exact⟨0,by exact f5 0xf1180a080ff,by exact f5 0xf1180a080ff,hr,fun _ _=>h⟩
theorem vf{la:Nat}(hb:∀x y,K x y->x<la){x y n:Nat}(hn:0<n)(hr:mR K x y n):∃d n',d<=x/\d<=y/\n+d<=n'/\qt K (x-d,y-d,n'):=by
 refine yQ (sZ x y n hr) fun d h1 h2 h3 h4=>?_
 refine qe (z6 hb (x:=x-d) (y:=y-d) _ (n+d) (aH _) (fk 0xf1110a081f0081f hn) h3) fun n' h5 h6 h7=>?_
 exact⟨d,n',h1,h2,h5,by show 0<n';exact fu 0xf1112081f210a00081f hn h5,h6,h4,h7⟩
theorem qt.cmp(hm:jv K){c c':T3}(h:qt K c)(h':qt K c'):c=c'\/qB c c'\/qB c' c:=by
 have key:∀{c c':T3},qt K c->qt K c'->c.1<=c'.1->c=c'\/qB c c':=by
  intro c c' h h' hle;obtain⟨x,y,n⟩:=c;obtain⟨x',y',n'⟩:=c';obtain⟨p1,r1,l1,e1⟩:=h;obtain⟨p2,r2,l2,e2⟩:=h';simp only at p1 r1 l1 e1 p2 r2 l2 e2 hle;have f2:=r2 0 p2;simp only[eS]at f2;rcases a9 x' (x+n)with hlt|hge
  ·have k1:=r1 (x'-x) (fu 0xf1018f1108f031f02a110081f210 p1 hlt);rw[show x+(x'-x)=x' by exact fk 0xf11f110ff18f1108ff120a2f100f010 hle]at k1;have hy:=(hm.eq k1 f2).mp rfl;rcases cx (x'-x)with h0|h0
   ·have hx:x=x':=by exact fk 0xf80101f1001f102f0822100f011 hle h0
    have hyy:y=y':=by exact gK 0xf81001f8001f302f0842340a2f211 hy h0
    clear hy;subst hx hyy;rcases Nat.lt_trichotomy n n' with h|h|h;·exact absurd (r2 n h) e1
    ·subst h;exact .inl rfl
    ·exact absurd (r1 n' h) e2
   ·have k2:=r1 (x'-x-1) (fu 0xf10118f1000008f241f308121a01f1831100 hlt h0);rw[show x+(x'-x-1)=x'-1 by exact fk 0xf1118f10008ff11108f100008fff1008ff1881f18810ff118081f1180810fff1008ff431a2f2081f18001820100 h0,show y+(x'-x-1)=y'-1 by exact gK 0xf100118f1008ff1001108f10008fff800181f8001810ff18001081f180010810fff650a2f4081340a2f18301840211 hy h0]at k2;exact absurd k2 (l2 (fk 0xf10110081f2081f101 h0) (gK 0xf180013081f4081340a2f211 hy h0))
  ·have k1:=r1 (n-1) (f5 0xf18f1108f011f0081f1800 p1);have:=(hm _ _ _ _ k1 f2).mp (fu 0xf1018f11108f231a1f201a00081f1800 p1 hge);exact .inr ⟨hge,by show y+n<=y';exact fu 0xf1101210a0f230a1f1811 this⟩
 rcases eN c.1 c'.1 with hle|hle
 ·rcases key h h' hle with e|e;·exact .inl e
  ·exact .inr (.inl e)
 ·rcases key h' h hle with e|e;·exact .inl e.symm
  ·exact .inr (.inr e)
def ug(K:Nat->Nat->Prop)(alo ahi blo bhi:Nat):Prop:=∀c,qt K c->(c.1+c.2.2<=alo/\c.2.1+c.2.2<=blo)\/Ak alo ahi blo bhi c.1 c.2.1 c.2.2\/(ahi<=c.1/\bhi<=c.2.1)
theorem RO.kept{m:Mt}{la lb:Nat}(hb:∀x y,K x y->x<la)(hm:jv K)(hK:∀x y,K x y->m x y=true)(dom:∀x y n,0<n->x+n<=la->y+n<=lb->ve m x y n->∃c:T3,0<c.2.2/\mR K c.1 c.2.1 c.2.2/\A8 c (x,y,n)){alo ahi blo bhi:Nat}{S:List T3}(h:RO m alo ahi blo bhi S):ahi<=la->bhi<=lb->ug K alo ahi blo bhi->∀c,c∈S↔(qt K c/\Ak alo ahi blo bhi c.1 c.2.1 c.2.2):=by
 have mrun:∀{c:T3},qt K c->ve m c.1 c.2.1 c.2.2:=fun hc t ht=>hK _ _ (hc.run t ht)
 induction h with
 |none b=>
  intro h1 h2 hcl c;constructor;·intro h;cases h
  ·rintro⟨h,hw⟩;have:=b.best c.1 c.2.1 c.2.2 h.pos hw (mrun h);have:=h.pos;lia
 |@some alo ahi blo bhi i j k l r b hk _ _ ih1 ih2=>
  intro hla hlb hcl;obtain⟨w1,w2,w3,w4⟩:=b.win;have hmax:qt K (i,j,k):=by
   obtain⟨⟨x,y,n⟩,hn,hr,hge,hb1,hb2⟩:=dom i j k hk (gK 0xf111132a0f032a0100f hla w2) (gK 0xf111132a0f032a0100f hlb w4) b.run;simp only at hn hr;refine Fk (vf hb hn hr) fun d n' d1 d2 d3 hM=>?_;delta Ew at hge;delta qB at hb1 hb2;simp only at hge hb1 hb2;rcases hcl _ hM with hc|hc|hc;·simp only at hc;exact(iz [_,_,_,_,_,_,_,_,_] [] 0xf1011010001f110100101f9f3417a01407a0762637a00627a0654a0320100f51715071 w1 w3 d3 hc.1 hc.2 hb1).elim
   ·have hbest:=b.best _ _ _ hM.pos hc (mrun hM);simp only at hbest;have e1:x-d=i:=by exact Dx 0xf1080f110f1001011018f100000108f10000011fff1010f1010080f101010f100000081ff110080f11010f10000011fff4172f607045274518032703182760174271741832273218210a0f1071151 d3 hbest hge
    have e2:y-d=j:=by exact Dx 0xf1000100f800000000010f1000000081ff100100010f10100f8000000010f10000011fff11100f100100010f1000001008f8000000010f10000011fff07172f17070274272741852275218076043274318052705184272210a0f131161 d3 e1 hge hbest
    have e3:n'=k:=by exact Dx 0xf1001f101f1000001008f100000108f10000011fff1008f108f11ff322f607045274518032703182760174271741832273218210a0f1071151 d3 hbest hge
    rw[e1,e2,e3]at hM;exact hM
   ·simp only at hc;exact(Dx 0xf101001001f10100011f9f0713a0510a07627401720413a0210a0f6071651 w2 w4 hc.1 hc.2 hb2).elim
  have cl1:ug K alo i blo j:=fun c hc=>by
   rcases hcl c hc with h|⟨h1,h2,h3,h4⟩|h;·exact .inl h
   ·rcases hc.cmp hm hmax with e|e|e;·subst e;exact .inr (.inr ⟨aH _,aH _⟩)
    ·exact .inr (.inl ⟨h1,e.1,h3,e.2⟩)
    ·exact .inr (.inr ⟨by have:=e.1;simp only at this;exact fu 0xf11200f210a0f this,by have:=e.2;simp only at this;exact fu 0xf11200f210a0f this⟩)
   ·exact .inr (.inr ⟨by exact gK 0xf111300f320210a0f w2 h.1,by exact gK 0xf111300f320210a0f w4 h.2⟩)
  have cl2:ug K (i+k) ahi (j+k) bhi:=fun c hc=>by
   rcases hcl c hc with h|⟨h1,h2,h3,h4⟩|h;·exact .inl ⟨by exact i8 0xf11141a32a0f032a0100f w1 h.1,by exact i8 0xf11141a32a0f032a0100f w3 h.2⟩
   ·rcases hc.cmp hm hmax with e|e|e;·subst e;exact .inl ⟨aH _,aH _⟩
    ·exact .inl ⟨by have:=e.1;simp only at this;exact gK 0xf1132a10a0f210a0f this,by have:=e.2;simp only at this;exact gK 0xf1132a10a0f210a0f this⟩
    ·exact .inr (.inl ⟨e.1,h2,e.2,h4⟩)
   ·exact .inr (.inr h)
  intro c;rw[aY,ak,ih1 (by exact gK 0xf111120f032a0100f hla w2) (by exact gK 0xf111120f032a0100f hlb w4) cl1 c,ih2 hla hlb cl2 c];constructor
  ·rintro(⟨hc,a1,a2,a3,a4⟩|rfl|⟨hc,a1,a2,a3,a4⟩);·exact⟨hc,by exact fk 0xf11100f100f a1,by exact i8 0xf111243a0f043a0210a0f w2 a2,by exact fk 0xf11100f100f a3,by exact i8 0xf111243a0f043a0210a0f w4 a4⟩
   ·exact⟨hmax,w1,w2,w3,w4⟩
   ·exact⟨hc,by exact gK 0xf111300f321a0100f w1 a1,by exact fu 0xf11210a0f210a0f a2,by exact gK 0xf111300f321a0100f w3 a3,by exact fu 0xf11210a0f210a0f a4⟩
  ·rintro⟨hc,a1,a2,a3,a4⟩;rcases hc.cmp hm hmax with e|e|e;·exact .inr (.inl e)
   ·exact .inl ⟨hc,a1,e.1,a3,e.2⟩
   ·exact .inr (.inr ⟨hc,e.1,a2,e.2,a4⟩)
end
theorem gY.from2{la lb:Nat}{b:Bool}{i j:Nat}{bs:List T3}(g:gY la lb b i j bs):∀t∈bs,j<=t.2.1:=by
 induction g with
 |nil _ _=>intro t ht;cases ht
 |cons h1 h2 h3 _ _ ih=>
  intro t ht;rcases ak.mp ht with rfl|ht;·exact h2
  ·have:=ih t ht;exact gK 0xf111300f321a0100f h2 this
theorem oH{ed:List Int}{la lb:Nat}{b:Bool}{i j:Nat}{S:List T3}(g:gY la lb b i j S)(h1:∀c∈S,∀t,t<c.2.2->ed[c.2.1+t]?=some ((c.1+t:Nat):Int))(h2:∀y v,ed[y]?=some v->j<=y->v<0\/∃c∈S,c.2.1<=y/\y<c.2.1+c.2.2):gJ ed j S:=by
 induction g with
 |nil _ _=>
  intro t ht hl;obtain⟨v,hv⟩:∃v,ed[t]?=some v:=⟨_,aK hl⟩;rcases h2 t v hv ht with h|⟨c,hc,_⟩;·exact⟨v,hv,h⟩
  ·cases hc
 |@cons b i j ai bj n r h3 h4 h5 _ g ih=>
  refine⟨fun t ht hl=>?_,fun d hd=>h1 _ bX d hd,ih (fun c hc=>h1 c (bv _ hc)) fun y v hv hy=>?_⟩
  ·have hlen:t<ed.length:=by have:=h1 (ai,bj,n) bX 0 h5;obtain⟨hh,_⟩:=List.getElem?_eq_some_iff.mp this;simp only at hh;exact fu 0xf111201f2081a1101f hl hh
   obtain⟨v,hv⟩:∃v,ed[t]?=some v:=⟨_,aK hlen⟩;rcases h2 t v hv ht with h|⟨c,hc,c1,c2⟩;·exact⟨v,hv,h⟩
   ·rcases ak.mp hc with rfl|hc;·simp only at c1;exact(fk 0xf119f010101f hl c1).elim
    ·have:=g.from2 c hc;exact(gK 0xf1119f231a0020101f hl c1 this).elim
  ·rcases h2 y v hv (gK 0xf111300f321a0100f h4 hy)with h|⟨c,hc,c1,c2⟩;·exact .inl h
   ·rcases ak.mp hc with rfl|hc;·simp only at c2;exact(fu 0xf119f10a21210a0f hy c2).elim
    ·exact .inr ⟨c,hc,c1,c2⟩
theorem xj{m:Mt}{la lb:Nat}{ed:List Int}(hlen:ed.length=lb)(hb:∀(y x:Nat),ed[y]?=some (x:Int)->x<la/\m x y=true)(hm:∀(x y x' y':Nat),ed[y]?=some (x:Int)->ed[y']?=some (x':Int)->(x<x'↔y<y'))(dom:∀x y n,0<n->x+n<=la->y+n<=lb->ve m x y n->∃c:T3,0<c.2.2/\(∀t,t<c.2.2->ed[c.2.1+t]?=some ((c.1+t:Nat):Int))/\A8 c (x,y,n)):gJ ed 0 (ro m (0,la,0,lb)):=by
 have hro:=kZ m (aV la) (aV lb)
 have hmem:=hro.kept (K:=fun x y=>ed[y]?=some (x:Int)) (la:=la) (lb:=lb) (fun x y h=>(hb y x h).1) hm (fun x y h=>(hb y x h).2) dom (aH _) (aH _) (fun c hc=>.inr (.inl ⟨aV _,by have:=(hb _ _ (hc.run (c.2.2-1) (by have:=hc.pos;exact f5 0xf18f1108f011f0081f1800 this))).1;have:=hc.pos;exact fu 0xf1101210a0f230a1f1811 (by assumption),aV _,by obtain⟨hh,_⟩:=List.getElem?_eq_some_iff.mp (hc.run (c.2.2-1) (by have:=hc.pos;exact f5 0xf18f1108f011f0081f1800 this));have:=hc.pos;exact gK 0xf18101132a0f042a1102f1831 hlen hh⟩))
 refine oH hro.good' (fun c hc t ht=>((hmem c).mp hc).1.run t ht) fun y v hv _=>?_
 rcases Int.lt_or_le v 0 with h|h
 ·exact .inl h
 ·obtain⟨x,rfl⟩:=Int.eq_ofNat_of_zero_le h;obtain⟨d,n',d1,d2,d3,hM⟩:=vf (K:=fun x y=>ed[y]?=some (x:Int)) (la:=la) (fun x y h=>(hb y x h).1) (x:=x) (y:=y) (n:=1) (iz [] [] 0xf118081ff) (fun t ht=>by
   have:t=0:=by exact f5 0xf1f11f0802f1801f ht
   subst this;simpa using hv);refine .inr ⟨_,(hmem _).mpr ⟨hM,aV _,?_,aV _,?_⟩,by simp only;exact fk 0xf11020ff101,by simp only;exact fu 0xf110113a21f1018a0f021 d3⟩;·have:=(hb _ _ (hM.run (n'-1) (by simp only;exact fk 0xf18f1108f121f1018a0f1810 d3))).1;simp only at this|-;exact gK 0xf110001324a0f354a1f1821101 this
  ·obtain⟨hh,_⟩:=List.getElem?_eq_some_iff.mp (hM.run (n'-1) (by simp only;exact fk 0xf18f1108f121f1018a0f1810 d3));simp only at hh|-;exact i8 0xf1810001145a0f065a1102f1841321 hlen hh
section
variable{M:Mt}{la lb:Nat}{K K':Nat->Nat->Prop}{P PX PY:Nat->Nat->Nat->Prop}
end
theorem ur{α:Type}{R:α->α->Prop}:∀{l:List α},l.Pairwise R->∀a∈l,∀b∈l,a=b\/R a b\/R b a
 |[],_,a,ha,_,_=>by cases ha
 |x::l,h,a,ha,b,hb=>by
  rw[List.pairwise_cons]at h;rcases ak.mp ha with e1|ha'
  ·rcases ak.mp hb with e2|hb';·exact .inl (e1.trans e2.symm)
   ·exact .inr (.inl (e1▸h.1 b hb'))
  ·rcases ak.mp hb with e2|hb';·exact .inr (.inr (e2▸h.1 a ha'))
   ·exact ur h.2 a ha' b hb'
def GP(c d:T3):Prop:=c.1+c.2.2<=d.1/\c.2.1+c.2.2<=d.2.1/\¬(c.1+c.2.2=d.1/\c.2.1+c.2.2=d.2.1)
theorem gY.all{la lb:Nat}{b:Bool}{i j:Nat}{S:List T3}(g:gY la lb b i j S):∀c∈S,0<c.2.2/\i<=c.1/\j<=c.2.1/\(b=false->¬(i=c.1/\j=c.2.1))/\c.1+c.2.2<=la/\c.2.1+c.2.2<=lb:=by
 induction g with
 |nil _ _=>intro c hc;cases hc
 |cons h1 h2 h3 h4 h5 ih=>
  intro c hc;rcases ak.mp hc with rfl|hc;·have:=h5.le;exact⟨h3,h1,h2,h4,this.1,this.2⟩
  ·refine Fm (ih c hc) fun a1 a2 a3 a4 a5 a6=>?_;exact⟨a1,by exact gK 0xf111300f321a0100f h1 a2,by exact gK 0xf111300f321a0100f h2 a3,fun _=>by exact jr 0xf1111030254276f321a02081100f h2 h3 a3,a5,a6⟩
theorem gY.pw{la lb:Nat}{b:Bool}{i j:Nat}{S:List T3}(g:gY la lb b i j S):S.Pairwise GP:=by
 induction g with
 |nil _ _=>exact .nil
 |cons h1 h2 h3 h4 h5 ih=>refine .cons (fun c hc=>?_) ih;refine Fm (h5.all c hc) fun a1 a2 a3 a4 a5 a6=>?_;exact⟨a2,a3,a4 rfl⟩
def KS(S:List T3)(i j:Nat):Prop:=∃c∈S,∃t,t<c.2.2/\i=c.1+t/\j=c.2.1+t
theorem KS.mono{S:List T3}(h:S.Pairwise GP):jv (KS S):=by
 rintro x y x' y' ⟨c,hc,t,ht,rfl,rfl⟩ ⟨d,hd,u,hu,rfl,rfl⟩
 rcases ur h c hc d hd with rfl|⟨a1,a2,_⟩|⟨a1,a2,_⟩
 ·exact⟨gK 0xf1123a13a120a10a1aff,gK 0xf1123a13a120a10a1aff⟩
 ·exact⟨uH 0xf111063a02a165a04a1af312a0101f ht a2,uH 0xf111063a02a165a04a1af312a0101f ht a1⟩
 ·exact⟨uH 0xf110106a45a102a43a1af312a0101f hu a1,uH 0xf110106a45a102a43a1af312a0101f hu a2⟩
noncomputable def wi(w:W4):PyData:=.tuple [.int w.1,.int w.2.1,.int w.2.2.1,.int w.2.2.2]
noncomputable def iA(t:T3):PyData:=.tuple [.int t.1,.int t.2.1,.int t.2.2]
noncomputable def j8(qs:List W4):Nat:=(qs.map fun w=>2*(w.2.1-w.1)+1).sum
theorem kY(a b:List W4):j8 (a++b)=j8 a+j8 b:=by delta j8;rw[ag,List.sum_append]
theorem uC:∀qs:List W4,qs.length<=j8 qs
 |[]=>aH _
 |w::qs=>by have:=uC qs;unfold j8 at this|-;rw[bJ,List.sum_cons,aM];exact gK 0xf1001118402baa180a0f100f321 this
noncomputable abbrev Ag(z:Value×Value×Value×Value)(L:Addr):Env:=callEnvC (ub 7 "get_matching_blocks" z) L 203
section
variable{X:Cx}{k:Nat}{as bs:List Int}{va vb:Value}
noncomputable def iR(as bs:List Int):W4:=(0,as.length,0,bs.length)
structure UW(as bs:List Int)(u:List W4)(w:W4):Prop where
 flat:u.flatMap (ro (mm as bs))=ro (mm as bs) w
 ms:j8 u<=2*(w.2.1-w.1)+1
 ok:∀v∈u,FD as.length bs.length v
theorem UW.one{w:W4}(h:FD as.length bs.length w):UW as bs [w] w:=⟨by simp,by simp[j8],fun v hv=>by rw[aa]at hv;subst hv;exact h⟩
theorem UW.none{a b c d:Nat}(h1:a<=b)(h2:c<=d)(h:¬a<b\/¬c<d):UW as bs [] (a,b,c,d):=⟨(B0 _ h1 h2 (gK 0xf101f11f2300108f321610168f h)).symm,by simp[j8],fun v hv=>by cases hv⟩
structure PW(as bs:List Int)(qs:List W4)(done:List T3):Prop where
 ok:∀w∈qs,FD as.length bs.length w
 le:j8 qs<=2001
 perm:(done++qs.flatMap (ro (mm as bs))).Perm (ro (mm as bs) (iR as bs))
theorem PW.pop0{qs:List W4}{done:List T3}{alo ahi blo bhi i j:Nat}(P:PW as bs (qs++[(alo,ahi,blo,bhi)]) done)(best:ku (mm as bs) alo ahi blo bhi i j 0):PW as bs qs done/\j8 qs<j8 (qs++[(alo,ahi,blo,bhi)]):=by
 have hm:=kY qs [(alo,ahi,blo,bhi)]
 have h1:0<j8 [(alo,ahi,blo,bhi)]:=by simp[j8]
 refine⟨⟨fun w hw=>P.ok w (cE _ hw),by have:=P.le;exact fu 0xf1117d11910f7d1190021a02f hm this,?_⟩,by exact fu 0xf111011f208121a02f hm h1⟩
 have:=P.perm
 rwa [cL,cp,vq best,ar]at this
theorem PW.step{qs u1 u2:List W4}{done:List T3}{alo ahi blo bhi i j kk:Nat}(P:PW as bs (qs++[(alo,ahi,blo,bhi)]) done)(best:ku (mm as bs) alo ahi blo bhi i j kk)(hk:0<kk)(U1:UW as bs u1 (alo,i,blo,j))(U2:UW as bs u2 (i+kk,ahi,j+kk,bhi)):PW as bs (qs++u1++u2) (done++[(i,j,kk)])/\j8 (qs++u1++u2)<j8 (qs++[(alo,ahi,blo,bhi)]):=by
 have hm:j8 [(alo,ahi,blo,bhi)]=2*(ahi-alo)+1:=by simp[j8]
 have hl:j8 (qs++u1++u2)<j8 (qs++[(alo,ahi,blo,bhi)]):=by have b:=best.win;unfold Ak at b;have m1:=U1.ms;have m2:=U2.ms;dsimp only at m1 m2;rw[kY,kY,kY,hm];exact uH 0xf1100220199f11202201909ff11022201099f112222010909ff180702ba6a546aa1f182702ba50181702ba40302a02100081f02a30120131 hk b.1 b.2.1 m1 m2
 refine⟨⟨fun w hw=>?_,by have:=P.le;exact fk 0xf1117d11900f7d11910101f hl this,?_⟩,hl⟩
 ·rcases aY.mp hw with hw|hw
  ·rcases aY.mp hw with hw|hw;·exact P.ok w (cE _ hw)
   ·exact U1.ok w hw
  ·exact U2.ok w hw
 ·rw[List.perm_iff_count];intro t;rw[<-P.perm.count_eq t];simp only[cL,List.count_append,cp,BP best hk,U1.flat,U2.flat,List.count_cons,List.count_nil];exact i8 0xf1f1f14a3a2a0a432aa108a0aa2ff
theorem PW.len{qs:List W4}{done:List T3}(P:PW as bs qs done):qs.length<=2001/\done.length<=(ro (mm as bs) (iR as bs)).length:=by
 have h1:=uC qs
 have h2:=P.le
 have h3:=P.perm.length_eq
 rw[aP]at h3
 exact i8 0xf8001f111f4207d119007f432a27d11910100f h1 h2 h3
structure FW(x dx:Addr)(o:Obj)(la lb:Nat)(ρ:List (Str×B)):Prop where
 s:fn ρ "self" (.raw (.ref x))
 d:fn ρ "#d" (.at dx o)
 la:fn ρ "la" (.val (.int la))
 lb:fn ρ "lb" (.val (.int lb))
theorem FW.pt{x dx:Addr}{o:Obj}{la lb:Nat}{ρ:List (Str×B)}(C:FW x dx o la lb ρ){z:Str}{b:B}(h:(j6 "self" z&&(j6 "#d" z&&(j6 "la" z&&j6 "lb" z)))=true):FW x dx o la lb (put ρ z b):=by
 simp only[ad]at h
 exact⟨hn C.s h.1,hn C.d h.2.1,hn C.la h.2.2.1,hn C.lb h.2.2.2⟩
inductive BI(x dx:Addr)(o:Obj)(as bs:List Int)(n:Nat)(ρ:List (Str×B)):Prop
 |mk {qs:List W4}{done:List T3}:FW x dx o as.length bs.length ρ->fn ρ "queue" (.own (qs.map wi))->fn ρ "matching_blocks" (.own (done.map m0))->PW as bs qs done->n=j8 qs->BI x dx o as bs n ρ
noncomputable abbrev FM(i:Nat):Stmt:=fh (fm (kj 7)) i
theorem oW{x dx:Addr}{o:Obj}{L:Addr}{z:Value×Value×Value×Value}{ρ:List (Str×B)}{qs:List W4}{ds:List PyData}{i j kk ahi bhi:Nat}{P:Fl->List (Str×B)->Prop}(f:FW x dx o as.length bs.length ρ)(hq:fn ρ "queue" (.own (qs.map wi)))(hm:fn ρ "matching_blocks" (.own ds))(hi:fn ρ "i" (.val (.int i)))(hj:fn ρ "j" (.val (.int j)))(hk:fn ρ "k" (.val (.int kk)))(ha:fn ρ "ahi" (.val (.int ahi)))(hb:fn ρ "bhi" (.val (.int bhi)))(hl:qs.length<5000)(h1:i+kk<=ahi)(h2:ahi<=as.length)(h3:j+kk<=bhi)(h4:bhi<=bs.length)(hP:∀{ρ':List (Str×B)}{u:List W4},FW x dx o as.length bs.length ρ'->fn ρ' "queue" (.own ((qs++u).map wi))->fn ρ' "matching_blocks" (.own ds)->UW as bs u (i+kk,ahi,j+kk,bhi)->P .next ρ'):iP X (k+3) (Ag z L) ρ ((zv (fh (rO (FM 5)) 2)).drop 2) P:=by
 have hsl:5000<=sizeLine:=by decide
 refine fe (gu (gL (f0 (f7 (fc hi) (fc hk)) (fc ha) rfl) fun _=>gL (f0 (f7 (fc hj) (fc hk)) (fc hb) rfl) fun _=>iw) (fun hc=>?_) fun hc=>?_)
 ·simp only[ct,ad,aQ]at hc;refine fe (gw (ds:=qs.map wi) (d:=wi (i+kk,ahi,j+kk,bhi)) hq (gV (fg (f7 (fc hi) (fc hk)) (fg (fc ha) (fg (f7 (fc hj) (fc hk)) (fg (fc hb) fq)))) (by simp only[aM,aZ];decide)) (by rw[aB];exact fk 0xf111100f1138829013882901f hl hsl) (fj (fj ?_)));exact hP (f.pt rfl) (by rw[ag];exact hs) (hn hm rfl) (.one ⟨h1,h2,h3,h4⟩)
 ·simp only[ct,dj,az]at hc;exact fj (fj (hP f (by rw[ar];exact hq) hm (.none h1 h3 (i8 0xf101f11f413a16210a168f4c1c3ca462c1c0ca468f hc))))
theorem rz(F:DF X)(G:MF X){x dx:Addr}{o:Obj}{m:Str->Option Value}{N:Nat}{L:Addr}{z:Value×Value×Value×Value}{ρ:List (Str×B)}{Q:Fl->List (Str×B)->Prop}(ho:gr o m N)(M:uG X X.h₀ x dx m va vb as bs)(da:X.dat (.list (as.map .int)) va)(db:X.dat (.list (bs.map .int)) vb)(hza:as.length<=1000)(hzb:bs.length<=1000)(h64:(ro (mm as bs) (iR as bs)).length<64)(f:FW x dx o as.length bs.length ρ)(h5:fn ρ "queue" (.own [wi (iR as bs)]))(h6:fn ρ "matching_blocks" (.own []))(hq:∀ρ' (done:List T3),FW x dx o as.length bs.length ρ'->fn ρ' "matching_blocks" (.own (done.map m0))->done.Perm (ro (mm as bs) (iR as bs))->Q .next ρ'):jz X (k+3) (Ag z L) ρ (FM 5) Q:=by
 have hsl:5000<=sizeLine:=by decide
 refine nc (BI x dx o as bs) (n:=j8 [iR as bs]) (.mk (qs:=[iR as bs]) (done:=[]) f h5 h6 ⟨fun w hw=>?_,?_,by simp⟩ rfl) ?_
 ·rw[aa]at hw;subst hw;exact⟨aV _,aH _,aV _,aH _⟩
 ·simp[j8,iR];exact f5 0xf217d019002b0f3e81900f hza
 ·rintro n ρ ⟨f,a5,a6,P,rfl⟩Q1 H1;rename_i qs done;have hl:=P.len;refine⟨_,yU (jy a5) (by rw[aB];exact fk 0xf111010f7d1191001388290f hsl hl.1),fun hb=>?_,fun hb=>?_⟩
  ·rcases List.eq_nil_or_concat qs with rfl|⟨qs,⟨alo,ahi,blo,bhi⟩,rfl⟩;·simp at hb
   clear hb;rw[List.concat_eq_append]at*;obtain⟨w1,w2,w3,w4⟩:=P.ok _ (bp _ (aa.mpr rfl));dsimp only at w1 w2 w3 w4;obtain⟨i,j,kk,best⟩:=lp (mm as bs) w1 w3;have bw:=best.win;unfold Ak at bw;rw[ag,List.map_singleton]at a5;rw[aP,bq]at hl;refine fe (DV (ds:=qs.map wi) (d:=wi (alo,ahi,blo,bhi)) a5 (by rw[aB];exact fk 0xf1110181a0f7d119181a001388290f hsl hl.1) (kt (f9 (fo (.inl rfl)) (f9 (fo (.inl rfl)) (f9 (fo (.inl rfl)) (f9 (fo (.inl rfl)) jg)))) rfl rfl) ?_);refine fe (mh (d:=vC i j kk) (Bo F G (y:="self") (x:=x) (dx:=dx) (m:=m) (N:=N) (alo:=alo) (ahi:=ahi) (blo:=blo) (bhi:=bhi) (hn (hn (hn (hn (hn f.s rfl) rfl) rfl) rfl) rfl) ⟨M.obj,.inl ⟨o,hn (hn (hn (hn (hn f.d rfl) rfl) rfl) rfl) rfl,ho⟩⟩ M da db w1 w2 w3 w4 (fk 0xf1111180a0f113882903e81900f hza hsl) (fk 0xf1111180a0f113882903e81900f hzb hsl) best (fg (fc (by k_mem)) (fg (fc (by k_mem)) (fg (fc (by k_mem)) (fg (fc (by k_mem)) fq))))) (uZ G (f9 (fo (.inl rfl)) (f9 (fo (.inl rfl)) (f9 (fo (.inl rfl)) jg))) rfl rfl) (fo (.inl rfl)) ?_);generalize hρ:(put (put (put (put (put (put (put (put (put ρ "queue" (.own (qs.map wi))) "alo" (.val (.int alo))) "ahi" (.val (.int ahi))) "blo" (.val (.int blo))) "bhi" (.val (.int bhi))) "i" (.val (.int i))) "j" (.val (.int j))) "k" (.val (.int kk))) "x" (.val (vC i j kk)):List (Str×B))=ρ1;have f1:FW x dx o as.length bs.length ρ1:=hρ▸((((((((f.pt rfl).pt rfl).pt rfl).pt rfl).pt rfl).pt rfl).pt rfl).pt rfl).pt rfl;have e1:fn ρ1 "queue" (.own (qs.map wi)):=by subst hρ;k_mem
   have e2:fn ρ1 "matching_blocks" (.own (done.map m0)):=by subst hρ;k_mem
   have e3:fn ρ1 "alo" (.val (.int alo)):=by subst hρ;k_mem
   have e4:fn ρ1 "ahi" (.val (.int ahi)):=by subst hρ;k_mem
   have e5:fn ρ1 "blo" (.val (.int blo)):=by subst hρ;k_mem
   have e6:fn ρ1 "bhi" (.val (.int bhi)):=by subst hρ;k_mem
   have e7:fn ρ1 "i" (.val (.int i)):=by subst hρ;k_mem
   have e8:fn ρ1 "j" (.val (.int j)):=by subst hρ;k_mem
   have e9:fn ρ1 "k" (.val (.int kk)):=by subst hρ;k_mem
   have e0:fn ρ1 "x" (.val (vC i j kk)):=by subst hρ;k_mem
   clear hρ f a5 a6;refine fe (gu (o5 (fc e9)) (fun hk=>?_) fun hk=>?_)
   ·have hk0:0<kk:=by simp at hk;exact f5 0xf1f11f0081f08026f hk
    refine fe (gw (ds:=done.map m0) (d:=vC i j kk) e2 (fc e0) (by rw[aB];exact fu 0xf1111120f02011388290400901f h64 hsl hl.2) ?_);have e2:fn (put ρ1 "matching_blocks" (.own (done.map m0++[vC i j kk]))) "matching_blocks" (.own ((done++[(i,j,kk)]).map m0)):=by rw[ag];exact hs
    have fin:∀{ρ':List (Str×B)}{u1 u2:List W4},UW as bs u1 (alo,i,blo,j)->FW x dx o as.length bs.length ρ'->fn ρ' "queue" (.own ((qs++u1++u2).map wi))->fn ρ' "matching_blocks" (.own ((done++[(i,j,kk)]).map m0))->UW as bs u2 (i+kk,ahi,j+kk,bhi)->Q1 .next ρ':=fun U1 g1 g2 g3 U2=>let⟨P',hlt⟩:=P.step best hk0 U1 U2;H1.next ⟨_,hlt,g1,g2,g3,P',rfl⟩;refine fe (gu (gL (f0 (fc (hn e3 rfl)) (fc (hn e7 rfl)) rfl) fun _=>gL (f0 (fc (hn e5 rfl)) (fc (hn e8 rfl)) rfl) fun _=>iw) (fun hc=>?_) fun hc=>?_)
    ·refine fe (gw (ds:=qs.map wi) (d:=wi (alo,i,blo,j)) (hn e1 rfl) (gV (fg (fc (hn e3 rfl)) (fg (fc (hn e7 rfl)) (fg (fc (hn e5 rfl)) (fg (fc (hn e8 rfl)) fq)))) (by simp only[aM,aZ];decide)) (by rw[aB];exact fk 0xf111010f7d119181a001388290f hsl hl.1) (fj ?_));have U1:UW as bs [(alo,i,blo,j)] (alo,i,blo,j):=.one ⟨bw.1,by dsimp only;exact gK 0xf111120f032a0100f w2 bw.2.1,bw.2.2.1,by dsimp only;exact gK 0xf111120f032a0100f w4 bw.2.2.2⟩;exact oW (qs:=qs++[(alo,i,blo,j)]) ((f1.pt rfl).pt rfl) (by rw[ag];exact hs) (hn e2 rfl) (hn (hn e7 rfl) rfl) (hn (hn e8 rfl) rfl) (hn (hn e9 rfl) rfl) (hn (hn e4 rfl) rfl) (hn (hn e6 rfl) rfl) (by rw[aP,bq];exact f5 0xf11138829180a1f7d119180a0f hl.1) bw.2.1 w2 bw.2.2.2 w4 fun g1 g2 g3 U2=>fj (fin U1 g1 g2 g3 U2)
    ·simp only[ct,dj,az]at hc;exact fj (oW (f1.pt rfl) (hn e1 rfl) e2 (hn e7 rfl) (hn e8 rfl) (hn e9 rfl) (hn e4 rfl) (hn e6 rfl) (f5 0xf1113882901f7d119180a0f hl.1) bw.2.1 w2 bw.2.2.2 w4 fun g1 g2 g3 U2=>fj (fin (.none bw.1 bw.2.2.1 (gK 0xf101f11f321610168f3c2c461c0c468f hc)) g1 (by rw[ar];exact g2) g3 U2))
   ·obtain rfl:kk=0:=by simpa using hk
    obtain⟨P',hlt⟩:=P.pop0 best;exact fj (fj (H1.next ⟨_,hlt,f1,e1,e2,P',rfl⟩))
  ·obtain rfl:qs=[]:=by cases qs with
    |nil=>rfl|cons w qs=>simp at hb
   exact hq ρ done f a6 (by simpa using P.perm)
end
def Kn(nx ny:List Int)(x y:Nat):Prop:=∃v,nx[x]?=some v/\ny[y]?=some v
noncomputable def nC(nx ny:List Int):List Int:=ny.map fun v=>if v∈nx then((nx.idxOf v:Nat):Int)else-1
theorem l8{nx ny:List Int}(hm:jv (Kn nx ny)){x y:Nat}:(nC nx ny)[y]?=some (x:Int)↔Kn nx ny x y:=by
 delta nC
 rw[aS]
 cases e:ny[y]? with
 |none=>
  constructor;·intro h;cases h
  ·rintro⟨v,_,h⟩;rw[e]at h;cases h
 |some v=>
  simp only[Option.map_some,dm];constructor
  ·intro h;split at h
   ·rename_i hv;have h':nx.idxOf v=x:=by exact fk 0xf11f81f102f1c0c5f h
    refine⟨v,?_,e⟩;rw[<-h',aK (List.idxOf_lt_length_of_mem hv),fL]
   ·exact(f5 0xf19f0c18e5f h).elim
  ·rintro⟨w,h1,h2⟩;rw[e]at h2;cases h2;have hv:v∈nx:=ay h1;rw[aN hv];have h3:Kn nx ny (nx.idxOf v) y:=⟨v,by rw[aK (List.idxOf_lt_length_of_mem hv),fL],e⟩;have h4:Kn nx ny x y:=⟨v,h1,e⟩;have:=(hm.eq h3 h4).mpr rfl;exact fk 0xf11f81f1c0c5f102f this
theorem i4{as bs:List Int}{x y:Nat}:mm as bs x y=true↔∃v,as[x]?=some v/\bs[y]?=some v:=by
 delta mm
 cases h1:as[x]? with
 |none=>simp
 |some u=>cases h2:bs[y]? with
  |none=>simp|some w=>
   simp only[dm];constructor;·intro h;exact⟨u,rfl,by simpa using(of_decide_eq_true (by simpa using h):u=w).symm⟩
   ·rintro⟨v,rfl,rfl⟩;simp
theorem ask{X Y nx ny:List Int}(lx:X.length=nx.length)(ly:Y.length=ny.length)(hK:∀x y,Kn nx ny x y->mm X Y x y=true)(hm:jv (Kn nx ny))(dom:∀x y n,0<n->ve (mm X Y) x y n->∃c:T3,0<c.2.2/\mR (Kn nx ny) c.1 c.2.1 c.2.2/\A8 c (x,y,n)):gJ (nC nx ny) 0 (ro (mm X Y) (iR X Y)):=by
 delta iR
 refine xj (by delta nC;rw[aB,ly]) (fun y x h=>?_) (fun x y x' y' h h'=>hm _ _ _ _ ((l8 hm).mp h) ((l8 hm).mp h')) fun x y n hn hx hy hr=>?_
 ·have h':=(l8 hm).mp h;refine⟨?_,hK _ _ h'⟩;obtain⟨v,h1,_⟩:=h';obtain⟨h2,_⟩:=List.getElem?_eq_some_iff.mp h1;exact fu 0xf111021f121102f lx h2
 ·refine qe (dom x y n hn hr) fun c h1 h2 h3=>?_;exact⟨c,h1,fun t ht=>(l8 hm).mpr (h2 t ht),h3⟩
section
variable{as bs:List Int}{S:List T3}{K K':Nat->Nat->Prop}{PX PY:Nat->Nat->Nat->Prop}{X Y:List Int}{x y n:Nat}
end
noncomputable abbrev k4(t:T3):List Int:=[-(t.2.2:Int),t.1,t.2.1,t.2.2]
noncomputable def oZ(as bs:List Int)(i j:Nat)(m:Nat):List T3:=if(as.drop i).take (m+1)=(bs.drop j).take (m+1)then[(i,j,m+1)]else[]
noncomputable def pS(as bs:List Int)(i j:Nat):List T3:=(List.range (min (as.length-i) (bs.length-j))).flatMap (oZ as bs i j)
noncomputable def sz(as bs:List Int)(i:Nat):List T3:=(List.range bs.length).flatMap (pS as bs i)
noncomputable def uI(as bs:List Int):List T3:=(List.range as.length).flatMap (sz as bs)
theorem rG{as bs:List Int}{i j n:Nat}(hi:i+n<=as.length)(hj:j+n<=bs.length):(as.drop i).take n=(bs.drop j).take n↔ve (mm as bs) i j n:=by
 constructor
 ·intro h t ht;have e:=congrArg (·[t]?) h;simp only[cC,aN ht,cD]at e;refine i4.mpr ⟨as[i+t]'(gK 0xf111230a1f131210a0f hi ht),aK _,?_⟩;rw[<-e,aK (by exact gK 0xf111230a1f131210a0f hi ht)]
 ·intro h;refine fS fun t=>?_;rw[cC,cC];split
  ·rename_i ht;rw[cD,cD];refine gR (i4.mp (h t ht)) fun v e1 e2=>?_;rw[e1,e2]
  ·rfl
theorem r5{as bs:List Int}{t:T3}:t∈uI as bs↔0<t.2.2/\t.1+t.2.2<=as.length/\t.2.1+t.2.2<=bs.length/\ve (mm as bs) t.1 t.2.1 t.2.2:=by
 obtain⟨i,j,n⟩:=t
 delta uI sz pS oZ
 simp only[List.mem_flatMap,fK]
 constructor
 ·rintro⟨i',hi,j',hj,m,hm,h⟩;split at h
  ·rename_i e;rw[aa]at h;cases h;have h1:i+(m+1)<=as.length:=by exact i8 0xf10001818f10001808ff100010f1182a0a0f0721101f653431010 hi hm
   have h2:j+(m+1)<=bs.length:=by exact i8 0xf10001808f10001818ff100010f1182a0a0f0721101f653010431 hj hm
   exact⟨cV _,h1,h2,(rG h1 h2).mp e⟩
  ·cases h
 ·rintro⟨h0,h1,h2,h3⟩;try simp only at h0 h1 h2 h3
  obtain⟨m,rfl⟩:∃m,n=m+1:=⟨n-1,by exact f5 0xf18f1108ff11f110ff181a02f0081f1800 h0⟩;exact⟨i,by exact fu 0xf11201f2181a0a0f h1,j,by exact fu 0xf11201f2181a0a0f h2,m,by exact i8 0xf101000101f10010101f0711f4181a3a02181a0a0f653341021 h1 h2,by rw[aN ((rG h1 h2).mpr h3)];exact .head _⟩
theorem ik{α β:Type}{f:α->List β}{c:Nat}:∀{l:List α},(∀x∈l,(f x).length<=c)->(l.flatMap f).length<=l.length*c
 |[],_=>by simp
 |x::l,h=>by have h1:=h x bX;have h2:=ik (l:=l) fun y hy=>h y (bv _ hy);rw[dp,aP,aM,Nat.add_mul,Nat.one_mul];exact gK 0xf11113a20a0f320100f h1 h2
theorem Bs{as bs:List Int}(ha:as.length<=14)(hb:bs.length<=14):(uI as bs).length<=2744:=by
 have h1:∀i j m,(oZ as bs i j m).length<=1:=fun i j m=>by delta oZ;split<;>simp
 have h2:∀i j,(pS as bs i j).length<=14:=fun i j=>by have:=ik (l:=List.range (min (as.length-i) (bs.length-j))) (f:=oZ as bs i j) fun m _=>h1 i j m;rw[bB,Nat.mul_one]at this;delta pS;exact i8 0xf110100108f110100118fe810f0710e800f653401321 hb this
 have h3:∀i,(sz as bs i).length<=196:=fun i=>by have:=ik (l:=List.range bs.length) (f:=pS as bs i) fun j _=>h2 i j;rw[bB]at this;delta sz;exact fk 0xf10ee1c40910f00ef10e800f hb this
 have:=ik (l:=List.range as.length) (f:=sz as bs) fun i _=>h3 i
 rw[bB]at this
 delta uI;exact fk 0xf1c4e1ab81910f0c4f10e800f ha this
noncomputable def EF(a b:T3):Bool:=!gv (k4 b) (k4 a)
noncomputable def srt(as bs:List Int):List T3:=(uI as bs).mergeSort EF
theorem pP(as bs:List Int):(srt as bs).Perm (uI as bs):=List.mergeSort_perm _ _
theorem qM(as bs:List Int):(srt as bs).Pairwise fun a b=>gv (k4 b) (k4 a)=false:=by
 refine(List.pairwise_mergeSort (le:=EF) (fun a b c h1 h2=>?_) (fun a b=>?_) _).imp fun{a b}h=>by simpa[EF]using h
 ·simp only[EF,dI]at h1 h2|-;exact cu (O:=jT) (show jT.kle (k4 a) (k4 b)from h1) (show jT.kle (k4 b) (k4 c)from h2)
 ·simp only[EF,ch,dI];cases h:gv (k4 b) (k4 a)with|false=>exact .inl rfl|true=>exact .inr (KeyOrd.klt_asymm (O:=jT) (show jT.klt (k4 b) (k4 a)from h))
noncomputable def iB(t c:T3):Bool:=(decide (t.1+t.2.2<=c.1)&&decide (t.2.1+t.2.2<=c.2.1))||(decide (c.1+c.2.2<=t.1)&&decide (c.2.1+c.2.2<=t.2.1))
theorem m6{t c:T3}:iB t c=true↔qB t c\/qB c t:=by
 delta iB qB
 simp only[ch,ad,aQ]
noncomputable def kA(kept:List T3)(t:T3):List T3:=if(kept.filter (iB t)).length=kept.length then kept++[t]else kept
noncomputable def lP(rs:List T3):List T3:=rs.foldl kA []
theorem qN{p:T3->Bool}{l:List T3}:(l.filter p).length=l.length↔∀c∈l,p c=true:=by
 rw[List.length_filter_eq_length_iff]
structure KI(S pre kept:List T3):Prop where
 mem:∀c,c∈kept↔c∈pre/\c∈S
 apart:kept.Pairwise fun c d=>qB c d\/qB d c
theorem xg{as bs:List Int}{S pre kept post:List T3}{t:T3}(hS:RO (mm as bs) 0 as.length 0 bs.length S)(g:S.Pairwise GP)(hall:∀c,c∈pre++t::post↔c∈uI as bs)(hs:(pre++t::post).Pairwise fun a b=>gv (k4 b) (k4 a)=false)(K:KI S pre kept):KI S (pre++[t]) (kA kept t):=by
 have hpos:∀c∈S,0<c.2.2:=fun c hc=>(hS.mem c hc).1
 have ht:t∈uI as bs:=(hall t).mp (bp _ (.head _))
 refine FA (r5.mp ht) fun t0 t1 t2 t3=>?_
 delta kA
 by_cases hin:t∈S
 ·by_cases hp:t∈pre
  ·have hk:t∈kept:=(K.mem t).mpr ⟨hp,hin⟩;rw[aL fun h=>by have:=m6.mp (qN.mp h t hk);unfold qB at this;exact fu 0xf101f101f9f202a0101a07202a0101a0780081f t0 this];exact⟨fun c=>by rw[K.mem c,aY,aa];exact⟨fun h=>⟨.inl h.1,h.2⟩,fun h=>⟨h.1.elim id fun e=>e▸hp,h.2⟩⟩,K.apart⟩
  ·have hap:∀c∈kept,qB c t\/qB t c:=fun c hc=>by
    obtain⟨h1,h2⟩:=(K.mem c).mp hc;rcases ur g c h2 t hin with e|e|e;·exact absurd (e▸h1) hp
    ·exact .inl ⟨e.1,e.2.1⟩
    ·exact .inr ⟨e.1,e.2.1⟩
   rw[aN (qN.mpr fun c hc=>m6.mpr (hap c hc).symm)];refine⟨fun c=>?_,List.pairwise_append.mpr ⟨K.apart,dR _ _,fun c hc d hd=>by rw[aa.mp hd];exact hap c hc⟩⟩;rw[aY,aY,aa,K.mem c];constructor
   ·rintro(h|rfl);·exact⟨.inl h.1,h.2⟩
    ·exact⟨.inr rfl,hin⟩
   ·rintro⟨h|rfl,h2⟩;·exact .inl ⟨h,h2⟩
    ·exact .inr rfl
 ·obtain⟨c,hc,hge,hn1,hn2⟩:=hS.dom t.1 t.2.1 t.2.2 t0 ⟨aV _,t1,aV _,t2⟩ t3;have hcm:=hS.mem c hc;have hct:c∈uI as bs:=r5.mpr ⟨hcm.1,hcm.2.1.2.1,hcm.2.1.2.2.2,hcm.2.2⟩;have hne:c≠t:=fun e=>hin (e▸hc);have hlt:gv (k4 c) (k4 t)=true:=by
   obtain⟨c1,c2,c3⟩:=c;obtain⟨u1,u2,u3⟩:=t;delta Ew at hge;simp only at hge;simp only[gv];by_cases e1:-(c3:Int)=-(u3:Int)
   ·rw[aN e1];have e1':c3=u3:=by exact fk 0xf81f11f102f1ce0ce5f e1
    by_cases e2:(c1:Int)=u1
    ·rw[aN e2];have e2':c1=u1:=by exact fk 0xf11f81f102f1c0c5f e2
     by_cases e3:(c2:Int)=u2
     ·have e3':c2=u2:=by exact fk 0xf11f81f102f1c0c5f e3
      subst e1' e2' e3';exact absurd rfl hne
     ·rw[aL e3];exact bH (jr 0xf10001f1001ff10010f801f5c4c4f5c4c565403227321801270118322102f e1' e2' hge e3)
    ·rw[aL e2];exact bH (jr 0xf101f801ff110f801f3c2c4f3c2c565403227321801270118102f e1' hge e2)
   ·rw[aL e1];exact bH (jr 0xf11f1008f108f11ff1ce0ce4f54032273218012701181ce0ce56f e1 hge)
  have hcp:c∈pre:=by
   rcases aY.mp ((hall c).mpr hct)with h|h;·exact h
   ·rcases ak.mp h with h|h;·exact absurd h hne
    ·have:=(List.pairwise_cons.mp (List.pairwise_append.mp hs).2.1).1 c h;rw[hlt]at this;cases this
  have hck:c∈kept:=(K.mem c).mpr ⟨hcp,hc⟩;rw[aL fun h=>by
   rcases m6.mp (qN.mp h c hck)with h|h;·exact hn2 h
   ·exact hn1 h];exact⟨fun d=>by rw[K.mem d,aY,aa];exact⟨fun h=>⟨.inl h.1,h.2⟩,fun h=>⟨h.1.elim id fun e=>absurd (e▸h.2) hin,h.2⟩⟩,K.apart⟩
theorem tI{as bs:List Int}{S rs:List T3}(hS:RO (mm as bs) 0 as.length 0 bs.length S)(g:S.Pairwise GP)(hall:∀c,c∈rs↔c∈uI as bs)(hs:rs.Pairwise fun a b=>gv (k4 b) (k4 a)=false):∀(pre post kept:List T3),rs=pre++post->KI S pre kept->KI S rs (post.foldl kA kept)
 |pre,[],kept,e,K=>by rw[e,ar];exact K
 |pre,t::post,kept,e,K=>by rw[eG];exact tI hS g hall hs (pre++[t]) post _ (by rw[e,av];rfl) (xg hS g (by rw[<-e];exact hall) (by rw[<-e];exact hs) K)
theorem wE{as bs:List Int}{S:List T3}(hS:RO (mm as bs) 0 as.length 0 bs.length S)(g:S.Pairwise GP):(∀c,c∈lP (srt as bs)↔c∈S)/\(lP (srt as bs)).Pairwise fun c d=>qB c d\/qB d c:=by
 have hall:∀c,c∈srt as bs↔c∈uI as bs:=fun c=>(pP as bs).mem_iff
 have K:=tI hS g hall (qM as bs) [] (srt as bs) [] rfl ⟨fun c=>by simp,.nil⟩
 refine⟨fun c=>(K.mem c).trans ⟨fun h=>h.2,fun h=>⟨?_,h⟩⟩,K.apart⟩
 have hcm:=hS.mem c h
 exact(hall c).mpr (r5.mpr ⟨hcm.1,hcm.2.1.2.1,hcm.2.1.2.2.2,hcm.2.2⟩)
noncomputable def l7(ed:List Int)(c:T3)(d:Nat):List Int:=(List.range d).foldl (fun e t=>e.set (c.2.1+t) ((c.1+t:Nat):Int)) ed
theorem nv(ed:List Int)(c:T3)(d:Nat):l7 ed c (d+1)=(l7 ed c d).set (c.2.1+d) ((c.1+d:Nat):Int):=by
 delta l7;rw[dG,dq];rfl
theorem lX(d:Nat)(ed:List Int)(c:T3):(l7 ed c d).length=ed.length:=by
 induction d with
 |zero=>rfl
 |succ d ih=>rw[nv,List.length_set,ih]
theorem pc{ed:List Int}{c:T3}:∀{d:Nat},c.2.1+d<=ed.length->∀y,(l7 ed c d)[y]?=if c.2.1<=y/\y<c.2.1+d then some ((c.1+(y-c.2.1):Nat):Int)else ed[y]?
 |0,_,y=>by rw[aL (by exact fk 0xf11080a1110076ff)];rfl
 |d+1,h,y=>by
  rw[nv];by_cases e:c.2.1+d=y;·subst e;rw[List.getElem?_set_self (by rw[lX];exact fu 0xf11210a1f2181a0a0f h),aN (by exact fk 0xf1f1f181a0a10a110a007ff),show c.2.1+d-c.2.1=d by exact fk 0xf11f110ff18f108ff122ff010a0]
  ·rw[List.getElem?_set_ne e,pc (by exact fu 0xf11210a0f2181a0a0f h) y];by_cases h1:c.2.1<=y/\y<c.2.1+d;·rw[aN h1,aN (by exact fu 0xf101f11f182a0a111007f20a11100f h1.1 h1.2)]
   ·rw[aL h1,aL (by exact fu 0xf101f11f101ff181a0a2120076f10a2120076210a26f e h1)]
noncomputable def sG(lb:Nat)(l:List T3):List Int:=l.foldl (fun e c=>l7 e c c.2.2) (List.replicate lb (-1))
structure EG(lb:Nat)(done:List T3)(ed:List Int):Prop where
 len:ed.length=lb
 old:∀c∈done,∀t,t<c.2.2->ed[c.2.1+t]?=some ((c.1+t:Nat):Int)
 inv:∀(y:Nat) (v:Int),ed[y]?=some v->v<0\/∃c∈done,c.2.1<=y/\y<c.2.1+c.2.2
theorem EG.step{lb:Nat}{done:List T3}{ed:List Int}{c:T3}(h:EG lb done ed)(hb:c.2.1+c.2.2<=lb)(hap:∀d∈done,qB d c\/qB c d):EG lb (done++[c]) (l7 ed c c.2.2)where
 len:=by rw[lX];exact h.len
 old d hd t ht:=by
  rw[pc (by rw[h.len];exact hb)];rcases aY.mp hd with hd|hd
  ·have:=hap d hd;unfold qB at this;rw[aL (by exact uH 0xf1010f10110f65a04a104a5076f465a0263a07514a0312a078101f ht this)];exact h.old d hd t ht
  ·rw[aa.mp hd]at ht|-;rw[aN (by exact fu 0xf11f1f12a02a102a207f101f ht),show c.2.1+t-c.2.1=t by exact fk 0xf11f110ff18f108ff122ff010a0]
 inv y v hv:=by
  rw[pc (by rw[h.len];exact hb)]at hv;split at hv;·rename_i hy;exact .inr ⟨c,bp _ (.head _),hy⟩
  ·rcases h.inv y v hv with h1|⟨d,hd,h1⟩;·exact .inl h1
   ·exact .inr ⟨d,cE _ hd,h1⟩
theorem zY{lb:Nat}:∀(rest done:List T3) (ed:List Int),EG lb done ed->(∀c∈rest,c.2.1+c.2.2<=lb)->(done++rest).Pairwise (fun c d=>qB c d\/qB d c)->EG lb (done++rest) (rest.foldl (fun e c=>l7 e c c.2.2) ed)
 |[],done,ed,h,_,_=>by rw[ar];exact h
 |c::rest,done,ed,h,hb,hp=>by have h':=h.step (hb c (.head _)) fun d hd=>(List.pairwise_append.mp hp).2.2 d hd c (.head _);have:=zY rest (done++[c]) _ h' (fun d hd=>hb d (.tail _ hd)) (by rw[av];exact hp);rw[av]at this;exact this
theorem uc(lb:Nat)(l:List T3):(sG lb l).length=lb:=by
 delta sG
 have:∀(l:List T3) (ed:List Int),(l.foldl (fun e c=>l7 e c c.2.2) ed).length=ed.length:=fun l=>by induction l with|nil=>intro ed;rfl|cons c l ih=>intro ed;rw[eG,ih,lX]
 rw[this,dk]
noncomputable def Ey(as bs:List Int):List Int:=sG bs.length (lP (srt as bs))
noncomputable def mZ(as bs:List Int):List T3:=ro (mm as bs) (iR as bs)
theorem jX(as bs:List Int):RO (mm as bs) 0 as.length 0 bs.length (mZ as bs):=kZ _ (aV _) (aV _)
theorem CB(as bs:List Int):(Ey as bs).length=bs.length:=uc _ _
theorem zl(as bs:List Int):gJ (Ey as bs) 0 (mZ as bs):=by
 have g:=(jX as bs).good'
 obtain⟨hm,hp⟩:=wE (jX as bs) g.pw
 have hb:∀c∈lP (srt as bs),c.2.1+c.2.2<=bs.length:=fun c hc=>(g.all c ((hm c).mp hc)).2.2.2.2.2
 have h:=zY (lb:=bs.length) (lP (srt as bs)) [] (List.replicate bs.length (-1)) ⟨dk,fun c hc=>(by cases hc),fun y v hv=>by
  rw[List.getElem?_replicate]at hv;split at hv;·cases hv;exact .inl (by decide)
  ·cases hv⟩ hb (by rw[cA];exact hp)
 rw[cA]at h
 exact oH g (fun c hc=>h.old c ((hm c).mpr hc)) fun y v hv _=>(h.inv y v hv).imp id fun⟨c,hc,h1⟩=>⟨c,(hm c).mp hc,h1⟩
theorem RO.sub{m m':Mt}{alo ahi blo bhi:Nat}{S:List T3}(h:RO m alo ahi blo bhi S)(hsub:∀x y,m' x y=true->m x y=true):(∀c∈S,ve m' c.1 c.2.1 c.2.2)->RO m' alo ahi blo bhi S:=by
 induction h with
 |none b=>intro _;exact .none ⟨b.win,fun t ht=>absurd ht (ew _),b.zero,fun x y n hn hw hr=>b.best x y n hn hw fun t ht=>hsub _ _ (hr t ht)⟩
 |some b hk _ _ ih1 ih2=>intro hS;exact .some ⟨b.win,hS _ (bp _ (.head _)),b.zero,fun x y n hn hw hr=>b.best x y n hn hw fun t ht=>hsub _ _ (hr t ht)⟩ hk (ih1 fun c hc=>hS c (cE _ hc)) (ih2 fun c hc=>hS c (bp _ (.tail _ hc)))
theorem BL{X Y X' Y':List Int}(lx:X'.length=X.length)(ly:Y'.length=Y.length)(h1:∀x y v,X'[x]?=some v->Y'[y]?=some v->mm X Y x y=true)(h2:∀x y,KS (mZ X Y) x y->X'[x]?=Y'[y]?):mZ X' Y'=mZ X Y:=by
 have h:=(jX X Y).sub (m':=mm X' Y') (fun x y q=>let⟨v,a,b⟩:=i4.mp q;h1 x y v a b) fun c hc t ht=>by
  have hm:=(jX X Y).mem c hc;have hx:c.1+t<X'.length:=by have:=hm.2.1.2.1;exact i8 0xf1111024a1f134a0321102f lx ht this
  exact i4.mpr ⟨X'[c.1+t],aK hx,by rw[<-h2 (c.1+t) (c.2.1+t) ⟨c,hc,t,ht,rfl,rfl⟩];exact aK hx⟩
 have h':=jX X' Y'
 rw[lx,ly]at h'
 exact h'.unique h
noncomputable abbrev Cd:=Bool×Nat×Nat×Nat×Nat
noncomputable def kN(i ai j bj:Nat):List Cd:=if i=ai/\j=bj then[]else[(false,i,ai,j,bj)]
noncomputable def lQ(la lb:Nat):Nat->Nat->List ni->List Cd
 |i,j,[]=>kN i la j lb
 |i,j,(ai,bj,n)::r=>kN i ai j bj++(true,ai,ai+n,bj,bj+n)::lQ la lb (ai+n) (bj+n) r
noncomputable def mU(b n:Nat):List Int:=(List.range n).map fun t=>((b+t:Nat):Int)
noncomputable def lV(row:List Int):Nat->List Cd->List Int
 |_,[]=>[]
 |b,(true,i1,i2,_,_)::r=>(row.drop i1).take (i2-i1)++lV row b r
 |b,(false,_,_,j1,j2)::r=>mU b (j2-j1)++lV row (b+(j2-j1)) r
noncomputable def zE(c:Cd):Cd:=(c.1,c.2.2.2.1,c.2.2.2.2,c.2.1,c.2.2.1)
noncomputable def D0(c:T3):T3:=(c.2.1,c.1,c.2.2)
theorem wv(i ai j bj:Nat):(kN i ai j bj).map zE=kN j bj i ai:=by
 delta kN
 by_cases h:i=ai/\j=bj
 ·rw[aN h,aN h.symm];rfl
 ·rw[aL h,aL fun q=>h q.symm];rfl
theorem vh{la lb:Nat}:∀(S:List ni) (i j:Nat),(lQ la lb i j S).map zE=lQ lb la j i (S.map D0)
 |[],i,j=>wv _ _ _ _
 |(ai,bj,n)::r,i,j=>by show(kN i ai j bj++(true,ai,ai+n,bj,bj+n)::lQ la lb (ai+n) (bj+n) r).map zE=kN j bj i ai++(true,bj,bj+n,ai,ai+n)::lQ lb la (bj+n) (ai+n) (r.map D0);rw[ag,wv,bJ,vh r];rfl
theorem gY.sw{la lb:Nat}{b:Bool}{i j:Nat}{S:List T3}(g:gY la lb b i j S):gY lb la b j i (S.map D0):=by
 induction g with
 |nil h1 h2=>exact .nil h2 h1
 |cons h1 h2 h3 h4 h5 ih=>exact .cons h2 h1 h3 (fun hb q=>h4 hb q.symm) ih
theorem KS.sw{S:List T3}{x y:Nat}:KS (S.map D0) x y↔KS S y x:=by
 delta KS
 constructor
 ·rintro⟨c,hc,t,ht,e1,e2⟩;refine gR (List.mem_map.mp hc) ?_;rintro d hd rfl;exact⟨d,hd,t,ht,e2,e1⟩
 ·rintro⟨c,hc,t,ht,e1,e2⟩;exact⟨D0 c,List.mem_map.mpr ⟨c,hc,rfl⟩,t,ht,e2,e1⟩
theorem gf(b n:Nat):(mU b n).length=n:=by simp[mU]
theorem jx{b n t:Nat}(h:t<n):(mU b n)[t]?=some ((b+t:Nat):Int):=by simp[mU,h]
theorem Ab(row:List Int)(b i ai j bj:Nat)(r:List Cd)(h1:j<=bj):lV row b (kN i ai j bj++r)=mU b (bj-j)++lV row (b+(bj-j)) r:=by
 delta kN
 by_cases h:i=ai/\j=bj
 ·rw[aN h,show bj-j=0 by exact fk 0xf1f118f108ff0822f102f010 h.2];rfl
 ·rw[aL h];rfl
structure NX(row:List Int)(b lb j:Nat)(S:List T3)(F:List Int):Prop where
 len:F.length=lb-j
 kept:∀x y,KS S x y->j<=y->F[y-j]?=row[x]?
 new:∀y,j<=y->y<lb->(¬∃x,KS S x y)->∃v:Nat,F[y-j]?=some (v:Int)/\b<=v/\v<b+(lb-j)
 rise:∀y y' (v v':Int),j<=y->y<y'->y'<lb->(¬∃x,KS S x y)->(¬∃x,KS S x y')->F[y-j]?=some v->F[y'-j]?=some v'->v<v'
theorem CZ{la lb:Nat}{fb:Bool}{i j:Nat}{S:List T3}{row:List Int}(hr:row.length=la)(g:gY la lb fb i j S):∀b,NX row b lb j S (lV row b (lQ la lb i j S)):=by
 induction g with
 |@nil fb i j h1 h2=>
  intro b;have e:lV row b (lQ la lb i j [])=mU b (lb-j):=by have:=Ab row b i la j lb [] h2;rw[ar]at this;rw[show lQ la lb i j []=kN i la j lb from rfl,this];show _++[]=_;rw[ar]
  rw[e];have no:∀{x y:Nat},¬KS [] x y:=fun⟨c,hc,_⟩=>by cases hc
  refine⟨gf _ _,fun x y h=>absurd h no,fun y h3 h4 _=>⟨b+(y-j),jx (fu 0xf101018f1110108f431f211100f021010 h3 h4),by exact fu 0xf130a00ff211,by exact gK 0xf101018f1110108f53a43a1f211100f021010 h3 h4⟩,fun y y' v v' h3 h4 h5 _ _ e1 e2=>?_⟩;rw[jx (by exact gK 0xf1101018f11110108f541f321211100f031010 h3 h4 h5)]at e1;rw[jx (by exact gK 0xf1001018f11110108f541f321211100f031020 h3 h4 h5)]at e2;cases e1;cases e2;exact gK 0xf101018f1110108f53ac43ac4f211100f021010 h3 h4
 |@cons fb i j ai bj n r h1 h2 h3 h4 h5 ih=>
  intro b;have ih:=ih (b+(bj-j));have hle:=h5.le;have e:lV row b (lQ la lb i j ((ai,bj,n)::r))=mU b (bj-j)++((row.drop ai).take n++lV row (b+(bj-j)) (lQ la lb (ai+n) (bj+n) r)):=by show lV row b (kN i ai j bj++(true,ai,ai+n,bj,bj+n)::lQ la lb (ai+n) (bj+n) r)=_;rw[Ab _ _ _ _ _ _ _ h2];show _++((row.drop ai).take (ai+n-ai)++_)=_;rw[bI]
  rw[e];generalize lV row (b+(bj-j)) (lQ la lb (ai+n) (bj+n) r)=F at ih;have lm:((row.drop ai).take n).length=n:=by rw[bC,bR,hr];exact fu 0xf110101f101ff118f108ff142f210a0f313021 hle.1
  have at1:∀y,j<=y->y<bj->(mU b (bj-j)++((row.drop ai).take n++F))[y-j]?=some ((b+(y-j):Nat):Int):=fun y a1 a2=>by rw[dC (by rw[gf];exact fu 0xf101018f1110108f431f211100f021010 a1 a2),jx (by exact fu 0xf101018f1110108f431f211100f021010 a1 a2)]
  have at2:∀y,bj<=y->y<bj+n->(mU b (bj-j)++((row.drop ai).take n++F))[y-j]?=row[ai+(y-bj)]?:=fun y a1 a2=>by rw[ba (by rw[gf];exact fu 0xf11018f108f430f100f211200 a1),gf,dC (by rw[lm];exact gK 0xf1010188f1001008ff1001088f10010008ff061f02a110081f540321310 h3 a2),cC,aN (by exact gK 0xf1010188f1001008ff1001088f10010008ff061f02a110081f540321310 h3 a2),cD];congr 1;exact gK 0xf11818f100008ff118108f1000008fff1110818f1000008ff11108108f10000008ffff1110008f1000008ff11100008f10000008fff11100008f10000008ff111000008f100000008fffff18181f181810ff10008ff181081f1810810ff100008fff10808f100008ff108008f1000008ffff072a62a2f100f130540010030 h2
  have at3:∀y,bj+n<=y->(mU b (bj-j)++((row.drop ai).take n++F))[y-j]?=F[y-(bj+n)]?:=fun y a1=>by rw[ba (by rw[gf];exact gK 0xf11018f108f540f210a0f321300 a1),gf,ba (by rw[lm];exact gK 0xf10101018f111010108f620f321a0100f541010031 h2 a1),lm];congr 1;exact gK 0xf118118f1000008ff1181108f10000008fff11001810ff11108118f10000008ff111081108f100000008fff111010810fff111010ff181881f1818810ff100008ff11001810ff1810881f18108810ff1000008ff111010810fff111010ff17072f321a02081100f21a30260540010030 h2 h3 a1
  have kr:∀{x y:Nat},KS r x y->bj+n<=y:=fun⟨c,hc,t,ht,e1,e2⟩=>by have:=h5.from2 c hc;exact i8 0xf111043a0f143a021a02f e2 this
  have kc:∀{x y:Nat},KS ((ai,bj,n)::r) x y↔(bj<=y/\y<bj+n/\x=ai+(y-bj))\/KS r x y:=fun{x y}=>by
   constructor
   ·rintro⟨c,hc,t,ht,e1,e2⟩;rcases ak.mp hc with rfl|hc;·simp only at ht e1 e2;exact .inl (jr 0xf81018f10108ff18011f180110ff8011f1001f63a2215a4174507f05a4203a22101f540 ht e1 e2)
    ·exact .inr ⟨c,hc,t,ht,e1,e2⟩
   ·rintro(⟨a1,a2,a3⟩|⟨c,hc,t,ht,e1,e2⟩);·exact⟨(ai,bj,n),.head _,y-bj,by show y-bj<n;exact fu 0xf1018f1108f031f02a110081f210 h3 a2,a3,by show y=bj+(y-bj);exact fk 0xf18f1108ff11f110ff20a12f100f010 a1⟩
    ·exact⟨c,.tail _ hc,t,ht,e1,e2⟩
  have un:∀{y:Nat},(¬∃x,KS ((ai,bj,n)::r) x y)->(y<bj\/bj+n<=y)/\¬∃x,KS r x y:=fun{y}h=>⟨by
   rcases a9 y bj with q|q;·exact .inl q
   ·rcases a9 y (bj+n)with q'|q';·exact absurd ⟨_,kc.mpr (.inl ⟨q,q',rfl⟩)⟩ h
    ·exact .inr q',fun⟨x,hx⟩=>h ⟨x,kc.mpr (.inr hx)⟩⟩;refine⟨by rw[aP,aP,gf,lm,ih.len];exact gK 0xf1118f10008ff11108f100008fff11018f100008ff110108f1000008ffff1881f18810ff1018081f10180810fff110881f1108810ff11108081f111080810ffff652a4a2f321a0100f03021a30010 h2 hle.2,fun x y h hj=>?_,fun y a1 a2 h=>?_,fun y y' v v' a1 a2 a3 h h' e1 e2=>?_⟩
  ·rcases kc.mp h with⟨b1,b2,b3⟩|h;·rw[at2 y b1 b2,b3]
   ·rw[at3 y (kr h)];exact ih.kept x y h (kr h)
  ·obtain⟨h1',h2'⟩:=un h;rcases h1' with q|q;·exact⟨b+(y-j),at1 y a1 q,by exact fu 0xf130a00ff211,by exact jr 0xf1011018f11110108f075a65a1f041430210a0f321340 hle.2 a1 q⟩
   ·refine qe (ih.new y q a2 h2') fun v e1 e2 e3=>?_;exact⟨v,by rw[at3 y q];exact e1,by exact gK 0xf1001300f340a0f211 e2,by exact uH 0xf100010188f110000010ff1001101088f1100000010ff076a51f27176aa51241a0321100f41a30010031 h2 a2 q e3⟩
  ·obtain⟨p1,p2⟩:=un h;obtain⟨q1,q2⟩:=un h';rcases p1 with p1|p1
   ·rw[at1 y a1 p1]at e1;cases e1;rcases q1 with q1|q1
    ·rw[at1 y' (by exact fu 0xf111200f211100f a1 a2) q1]at e2;cases e2;exact gK 0xf101018f1110108f53ac43ac4f211100f021010 a1 a2
    ·rw[at3 y' q1]at e2;refine qe (ih.new y' q1 a3 q2) fun u w1 w2 w3=>?_;rw[w1]at e2;cases e2;exact i8 0xf1101018f11110108f4c53ac4f463a0211100f021010 a1 p1 w2
   ·rw[at3 y p1]at e1;rw[at3 y' (by exact gK 0xf111132a0f032a0101f a2 p1)]at e2;exact ih.rise y y' v v' p1 a2 a3 p2 q2 e1 e2
theorem EB{X Y:List Int}{x y:Nat}(h:KS (mZ X Y) x y):mm X Y x y=true:=by
 obtain⟨c,hc,t,ht,rfl,rfl⟩:=h
 exact((jX X Y).mem c hc).2.2 t ht
theorem tF{X Y:List Int}{x y:Nat}(h:KS (mZ X Y) x y):X[x]?=Y[y]?:=by
 refine gR (i4.mp (EB h)) fun v a b=>?_
 rw[a,b]
theorem wG(X Y:List Int):jv (KS (mZ X Y)):=KS.mono (jX X Y).good'.pw
section
variable(t:Nat->List Int)
noncomputable def ou(k:Nat):List Cd:=lQ (t k).length (t (k+1)).length 0 0 (mZ (t k) (t (k+1)))
noncomputable def fw(row:List Int)(m:Nat):Nat->List Int
 |0=>row
 |d+1=>lV (fw row m d) (100*(m+d)+100) (ou t (m+d))
noncomputable def bw(row:List Int)(m:Nat):Nat->List Int
 |0=>row
 |d+1=>lV (bw row m d) (100*(m-1-d)+100) ((ou t (m-1-d)).map zE)
noncomputable def gq(row:List Int)(m k:Nat):List Int:=if k<m then bw t row m (m-k)else fw t row m (k-m)
end
def mS(t:Nat->List Int):Prop:=∀k,(t k).length<=14
variable{t:Nat->List Int}
structure vJ(t:Nat->List Int)(k:Nat)(A B:List Int):Prop where
 la:A.length=(t k).length
 lb:B.length=(t (k+1)).length
 kept:∀x y,KS (mZ (t k) (t (k+1))) x y->A[x]?=B[y]?
 sub:∀(x y:Nat) (v:Int),A[x]?=some v->B[y]?=some v->mm (t k) (t (k+1)) x y=true
theorem vJ.sof{k:Nat}{A B:List Int}(h:vJ t k A B):mZ A B=mZ (t k) (t (k+1)):=BL h.la h.lb h.sub h.kept
structure sX(t:Nat->List Int)(k:Nat)(row:List Int):Prop where
 len:row.length=(t k).length
 eq:∀(x x':Nat) (v:Int),row[x]?=some v->row[x']?=some v->(t k)[x]?=(t k)[x']?
def jR(row:List Int)(b:Nat):Prop:=∀(x:Nat) (v:Int),row[x]?=some v->v<b
def Cv(row:List Int)(b:Nat):Prop:=∀(x:Nat) (v:Int),row[x]?=some v->v<100\/(b:Int)<=v
def jf(t:Nat->List Int)(k:Nat)(row:List Int):Prop:=∀(x:Nat) (v:Int),row[x]?=some v->v<100->(t k)[x]?=some v
theorem su{X Y:List Int}{x y:Nat}{v:Int}(hx:X[x]?=Y[y]?)(hl:x<X.length):mm X Y x y=true:=i4.mpr ⟨X[x],aK hl,by rw[<-hx];exact aK hl⟩
theorem pR{row:List Int}{x:Nat}{v:Int}(h:row[x]?=some v):x<row.length:=(List.getElem?_eq_some_iff.mp h).1
theorem AW{k:Nat}{row:List Int}(b:Nat)(hl:row.length=(t k).length):NX row b (t (k+1)).length 0 (mZ (t k) (t (k+1))) (lV row b (ou t k)):=CZ hl (jX _ _).good' b
theorem CX{k:Nat}{row:List Int}(b:Nat)(hl:row.length=(t (k+1)).length):NX row b (t k).length 0 ((mZ (t k) (t (k+1))).map D0) (lV row b ((ou t k).map zE)):=by
 delta ou
 rw[vh]
 exact CZ hl (jX _ _).good'.sw b
theorem NX.at{row F:List Int}{b lb:Nat}{S:List T3}(N:NX row b lb 0 S F){y:Nat}{v:Int}(h:F[y]?=some v):(∃x,KS S x y/\row[x]?=some v)\/((¬∃x,KS S x y)/\(b:Int)<=v/\v<b+lb):=by
 have hy:=pR h
 rw[N.len,cB]at hy
 by_cases hk:∃x,KS S x y
 ·obtain⟨x,hx⟩:=hk;have:=N.kept x y hx (aV _);rw[cB,h]at this;exact .inl ⟨x,hx,this.symm⟩
 ·refine qe (N.new y (aV _) hy hk) fun u e h1 h2=>?_;rw[cB,h]at e;cases e;exact .inr ⟨hk,by exact fk 0xf111c0c3f100f h1,by exact fu 0xf10112c1ca0c4f31a01f0821 h2⟩
theorem NX.uniq{row F:List Int}{b lb:Nat}{S:List T3}(N:NX row b lb 0 S F){y y':Nat}{v:Int}(h:F[y]?=some v)(h':F[y']?=some v)(hk:¬∃x,KS S x y)(hk':¬∃x,KS S x y'):y=y':=by
 have hy:=pR h;have hy':=pR h'
 rw[N.len,cB]at hy hy'
 rcases Nat.lt_trichotomy y y' with q|q|q
 ·have:=N.rise y y' v v (aV _) q hy' hk hk' (by rw[cB];exact h) (by rw[cB];exact h');exact iz [_,_] [_] 0xf1102f004f this
 ·exact q
 ·have:=N.rise y' y v v (aV _) q hy hk' hk (by rw[cB];exact h') (by rw[cB];exact h);exact iz [_,_] [_] 0xf1102f004f this
theorem wU{R F o n:List Int}{b lb:Nat}{S:List T3}(N:NX R b lb 0 S F)(hs:∀x y,KS S x y->o[x]?=n[y]?)(he:∀(x x':Nat) (v:Int),R[x]?=some v->R[x']?=some v->o[x]?=o[x']?)(hfr:∀(x:Nat) (v:Int),R[x]?=some v->v<(b:Int)\/(b:Int)+lb<=v):(∀(y y':Nat) (v:Int),F[y]?=some v->F[y']?=some v->n[y]?=n[y']?)/\∀(x y:Nat) (v:Int),R[x]?=some v->F[y]?=some v->o[x]?=n[y]?:=by
 constructor
 ·intro y y' v h h';rcases N.at h with⟨x,hx,e⟩|⟨hk,h1,h2⟩
  ·rcases N.at h' with⟨x',hx',e'⟩|⟨hk',h1',h2'⟩;·rw[<-hs x y hx,<-hs x' y' hx'];exact he x x' v e e'
   ·exact(hfr x v e).elim (fun q=>by lia) fun q=>by lia
  ·rcases N.at h' with⟨x',hx',e'⟩|⟨hk',h1',h2'⟩;·exact(hfr x' v e').elim (fun q=>by lia) fun q=>by lia
   ·rw[N.uniq h h' hk hk']
 ·intro x y v h h';rcases N.at h' with⟨x',hx',e'⟩|⟨hk',h1',h2'⟩;·rw[<-hs x' y hx'];exact he x x' v h e'
  ·exact(hfr x v h).elim (fun q=>by lia) fun q=>by lia
theorem wY(hs:mS t){k:Nat}{row:List Int}(L:sX t k row)(hb:jR row (100*k+100)):sX t (k+1) (lV row (100*k+100) (ou t k))/\jR (lV row (100*k+100) (ou t k)) (100*(k+1)+100)/\vJ t k row (lV row (100*k+100) (ou t k)):=by
 have N:=AW (t:=t) (100*k+100) L.len
 have h14:=hs (k+1)
 obtain⟨s1,s2⟩:=wU N (fun x y h=>tF h) L.eq fun x v h=>.inl (hb x v h)
 have hlen:=N.len
 rw[cB]at hlen
 refine⟨⟨hlen,s1⟩,fun y v h=>?_,⟨L.len,hlen,fun x y h=>?_,fun x y v h h'=>?_⟩⟩
 ·rcases N.at h with⟨x,_,e⟩|⟨_,_,h2⟩;·have:=hb x v e;exact iz [_] [_] 0xf116409180a64bac04f6409064bac04f this
  ·exact iz [_,_] [_] 0xf1116409181a64bac04f0c6409164baca04e800f h14 h2
 ·have:=N.kept x y h (aV _);rw[cB]at this;exact this.symm
 ·exact su (v:=v) (s2 x y v h h') (by rw[<-L.len];exact pR h)
theorem wk(hs:mS t){k:Nat}{row:List Int}(L:sX t (k+1) row)(hb:Cv row (100*(k+1)+100)):sX t k (lV row (100*k+100) ((ou t k).map zE))/\Cv (lV row (100*k+100) ((ou t k).map zE)) (100*k+100)/\vJ t k (lV row (100*k+100) ((ou t k).map zE)) row:=by
 have N:=CX (t:=t) (100*k+100) L.len
 have h14:=hs k
 obtain⟨s1,s2⟩:=wU N (fun x y h=>(tF (KS.sw.mp h)).symm) L.eq fun x v h=>by
  rcases hb x v h with q|q;·exact .inl (iz [_] [_] 0xf116409064bac04f640904f q)
  ·exact .inr (iz [_,_] [_] 0xf11100c6409164baca3f06409181a64bac3e800f h14 q)
 have hlen:=N.len
 rw[cB]at hlen
 refine⟨⟨hlen,s1⟩,fun y v h=>?_,⟨hlen,L.len,fun x y h=>?_,fun x y v h h'=>?_⟩⟩
 ·rcases N.at h with⟨x,_,e⟩|⟨_,h1,_⟩
  ·rcases hb x v e with q|q;·exact .inl q
   ·exact .inr (iz [_] [_] 0xf1106409064bac3f06409180a64bac3f q)
  ·exact .inr h1
 ·have:=N.kept y x (KS.sw.mpr h) (aV _);rw[cB]at this;exact this
 ·exact su (v:=v) (s2 y x v h' h).symm (by rw[<-hlen];exact pR h)
theorem BM{k:Nat}{row:List Int}(hl:row.length=(t k).length)(h:jf t k row):jf t (k+1) (lV row (100*k+100) (ou t k)):=fun y v hv h100=>by
 rcases(AW (t:=t) (100*k+100) hl).at hv with⟨x,hx,e⟩|⟨_,h1,_⟩
 ·rw[<-tF hx];exact h x v e h100
 ·exact(iz [_] [_] 0xf119f06409064bac3640904f h100 h1).elim
theorem Bg{k:Nat}{row:List Int}(hl:row.length=(t (k+1)).length)(h:jf t (k+1) row):jf t k (lV row (100*k+100) ((ou t k).map zE)):=fun y v hv h100=>by
 rcases(CX (t:=t) (100*k+100) hl).at hv with⟨x,hx,e⟩|⟨_,h1,_⟩
 ·rw[tF (KS.sw.mp hx)];exact h x v e h100
 ·exact(iz [_] [_] 0xf119f06409064bac3640904f h100 h1).elim
theorem vB(hs:mS t){row:List Int}{m:Nat}(L:sX t m row)(hb:jR row (100*m+100)):∀d,sX t (m+d) (fw t row m d)/\jR (fw t row m d) (100*(m+d)+100)
 |0=>⟨L,hb⟩
 |d+1=>let⟨a,b⟩:=vB hs L hb d;let⟨c,e,_⟩:=wY hs a b;⟨c,e⟩
theorem u9(hs:mS t){row:List Int}{m:Nat}(L:sX t m row)(hb:Cv row (100*m+100)):∀d,d<=m->sX t (m-d) (bw t row m d)/\Cv (bw t row m d) (100*(m-d)+100)
 |0,_=>⟨L,hb⟩
 |d+1,h=>by
  obtain⟨a,b⟩:=u9 hs L hb d (fk 0xf11100f1180a0f h);have e:m-d=(m-1-d)+1:=by exact fk 0xf1188f111008ff111088f1110008fff1010ff1811f18110ff1810ff108ff184a22f1180a0f0301810010 h
  rw[e]at a b;refine qd (wk hs a b) fun c e' _=>?_;rw[show m-(d+1)=m-1-d by exact fk 0xf10000118f100001008ff100001108f1000010008fff101018f108ff422f184a52f1001311801181a00 e];exact⟨c,e'⟩
theorem oV(hs:mS t){row:List Int}{m:Nat}(L:sX t m row)(hb:jR row (100*m+100))(h:jf t m row):∀d,jf t (m+d) (fw t row m d)
 |0=>h
 |d+1=>BM (vB hs L hb d).1.len (oV hs L hb h d)
theorem oR(hs:mS t){row:List Int}{m:Nat}(L:sX t m row)(hb:Cv row (100*m+100))(h:jf t m row):∀d,d<=m->jf t (m-d) (bw t row m d)
 |0,_=>h
 |d+1,hd=>by
  have a:=(u9 hs L hb d (fk 0xf11100f1180a0f hd)).1.len;have b:=oR hs L hb h d (fk 0xf11100f1180a0f hd);have e:m-d=(m-1-d)+1:=by exact fk 0xf1188f111008ff111088f1110008fff1010ff1811f18110ff1810ff108ff184a22f1180a0f0301810010 hd
  rw[e]at a b;rw[show m-(d+1)=m-1-d by exact fk 0xf10000118f100001008ff100001108f1000010008fff101018f108ff422f184a52f1001311801181a00 e];exact Bg a b
theorem l9(hs:mS t){row:List Int}{m:Nat}(L:sX t m row)(hb:jR row 100)(k:Nat):vJ t k (gq t row m k) (gq t row m (k+1)):=by
 delta gq
 have hf:jR row (100*m+100):=fun x v h=>by have:=hb x v h;exact iz [_] [_] 0xf116409064bac04f6409c04f this
 have ho:Cv row (100*m+100):=fun x v h=>.inl (hb x v h)
 by_cases h:k<m
 ·rw[aN h];have e1:m-k=(m-1-k)+1:=by exact fk 0xf1188f111008ff111088f1110008fff1010ff1811f18110ff1810ff108ff184a22f101f0301810010 h
  have e2:m-1-(m-1-k)=k:=by exact fk 0xf10010118f100000008ff100101108f1000000008fff100018f108ff142f183a52f1003201211801 e1
  have e3:m-(m-1-k)=k+1:=by exact fk 0xf10000118f100000008ff100000108f1000000008fff101018f108ff181a42f183a52f1003001211801 e1
  have hh:(if k+1<m then bw t row m (m-(k+1))else fw t row m (k+1-m))=bw t row m (m-1-k):=by
   by_cases h':k+1<m;·rw[aN h',show m-(k+1)=m-1-k by exact fk 0xf10000118f1000000010ff100000010ff101018f100000010ff422f0181a1184a52f1001311801181a00 e1 h']
   ·rw[aL h',show k+1-m=0 by exact fk 0xf1f118f108ff0822f101f1180a0 h,show m-1-k=0 by exact fk 0xf1f11000018f10000108ff0832f0181a16183a42f1001211801 e1 h'];rfl
  rw[hh,e1];obtain⟨a,b⟩:=u9 hs L ho (m-1-k) (fk 0xf1011030ff1211801);rw[e3]at a b;show vJ t k (lV (bw t row m (m-1-k)) (100*(m-1-(m-1-k))+100) ((ou t (m-1-(m-1-k))).map zE)) _;rw[e2];exact(wk hs a b).2.2
 ·rw[aL h,aL (by exact fk 0xf111180a16f1016f h),show k+1-m=(k-m)+1 by exact fk 0xf118f11108ff1010ff181f1810ff108ff183a22f1016f1001180a0 h];obtain⟨a,b⟩:=vB hs L hf (k-m);have e:m+(k-m)=k:=by exact fk 0xf11f110ff18f1108ff021a2f1016f100 h
  have:=wY hs a b;rw[e]at this;show vJ t k _ (lV (fw t row m (k-m)) (100*(m+(k-m))+100) (ou t (m+(k-m))));rw[e];exact this.2.2
theorem nD(hs:mS t){row:List Int}{m:Nat}(L:sX t m row)(hb:jR row 100)(k:Nat):(gq t row m k).length=(t k).length:=(l9 hs L hb k).la
theorem mL(hs:mS t){row:List Int}{m:Nat}(L:sX t m row)(hb:jR row 100)(h1:jf t m row)(k:Nat):jf t k (gq t row m k):=by
 delta gq
 have hf:jR row (100*m+100):=fun x v h=>by have:=hb x v h;exact iz [_] [_] 0xf116409064bac04f6409c04f this
 have ho:Cv row (100*m+100):=fun x v h=>.inl (hb x v h)
 by_cases h:k<m
 ·rw[aN h];have:=oR hs L ho h1 (m-k) (fk 0xf11020ff101);rwa [show m-(m-k)=k by exact fk 0xf181f1810ff1010ff118f1008ff1010ff032f101f210010 h]at this
 ·rw[aL h];have:=oV hs L hf h1 (k-m);rwa [show m+(k-m)=k by exact fk 0xf11f110ff18f1108ff021a2f1016f100 h]at this
theorem kz{f:Int×Int->Int}{A B:List Int}{x:Nat}{v:Int}:((A.zip B).map f)[x]?=some v↔∃a b,A[x]?=some a/\B[x]?=some b/\f (a,b)=v:=by
 rw[aS,Option.map_eq_some_iff]
 constructor
 ·rintro⟨⟨a,b⟩,h,rfl⟩;obtain⟨h1,h2⟩:=List.getElem?_zip_eq_some.mp h;exact⟨a,b,h1,h2,rfl⟩
 ·rintro⟨a,b,h1,h2,rfl⟩;exact⟨(a,b),List.getElem?_zip_eq_some.mpr ⟨h1,h2⟩,rfl⟩
theorem qO{f:Int×Int->Int}{A B A' B':List Int}{x y:Nat}(h:A[x]?=A'[y]?)(h':B[x]?=B'[y]?):((A.zip B).map f)[x]?=((A'.zip B').map f)[y]?:=by
 apply Option.ext
 intro v
 rw[kz,kz,h,h']
theorem nU{f:Int×Int->Int}{A B:List Int}(h:B.length=A.length):((A.zip B).map f).length=A.length:=by
 rw[aB,dh,h,Nat.min_self]
noncomputable def fC(p:Int×Int):Int:=if p.1<100 then p.1 else p.2
noncomputable def fN(p:Int×Int):Int:=p.1+2*(p.2.fdiv 100).fmod 4
section
variable{t:Nat->List Int}
theorem vJ.comb{k:Nat}{A B A' B':List Int}(h:vJ t k A B)(h':vJ t k A' B')(ta:jf t k A)(tb:jf t (k+1) B)(ta':jf t k A')(tb':jf t (k+1) B'):vJ t k ((A.zip A').map fC) ((B.zip B').map fC)where
 la:=by rw[nU (h'.la.trans h.la.symm),h.la]
 lb:=by rw[nU (h'.lb.trans h.lb.symm),h.lb]
 kept:=fun x y q=>qO (h.kept x y q) (h'.kept x y q)
 sub:=fun x y v e e'=>by
  refine jq (kz.mp e) ?_;rintro a a' e1 e2 rfl;refine jq (kz.mp e') fun b b' e3 e4 e5=>?_;have tr:∀{A A':List Int}{k x:Nat}{a a':Int},A[x]?=some a->A'[x]?=some a'->jf t k A->jf t k A'->(fC (a,a')<100->(t k)[x]?=some (fC (a,a')))/\(¬fC (a,a')<100->fC (a,a')=a'):=fun{A A' k x a a'}e e' h h'=>by
   delta fC;by_cases hl:a<100;·rw[aN hl];exact⟨fun _=>h _ _ e hl,fun q=>absurd hl q⟩
   ·rw[aL hl];exact⟨fun q=>h' _ _ e' q,fun _=>rfl⟩
  have q1:=tr e1 e2 ta ta';have q2:=tr e3 e4 tb tb';rw[e5]at q2;generalize fC (a,a')=v at q1 q2;by_cases hv:v<100;·exact i4.mpr ⟨v,q1.1 hv,q2.1 hv⟩
  ·have h1:=q1.2 hv;have h2:=q2.2 hv;subst h1;exact h'.sub x y v e2 (by rw[h2];exact e4)
theorem par{r s:Int}(h:1+2*r=2+2*s):False:=by lia
theorem xz{k:Nat}{N N':List Int}(h:vJ t k N N')(ha:∀v∈t k,v=1\/v=2)(hb:∀v∈t (k+1),v=1\/v=2):vJ t k (((t k).zip N).map fN) (((t (k+1)).zip N').map fN)where
 la:=nU h.la
 lb:=nU h.lb
 kept:=fun x y q=>qO (tF q) (h.kept x y q)
 sub:=fun x y v e e'=>by
  refine jq (kz.mp e) ?_;rintro a a' e1 e2 rfl;refine jq (kz.mp e') fun b b' e3 e4 e5=>?_;have h1:=ha _ (ay e1);have h2:=hb _ (ay e3);have:a=b:=by
   unfold fN at e5;rcases h1 with rfl|rfl<;>rcases h2 with rfl|rfl;·rfl
   ·exact(par e5.symm).elim
   ·exact(par e5).elim
   ·rfl
  subst this;exact i4.mpr ⟨a,e1,e3⟩
theorem pn(hs:mS t){row:List Int}(h0:row.length=(t 0).length)(hu:∀(x y:Nat) (v:Int),row[x]?=some v->row[y]?=some v->x=y)(hlow:∀(x:Nat) (v:Int),row[x]?=some v->v<100)(k:Nat):((fw t row 0 k).length=(t k).length/\jR (fw t row 0 k) (100*k+100)/\∀(x y:Nat) (v:Int),(fw t row 0 k)[x]?=some v->(fw t row 0 k)[y]?=some v->x=y)/\∀j,j<=k->jR (fw t row 0 j) (100*k+100)/\jv (Kn (fw t row 0 j) (fw t row 0 k)):=by
 have self:∀{R:List Int},(∀(x y:Nat) (v:Int),R[x]?=some v->R[y]?=some v->x=y)->jv (Kn R R):=fun{R}hu x y x' y' ⟨v,a,b⟩ ⟨w,c,d⟩=>by obtain rfl:=hu _ _ _ a b;obtain rfl:=hu _ _ _ c d;exact Iff.rfl
 induction k with
 |zero=>
  refine⟨⟨h0,fun x v h=>hlow x v h,hu⟩,fun j hj=>?_⟩;obtain rfl:j=0:=by exact f5 0xf1f11f0802f0800f hj
  exact⟨fun x v h=>hlow x v h,self hu⟩
 |succ k ih=>
  obtain⟨⟨hl,hb,hu'⟩,ih⟩:=ih;have e:fw t row 0 (k+1)=lV (fw t row 0 k) (100*k+100) (ou t k):=by show lV (fw t row 0 k) (100*(0+k)+100) (ou t (0+k))=_;rw[d7]
  have N:=AW (t:=t) (k:=k) (row:=fw t row 0 k) (100*k+100) hl;have hsk:=hs (k+1);have u:∀(x y:Nat) (v:Int),(fw t row 0 (k+1))[x]?=some v->(fw t row 0 (k+1))[y]?=some v->x=y:=fun x y v hx hy=>by
   rw[e]at hx hy;rcases N.at hx with⟨x',q,hx'⟩|⟨q,hlo,_⟩
   ·rcases N.at hy with⟨y',q',hy'⟩|⟨q',hlo,_⟩
    ·obtain rfl:=hu' _ _ _ hx' hy';exact((wG _ _).eq q q').mp rfl
    ·have:=hb _ _ hx';exact iz [_,_,_] [_] 0xf11212f6409064bac0406409064bac3f hlo this
   ·rcases N.at hy with⟨y',q',hy'⟩|⟨q',_⟩;·have:=hb _ _ hy';exact iz [_,_,_] [_] 0xf11212f6409064bac0406409064bac3f hlo this
    ·exact N.uniq hx hy q q'
  have bk:jR (fw t row 0 (k+1)) (100*(k+1)+100):=fun x v hx=>by
   rw[e]at hx;rcases N.at hx with⟨x',q,hx'⟩|⟨q,_,hhi⟩;·have:=hb _ _ hx';exact iz [_] [_] 0xf116409180a64bac04f6409064bac04f this
   ·exact iz [_,_] [_] 0xf1116409181a64bac04f0c6409164baca04e800f hsk hhi
  refine⟨⟨by rw[e];exact N.len,bk,u⟩,fun j hj=>?_⟩
  ·rcases Nat.lt_or_eq_of_le hj with hlt|rfl
   ·obtain⟨hbj,mo⟩:=ih j (fk 0xf11100f181a01f hlt);refine⟨fun x v h=>by have:=hbj x v h;exact iz [_] [_] 0xf116409180a64bac04f6409064bac04f this,?_⟩;have step:∀{x y:Nat}{v:Int},(fw t row 0 j)[x]?=some v->(fw t row 0 (k+1))[y]?=some v->∃z,KS (mZ (t k) (t (k+1))) z y/\(fw t row 0 k)[z]?=some v:=fun{x y v}hx hy=>by
     rw[e]at hy;rcases N.at hy with h|⟨_,hlo,_⟩;·exact h
     ·have:=hbj _ _ hx;exact(iz [_] [_] 0xf119f6409064bac0406409064bac3f hlo this).elim
    rintro x y x' y' ⟨v,a,b⟩ ⟨w,c,d⟩;refine gR (step a b) fun z q hz=>?_;refine gR (step c d) fun z' q' hz'=>?_;rw[mo x z x' z' ⟨v,a,hz⟩ ⟨w,c,hz'⟩];exact wG _ _ _ _ _ _ q q'
   ·exact⟨bk,self u⟩
theorem jv.sw{nx ny:List Int}(h:jv (Kn nx ny)):jv (Kn ny nx):=fun x y x' y' ⟨v,a,b⟩ ⟨w,c,d⟩=>(h _ _ _ _ ⟨v,b,a⟩ ⟨w,d,c⟩).symm
theorem vM(hs:mS t){row:List Int}(h0:row.length=(t 0).length)(hu:∀(x y:Nat) (v:Int),row[x]?=some v->row[y]?=some v->x=y)(hlow:∀(x:Nat) (v:Int),row[x]?=some v->v<100)(j k:Nat):gJ (nC (fw t row 0 j) (fw t row 0 k)) 0 (mZ (fw t row 0 j) (fw t row 0 k)):=by
 have mo:jv (Kn (fw t row 0 j) (fw t row 0 k)):=by
  rcases eN j k with h|h;·exact((pn hs h0 hu hlow k).2 j h).2
  ·exact((pn hs h0 hu hlow j).2 k h).2.sw
 refine ask rfl rfl (fun x y h=>i4.mpr h) mo fun x y n hn hr=>⟨(x,y,n),hn,fun i hi=>i4.mp (hr i hi),?_⟩
 exact⟨.inr ⟨rfl,.inr ⟨rfl,aH _⟩⟩,fun b=>absurd b.1 (by show¬x+n<=x;exact fk 0xf11101a06f0081f hn),fun b=>absurd b.1 (by show¬x+n<=x;exact fk 0xf11101a06f0081f hn)⟩
end
theorem mR.chain{K:Nat->Nat->Prop}(st:∀x y z,K x y->K (x+1) z->z=y+1){x:Nat}:∀n,(∀t,t<n+1->∃z,K (x+t) z)->∃y,mR K x y (n+1)
 |0,h=>by obtain⟨z,hz⟩:=h 0 (Nat.zero_lt_succ _);exact⟨z,fun t ht=>by obtain rfl:t=0:=Nat.lt_one_iff.mp ht;exact hz⟩
 |n+1,h=>by obtain⟨y,hy⟩:=mR.chain st n fun t ht=>h t (ca ht);obtain⟨z,hz⟩:=h (n+1) (dU _);obtain rfl:=st _ _ _ (hy n (dU _)) hz;exact⟨y,fun t ht=>(Nat.lt_succ_iff_lt_or_eq.mp ht).elim (hy t) fun e=>e▸hz⟩
theorem mR.chain'{K:Nat->Nat->Prop}(st:∀x y z,K x y->K z (y+1)->z=x+1){y n:Nat}(h:∀t,t<n+1->∃z,K z (y+t)):∃x,mR K x y (n+1):=by
 obtain⟨x,hx⟩:=mR.chain (K:=fun a b=>K b a) (fun a b c h k=>st b a c h k) n h
 exact⟨x,hx⟩
theorem yA{X Y nx ny:List Int}(lx:X.length=nx.length)(ly:Y.length=ny.length)(hK:∀x y,Kn nx ny x y->mm X Y x y=true)(hm:jv (Kn nx ny))(link:∀x y,mm X Y x y=true->(∃y',Kn nx ny x y')/\∃x',Kn nx ny x' y)(st:∀x y z,Kn nx ny x y->Kn nx ny (x+1) z->z=y+1)(st':∀x y z,Kn nx ny x y->Kn nx ny z (y+1)->z=x+1):gJ (nC nx ny) 0 (ro (mm X Y) (iR X Y)):=by
 refine ask lx ly hK hm fun x y n hn hr=>?_
 obtain⟨m,rfl⟩:∃m,n=m+1:=⟨n-1,(Nat.succ_pred_eq_of_pos hn).symm⟩
 obtain⟨y',h1⟩:=mR.chain st m fun t ht=>(link _ _ (hr t ht)).1
 obtain⟨x',h2⟩:=mR.chain' st' fun t ht=>(link _ _ (hr t ht)).2
 rcases a9 y y' with h|h
 ·have hx:x'<x:=(hm _ _ _ _ (h2 0 hn) (h1 0 hn)).mpr h;exact⟨(x',y,m+1),hn,h2,.inr ⟨rfl,.inl hx⟩,fun b=>dz _ (bA (dP (ez 1 m) y) b.2),fun b=>dz _ (bA (dP (ez 1 m) y) b.2)⟩
 ·exact⟨(x,y',m+1),hn,h1,.inr ⟨rfl,.inr ⟨rfl,h⟩⟩,fun b=>dz _ (bA (dP (ez 1 m) x) b.1),fun b=>dz _ (bA (dP (ez 1 m) x) b.1)⟩
theorem gY.get{la lb:Nat}:∀{bs:List T3}{b:Bool}{i j:Nat},gY la lb b i j bs->∀{p:Nat}{t u:T3},bs[p]?=some t->bs[p+1]?=some u->¬(t.1+t.2.2=u.1/\t.2.1+t.2.2=u.2.1)
 |[],_,_,_,_,p,t,u,h,_=>by simp at h
 |(a,b,n)::bs,_,_,_,g,0,t,u,h,h'=>by refine Bb g.inv fun h1 h2 h3 h4 h5=>?_;simp only[eM,dm]at h;subst h;cases h5 with|nil _ _=>simp at h'|cons g1 g2 g3 g4 g5=>simp only[List.getElem?_cons_succ,eM,dm,d7]at h';subst h';exact g4 rfl
 |(a,b,n)::bs,_,_,_,g,p+1,t,u,h,h'=>by refine Bb g.inv fun h1 h2 h3 h4 h5=>?_;exact gY.get h5 (p:=p) (by simpa using h) (by simpa using h')
theorem gY.pos{la lb:Nat}:∀{bs:List T3}{b:Bool}{i j:Nat},gY la lb b i j bs->∀t∈bs,0<t.2.2
 |[],_,_,_,_,t,h=>by cases h
 |(a,b,n)::bs,_,_,_,g,t,h=>by
  refine Bb g.inv fun h1 h2 h3 h4 h5=>?_;rcases ak.mp h with rfl|h;·exact h3
  ·exact gY.pos h5 t h
section
variable{X:Cx}{k:Nat}{as bs:List Int}{va vb:Value}
inductive JT(bl:List T3)(p t1 t2 t3:Nat):Prop
 |zero:p=0->t1=0->t2=0->t3=0->JT bl p t1 t2 t3
 |at{q:Nat}:p=q+1->bl[q]?=some (t1,t2,t3)->0<t3->JT bl p t1 t2 t3
theorem JT.take{bl:List T3}{p t1 t2 t3:Nat}(h:JT bl p t1 t2 t3)(hk:t3≠0):(bl.take p).map iA=(bl.take (p-1)).map iA++[iA (t1,t2,t3)]:=by
 cases h with
 |zero _ _ _ h=>exact absurd h hk
 |@«at» q e hq _=>subst e;rw[cI,hq];simp
theorem JT.start{bl:List T3}{p t1 t2 t3:Nat}(h:JT bl p t1 t2 t3)(hk:t3=0):p=0:=by
 cases h with
 |zero h _ _ _=>exact h
 |«at» _ _ h=>exact fk 0xf180812f00810802f hk h
inductive ui(bl:List T3)(p:Nat)(ρ:List (Str×B)):Prop
 |mk {t1 t2 t3:Nat}:fn ρ "i1" (.val (.int t1))->fn ρ "j1" (.val (.int t2))->fn ρ "k1" (.val (.int t3))->fn ρ "non_adjacent" (.own ((bl.take (p-1)).map iA))->JT bl p t1 t2 t3->ui bl p ρ
theorem qL{x dx:Addr}{o:Obj}{L:Addr}{z:Value×Value×Value×Value}{ρ:List (Str×B)}{bl:List T3}{la lb p ai bj n:Nat}{P:Fl->List (Str×B)->Prop}(f:FW x dx o la lb ρ)(h:fn ρ "non_adjacent" (.own ((bl.take p).map iA)))(hi:fn ρ "i2" (.val (.int ai)))(hj:fn ρ "j2" (.val (.int bj)))(hk:fn ρ "k2" (.val (.int n)))(hu:bl[p]?=some (ai,bj,n))(hn0:0<n)(hP:∀{ρ':List (Str×B)},FW x dx o la lb ρ'/\ui bl (p+1) ρ'->P .next ρ'):iP X (k+3) (Ag z L) ρ ((AE (fh (iQ (FM 9)) 0)).drop 1) P:=
 fe (lO (xs:=["i1","j1","k1"]) (ds:=[.int ai,.int bj,.int n]) (gV (fg (fc hi) (fg (fc hj) (fg (fc hk) fq))) (by simp only[aM,aZ];decide)) (gU (.inl rfl) (gU (.inl rfl) (gU (.inl rfl) kL))) (fj (hP ⟨((f.pt rfl).pt rfl).pt rfl,by k_mem,by k_mem,by k_mem,by k_mem,.at rfl hu hn0⟩)) rfl rfl rfl)
theorem qU{x dx:Addr}{o:Obj}{L:Addr}{z:Value×Value×Value×Value}{ρ:List (Str×B)}{bl:List T3}{la lb:Nat}{P:Fl->List (Str×B)->Prop}(f:FW x dx o la lb ρ)(h:fn ρ "non_adjacent" (.own (bl.map iA)))(hl:bl.length<5000)(hP:∀{ρ':List (Str×B)},FW x dx o la lb ρ'->fn ρ' "non_adjacent" (.own ((bl++[(la,lb,0)]).map iA))->P .next ρ'):iP X (k+3) (Ag z L) ρ (((fm (kj 7)).take 12).drop 11) P:=by
 have hsl:5000<=sizeLine:=by decide
 exact fe (gw (ds:=bl.map iA) (d:=iA (la,lb,0)) h (gV (fg (fc f.la) (fg (fc f.lb) (fg ft fq))) (by simp only[aM,aZ];decide)) (by rw[aB];exact fk 0xf111100f1138829013882901f hl hsl) (fj (hP (f.pt rfl) (by rw[ag];exact hs))))
theorem tA(F:DF X)(G:MF X){x dx:Addr}{o:Obj}{m:Str->Option Value}{N:Nat}{L:Addr}{z:Value×Value×Value×Value}(ho:gr o m N)(M:uG X X.h₀ x dx m va vb as bs)(hmb:m "matching_blocks"=some .none)(da:X.dat (.list (as.map .int)) va)(db:X.dat (.list (bs.map .int)) vb)(hza:as.length<=1000)(hzb:bs.length<=1000)(h64:(ro (mm as bs) (iR as bs)).length<64){P:Fl->List (Str×B)->Prop}(hP:∀{ρ':List (Str×B)},FW x dx o as.length bs.length ρ'->fn ρ' "non_adjacent" (.own ((ro (mm as bs) (iR as bs)++[(as.length,bs.length,0)]).map iA))->P .next ρ'):iP X (k+3) (Ag z L) (put [("self",.raw (.ref x))] "#d" (.at dx o)) ((fm (kj 7)).take 12) P:=by
 obtain⟨cd,hC⟩:=F.cls
 have hsl:5000<=sizeLine:=by decide
 have S:∀{ρ:List (Str×B)},fn ρ "#d" (.at dx o)->lB X ρ 242 x dx "#d" m N:=fun h=>⟨M.obj,.inl ⟨o,h,ho⟩⟩
 refine fe (ju ?_)
 refine fe (gu (b:=false) (kn (v:=.none) (gX (key:="#d") (by k_mem) (S (by k_mem)) hC (F.own "matching_blocks" (by decide)).1 hmb) jH) (fun e=>by cases e) fun _=>fj ?_)
 have ln:∀(as:List Int),((as.map PyData.int).length:Int)=as.length:=fun as=>by rw[aB]
 refine fe (lO (xs:=["la","lb"]) (ds:=[.int as.length,.int bs.length]) (gV (fg (fy (i7 F.len rfl (gH (lg (gX (key:="#d") (by k_mem) (S (by k_mem)) hC (F.own "a" (by decide)).1 M.a M.ha) da)) (by rw[aB];exact fk 0xf111100f113882903e81900f hza hsl)) (by rw[ln])) (fg (fy (i7 F.len rfl (gH (lg (gX (key:="#d") (by k_mem) (S (by k_mem)) hC (F.own "b" (by decide)).1 M.b M.hb) db)) (by rw[aB];exact fk 0xf111100f113882903e81900f hzb hsl)) (by rw[ln])) fq)) (by simp only[aM,aZ];exact f5 0xf110181808aa0f01388290f hsl)) (gU (.inl rfl) (gU (.inl rfl) kL)) ?_ rfl rfl rfl)
 refine fe (hY (ds:=[wi (iR as bs)]) (iu (fg (gV (fg ft (fg (fc (by k_mem)) (fg ft (fg (fc (by k_mem)) fq)))) (by simp only[aM,aZ];exact f5 0xf1101818181808aaaa0f01388290f hsl)) fq) (by simp only[aM,aZ];exact f5 0xf1101808a0f01388290f hsl)) (.inl rfl) ?_)
 refine fe (hY (iu fq (by simp)) (.inl rfl) ?_)
 refine fe (rz F G ho M da db hza hzb h64 ⟨by k_mem,by k_mem,by k_mem,by k_mem⟩ (by k_mem) (by k_mem) fun ρ done f a5 a6=>?_)
 have hg:gY as.length bs.length true 0 0 (ro (mm as bs) (iR as bs)):=(kZ (mm as bs) (aV _) (aV _)).good'
 refine fe (BZ G a5 (by rw[a6.length_eq];exact h64) fun ms' p1 p2=>?_)
 obtain rfl:ms'=ro (mm as bs) (iR as bs):=mT (p1.trans a6) p2 hg.sorted
 have hl:(ro (mm as bs) (iR as bs)).length<5000:=by exact f5 0xf1113882901f400901f h64
 clear a5 a6 p1 p2 h64
 generalize ro (mm as bs) (iR as bs)=bl at*
 refine fe (uz (d:=.int 0) ft (fo (.inl rfl)) (fo (.inl rfl)) (fo (.inl rfl)) ?_)
 refine fe (hY (iu fq (by simp)) (.inl rfl) ?_)
 refine jA (x:="matching_blocks") (ds:=bl.map m0) (by k_mem) ?_
 have f:=((((f.pt (z:="matching_blocks") (b:=.own (bl.map m0)) rfl).pt (z:="i1") (b:=.val (.int 0)) rfl).pt (z:="j1") (b:=.val (.int 0)) rfl).pt (z:="k1") (b:=.val (.int 0)) rfl).pt (z:="non_adjacent") (b:=.own []) rfl|>.pt (z:="matching_blocks") (b:=.val (.list (bl.map m0))) rfl
 refine fe (ip (items:=bl.map m0) (jK (fc (by k_mem))) (fun p ρ=>FW x dx o as.length bs.length ρ/\ui bl p ρ) ?_ ?_ ?_)
 ·exact⟨f,by k_mem,by k_mem,by k_mem,by k_mem,.zero rfl rfl rfl rfl⟩
 ·rintro p dd ρ hp ⟨f,c1,c2,c3,c4,c5⟩Q1 H1;rename_i t1 t2 t3;rw[aS]at hp;refine gR (Option.map_eq_some_iff.mp hp) ?_;rintro⟨ai,bj,n⟩hu rfl;have hn0:=hg.pos _ (ay hu);dsimp only at hn0;clear hp;refine⟨_,uZ G (f9 (fo (.inl rfl)) (f9 (fo (.inl rfl)) (f9 (fo (.inl rfl)) jg))) rfl rfl,?_⟩;have f:=((f.pt (z:="i2") (b:=.val (.int ai)) rfl).pt (z:="j2") (b:=.val (.int bj)) rfl).pt (z:="k2") (b:=.val (.int n)) rfl;have c1:=hn (x:="k2") (b:=.val (.int n)) (hn (x:="j2") (b:=.val (.int bj)) (hn (x:="i2") (b:=.val (.int ai)) c1 rfl) rfl) rfl;have c2:=hn (x:="k2") (b:=.val (.int n)) (hn (x:="j2") (b:=.val (.int bj)) (hn (x:="i2") (b:=.val (.int ai)) c2 rfl) rfl) rfl;have c3:=hn (x:="k2") (b:=.val (.int n)) (hn (x:="j2") (b:=.val (.int bj)) (hn (x:="i2") (b:=.val (.int ai)) c3 rfl) rfl) rfl;have c4:=hn (x:="k2") (b:=.val (.int n)) (hn (x:="j2") (b:=.val (.int bj)) (hn (x:="i2") (b:=.val (.int ai)) c4 rfl) rfl) rfl;have d1:fn (put (put (put ρ "i2" (.val (.int ai))) "j2" (.val (.int bj))) "k2" (.val (.int n))) "i2" (.val (.int ai)):=hn (hn hs rfl) rfl;have d2:fn (put (put (put ρ "i2" (.val (.int ai))) "j2" (.val (.int bj))) "k2" (.val (.int n))) "j2" (.val (.int bj)):=hn hs rfl;have d3:fn (put (put (put ρ "i2" (.val (.int ai))) "j2" (.val (.int bj))) "k2" (.val (.int n))) "k2" (.val (.int n)):=hs;generalize put (put (put ρ "i2" (.val (.int ai))) "j2" (.val (.int bj))) "k2" (.val (.int n))=ρ1 at*;refine fe (gu (gL (f0 (f7 (fc c1) (fc c3)) (fc d1) rfl) fun _=>gL (f0 (f7 (fc c2) (fc c3)) (fc d2) rfl) fun _=>iw) (fun hc=>?_) fun hc=>?_)
  ·simp only[ct,ad,ea]at hc;cases c5 with
   |zero e e1 e2 e3=>
    subst e e1 e2 e3;obtain rfl:ai=0:=by exact f5 0xf1f11f0802f0c08c08ca5f hc.1
    obtain rfl:bj=0:=by exact f5 0xf1f11f0802f0c08c08ca5f hc.2
    exact fe (r8 (a:=(0:Nat)) (b:=n) c3 (fc d3) (.inl rfl) (fj (fj (H1.next ⟨f.pt rfl,hn c1 rfl,hn c2 rfl,by rw[Int.natCast_zero,d4];exact hs,hn c4 rfl,.at rfl hu hn0⟩))))|«at» e hq _=>subst e;exact absurd ⟨by have:=hc.1;dsimp only;exact fu 0xf11f81f210a2f2c1c0ca5f hc.1,by have:=hc.2;dsimp only;exact fu 0xf11f81f210a2f2c1c0ca5f hc.2⟩ (hg.get hq hu)
  ·refine fe (gu (o5 (fc c3)) (fun hk=>?_) fun hk=>?_)
   ·refine fe (gw (d:=iA (t1,t2,t3)) c4 (gV (fg (fc c1) (fg (fc c2) (fg (fc c3) fq))) (by simp only[aM,aZ];exact f5 0xf11018181808aaa0f01388290f hsl)) (by rw[aB,bC];exact fu 0xf1100108f1100118f040f1388291101388290f1331821 hsl hl) (fj ?_));rw[<-c5.take (by intro e;subst e;simp at hk)];exact qL (f.pt rfl) hs (hn d1 rfl) (hn d2 rfl) (hn d3 rfl) hu hn0 fun h=>fj (H1.next h)
   ·obtain rfl:=c5.start (by simpa using hk);exact fj (qL f c4 d1 d2 d3 hu hn0 fun h=>fj (H1.next h))
 ·rintro ρ ⟨f,c1,c2,c3,c4,c5⟩;rename_i t1 t2 t3;rw[aB]at c4 c5;refine fe (gu (o5 (fc c3)) (fun hk=>?_) fun hk=>?_)
  ·refine fe (gw (d:=iA (t1,t2,t3)) c4 (gV (fg (fc c1) (fg (fc c2) (fg (fc c3) fq))) (by simp only[aM,aZ];exact f5 0xf11018181808aaa0f01388290f hsl)) (by rw[aB,bC];exact fk 0xf1100108f1100118f030f1388291101388290f1231811 hsl hl) (fj ?_));rw[<-c5.take (by intro e;subst e;simp at hk),d8];exact qU (f.pt rfl) hs hl hP
  ·have e:=c5.start (by simpa using hk);exact fj (qU f (by rw[e,Nat.zero_sub,List.take_zero]at c4;rw[dY e];exact c4) hl hP)
end
structure MG(X:Cx):Prop where
 make:findCls X.K (.ref 135) (.type "type") "_make"=some (.get (.builtin "classmethod.__get__") (.ref 91) .none (.ref 135))
 crec:∃r,recIn X.K 91 "classmethod"=some (.ref 89::r)
 len:findIn X.K (.ref 135) "__len__"=some (some (.builtin "tuple.__len__"))
 dmake:∃z,kf X 89 (Bz 5 "_make" z) (fm (u8 5)) ["cls","iterable"]
theorem MG.on{X:Cx}(F:MG X){h:Heap}{D:PyData->Value->Prop}(k:∀b o,X.h₀.get? b=some o->h.get? b=some o):MG (X.on h D):=
 ⟨F.make,F.crec,F.len,F.dmake.imp fun _ d=>d.on k⟩
theorem yJ:builtinKind "tuple.__len__"=some .slot:=by decide+kernel
theorem uj:splitId "tuple.__len__"=some ("tuple","__len__"):=by decide+kernel
section
variable{X:Cx}{k:Nat}{env:Env}{ρ:List (Str×B)}{Q:Fl->List (Str×B)->Prop}
theorem Cu(G:MF X)(H:MG X){A:Around}{s:Shared}{t:Addr}{dd:Option Addr}{vs:Array Value}{n:Nat}{P:Value->Shared->Prop}(Kin:X.K.In s.heap)(ho:s.heap.get? t=some {cls:=.ref 135,dict:=dd,data:=.seq vs n}) (hz:vs.size<=sizeLine) (h:P (.int vs.size (s.toks+1)) {s with toks:=s.toks+1+1}):wpAny (model X.prog X.w) A (call (.builtin "len") [.ref t]) P g8 s:=by
 have L:=G.looks (M:=model X.prog X.w) Kin
 have t1:Looks (model X.prog X.w) s.heap (typeOf (.ref t)) (.ref 135):=(eU ho).andThen .now
 have ll:Looks (model X.prog X.w) s.heap (typeLookup (.ref 135) "__len__") (some (.builtin "tuple.__len__")):=eT Kin H.len
 have hz':(sizeLine:Int)<2^63:=by decide
 refine Calls.call_function_entry kind_len plain_len entry_len (args_len1 _) ?_
 delta Builtin.«len»
 refine aA (m:=oneArg "len" _) (aC ?_)
 refine aA (m:=callSpecial? (.ref t) (Str.ofString "__len__")) ?_
 delta callSpecial? specialOf
 refine aA (aA (t1.here (ll.here ?_)))
 dsimp only
 refine ah ?_
 rw[PySem.F.slot_tuple_len.bind (.ref t)]
 refine aA (aC ?_)
 dsimp only
 refine aA (bO (lK PySem.F.slot_tuple_len.plain PySem.F.entry_tuple_len yJ uj (t1.andThen L.tup) (PySem.F.args_tuple_len_1 _) ?_))
 show wpAny _ _ (do retInt (<-Builtin.Tuple.tupleItemsOf (.ref t)).size) _ _ s
 refine aA (fJ ho rfl ?_)
 refine aA (wpAny_mkInt (aC ?_))
 refine aC ?_
 refine aA (ah (aC ?_))
 refine aA (wpAny_letGo ?_)
 show wpAny _ _ (if((vs.size:Nat):Int)<0 then _ else _) _ _ _
 rw[aL (by exact f5 0xf1080c46ff)]
 show wpAny _ _ (if((vs.size:Nat):Int)>=2^63 then _ else _) _ _ _
 rw[aL (by exact fk 0xf1110c8000000000000000e936f8000000000000000e91c4100f hz hz')]
 exact aA (wpAny_mkInt (aC ⟨_,rfl,h⟩))
theorem Bf(G:MF X)(H:MG X){p pos:Pos}{e:Expr}{ds:List PyData}(hx:X.gl ("len":Str)=some (.builtin "len"))(hk:env.kindOf ("len":Str)=some .globalImplicit)(he:Ev X k env ρ e (.dict [(.none,.tuple ds)]))(hz:ds.length<=sizeLine)(hs:autoParam (starEach [e] env=[(false,eval e env)]) aR):Ev X k env ρ (.Call (.Name "len" p) [e] [] pos) (.int ds.length):=fun A bad O s R r=>by
 refine bE (g9 r hx hk ?_)
 refine bT (af (he.use R r fun v s1 x1 r1 q1=>a0 ?_) hs) hs
 refine q1.mtE fun t dd vs n hb ho qs=>?_
 have hl:vs.size=ds.length:=by rw[<-aE,qs.length]
 refine Cu G H (r1.wf.kin.keeps r1.base) ho (by rw[hl];exact hz) ⟨x1.trans (gQ.toks _ _),?_⟩
 rw[hl];exact .int _ _
theorem vL(F:DF X)(G:MF X)(H:MG X){A:Around}{bad:Addr->Prop}{s:Shared}{u:Value}{t:T3}(R:gG (k+1) A)(a:At X s)(low:∀a,bad a->∃o,s.heap.get? a=some o)(q:gF bad s.heap (iA t) u):codeAny (model X.prog X.w) A (.call (.ref 89) ⟨[.ref 135,u],[]⟩) (fun r s'=>∃v,r=.ok (.ret v)/\gQ s s'/\gF bad s'.heap (m0 t) v) s:=by
 obtain⟨z,D⟩:=H.dmake
 have F':DF (X.on s.heap fun _ _=>False):=F.on a.base
 have G':MF (X.on s.heap fun _ _=>False):=G.on a.base
 have H':MG (X.on s.heap fun _ _=>False):=H.on a.base
 refine au (lc (bad:=bad) (Dt:=fun _ _=>False) (bs:=[.raw (.ref 135),.val (iA t)]) (P:=fun fl _=>fl=.ret (m0 t)) D R a low (fun _ _ e=>e.elim) (.cons (.raw _) (.cons (.val q) .nil)) rfl fun L=>?_) fun r s' h=>?_
 ·refine fe (ju ?_);refine fe (gM (d:=m0 t) (wy G' F'.tuple rfl (gN (by k_mem)) (fc (by k_mem)) (by simp only[aM,aZ];decide)) (.inl rfl) ?_);refine fe (gu (b:=false) (f0 (Bf G' H' (ds:=[.int t.1,.int t.2.1,.int t.2.2]) F'.len rfl (fc (by k_mem)) (by simp only[aM,aZ];decide)) ft rfl) (fun e=>by cases e) fun _=>fj ?_);refine fe (jb (d:=m0 t) (fc (by k_mem)) ⟨rfl,.inr ⟨_,rfl⟩⟩)
 ·refine Cy h ?_;rintro v fl ρ' O' L rfl rfl hv x r';exact⟨v,rfl,x,hv⟩
end
theorem wD:mroOf (.type "map")=pure [.type "map",.type "object"]:=by rw[mroOf_type];kernel_rfl
theorem pC:typeLookup (.type "map") "__new__"=pure (some (.builtin "map.__new__")):=by rw[bx,bK];kernel_rfl
theorem rC:Slot "map" "__init__" "object.__init__":=
 .of (owner:="object") (n:="__init__") (by rw[bx,bK];kernel_rfl) (by decide+kernel) (by decide+kernel) (by decide+kernel) (by first|exact .inl (by decide+kernel)|exact .inr (by decide+kernel)) (by rw[b9];kernel_rfl)
theorem ix:Slot "map" "__next__" "map.__next__":=
 .of (owner:="map") (n:="__next__") (by rw[bx,bK];kernel_rfl) (by decide+kernel) (by decide+kernel) (by decide+kernel) (by first|exact .inl (by decide+kernel)|exact .inr (by decide+kernel)) (by rw[b9];kernel_rfl)
theorem mY:Slot "map" "__iter__" "map.__iter__":=
 .of (owner:="map") (n:="__iter__") (by rw[bx,bK];kernel_rfl) (by decide+kernel) (by decide+kernel) (by decide+kernel) (by first|exact .inl (by decide+kernel)|exact .inr (by decide+kernel)) (by rw[b9];kernel_rfl)
theorem uS:TypeCalled "map" "map.__new__" "object.__init__":=
 ⟨by decide+kernel,by decide+kernel,⟨_,_,wD⟩,madeBy_type wD pC (by decide+kernel),by decide+kernel,by rw[b9];kernel_rfl,rC⟩
theorem pH(a b:Value):checkTypeCall "map" ⟨[a,b],[]⟩=pure ():=by kernel_rfl
theorem qg(a b:Value):checkBuiltinCall "map.__new__" ⟨[.type "map",a,b],[]⟩=pure ():=by kernel_rfl
theorem q9:entryFor table "map.__new__"=some Builtin.«map.__new__»:=fW (by kernel_rfl)
theorem lY:entryFor table "map.__next__"=some Builtin.«map.__next__»:=fW (by kernel_rfl)
theorem qW:entryFor table "map.__iter__"=some Builtin.«dict_keyiterator.__iter__»:=
 entryFor_alias (id':="dict_keyiterator.__iter__") (by kernel_rfl) (by first|rfl|decide+kernel|(delta String.splitOn;simp+decide[String.splitOnAux])) (by decide+kernel) (by kernel_rfl)
theorem rA(a:Value):argsOk "map.__iter__" ⟨[a],[]⟩:=by delta argsOk;kernel_rfl
theorem md(a:Value):argsOk "map.__next__" ⟨[a],[]⟩:=by delta argsOk;kernel_rfl
theorem B6:isSubtype (.type "map") (.type "map")=pure true:=by rw[b9];kernel_rfl
theorem vP:typeLookup (.type "map") "__len__"=pure none:=by rw[bx,bK];kernel_rfl
theorem so:typeLookup (.type "map") "__length_hint__"=pure none:=by rw[bx,bK];kernel_rfl
abbrev pO(h:Heap)(z TI:Addr)(f:Value):Prop:=h.get? z=some {cls:=.type "map",dict:=none,data:=.fields #[.ref TI,f],slots:=#[]}
abbrev tJ(h:Heap)(T:Addr)(a:Value):Prop:=h.get? T=some {cls:=.type "tuple",data:=.seq #[a]}
noncomputable abbrev vm(h:Heap)(l:Addr):Heap:=h.push {cls:=.type "list_iterator",data:=.fields #[.ref l,.int 0 0]}
noncomputable abbrev ww(h:Heap)(l:Addr):Heap:=(vm h l).push {cls:=.type "tuple",data:=.seq #[.ref h.objs.size]}
noncomputable abbrev wH(h:Heap)(f:Value)(l:Addr):Heap:=(ww h l).push {cls:=.type "map",data:=.fields #[.ref (vm h l).objs.size,f]}
theorem qj(f:Value)(l:Addr)(xs:Array Value):Meets (Builtin.«map.__new__» ⟨[.type "map",f,.ref l],[]⟩) (fun _ R s=>s.heap.IsList l xs/\R (.ok (.ret (.ref (ww s.heap l).objs.size))) {s with heap:=wH s.heap f l}):=
 .of_wp fun prog w A R s h=>by obtain⟨hp,g,d,tk,os⟩:=s;obtain⟨hl,h⟩:=h;have hsub:=B6;have hL:Heap.IsList (Shared.heap ⟨hp,g,d,tk,os⟩) l xs:=hl;wp_walk using wpAny_pyIter_list hL;exact⟨_,rfl,h⟩
section
variable{prog:Program}{w:World}{A:Around}{E:Value->Shared->Prop}{s:Shared}
theorem ym{f:Value}{l:Addr}{xs:Array Value}{Q:Value->Shared->Prop}(hl:s.heap.IsList l xs)(h:∀h',pO h' (s.heap.objs.size+2) (s.heap.objs.size+1) f->tJ h' (s.heap.objs.size+1) (.ref s.heap.objs.size)->h'.IsListIter s.heap.objs.size l 0->(∀c o,s.heap.get? c=some o->h'.get? c=some o)->Q (.ref (s.heap.objs.size+2)) {s with heap:=h'}):wpAny (model prog w) A (call (.type "map") [f,.ref l]) Q E s:=by
 refine callType_new uS (by decide) (pH _ _) (qg _ _) (fun obj=>PySem.F.args_object_init_3 obj _ _) q9 (qj f l xs) ⟨hl,?_⟩
 have z1:(vm s.heap l).objs.size=s.heap.objs.size+1:=dw ..
 have z2:(ww s.heap l).objs.size=s.heap.objs.size+2:=by rw[dw,z1]
 have g3:(wH s.heap f l).get? (ww s.heap l).objs.size=some _:=aT _ rfl
 have g2:(wH s.heap f l).get? (vm s.heap l).objs.size=some _:=aG _ (aT _ rfl)
 have g1:(wH s.heap f l).get? s.heap.objs.size=some _:=aG _ (aG _ (aT _ rfl))
 show _/\_
 rw[z2,z1]at g3
 rw[z1]at g2
 rw[z2]
 exact⟨⟨_,g3,rfl⟩,h _ g3 g2 ⟨_,g1,rfl,rfl⟩ fun c o x=>aG _ (aG _ (aG _ x))⟩
theorem z0{z TI it l:Addr}{f x:Value}{i:Nat}{xs:Array Value}{Q:Option Value->Shared->Prop}(hz:pO s.heap z TI f)(hT:tJ s.heap TI (.ref it))(hi:s.heap.IsListIter it l i)(hl:s.heap.IsList l xs)(hx:xs[i]?=some x)(hzi:z≠it)(hTi:TI≠it)(h:∀h',h'.IsListIter it l (i+1)->Heap.SameBut it s.heap h'->wpAny (model prog w) A.in1 (call f [x]) (fun v s'=>Q (some v) s') (fun _ _=>False) {s with heap:=h'}):wpAny (model prog w) A (pyNext (.ref z)) Q E s:=by
 have hTy:s.TypeIs (.ref z) "map":=⟨_,hz,rfl⟩
 delta pyNext
 refine aA (ej (cb (name:=Str.ofString "__next__") hTy ix (b7 ix hTy lY ?_ (md _))))
 show wpAny _ _ (field (.ref z) 0>>=_) _ _ _
 refine aA (eL hz rfl (x:=.ref TI) rfl ?_)
 refine aA (eW hT rfl ?_)
 dsimp only
 refine aA ?_
 rw[<-Array.forIn_toList]
 simp only[dg,List.forIn_nil]
 refine aA (aA (ah (wpAny_nextOf_list_item hi hl hx fun h1 hi1 hs1=>aC ?_)))
 refine aC ?_
 have hz1:pO h1 z TI f:=(hs1.2 z hzi).trans hz
 refine aA (eL hz1 rfl (x:=f) rfl ?_)
 refine aA (ah ?_)
 refine aF (h h1 hi1 hs1) (fun v s' hv=>?_) fun _ _ e=>e.elim
 refine aA (wpAny_letGo ?_)
 exact aC ⟨v,rfl,aC hv⟩
theorem Bh{z TI it l:Addr}{f:Value}{i:Nat}{xs:Array Value}{Q:Option Value->Shared->Prop}(hh:A.handled=none)(hz:pO s.heap z TI f)(hT:tJ s.heap TI (.ref it))(hi:s.heap.IsListIter it l i)(hl:s.heap.IsList l xs)(hx:xs[i]?=none)(h:∀h',(∀b o,b≠it->s.heap.get? b=some o->h'.get? b=some o)->Q none {s with heap:=h'}):wpAny (model prog w) A (pyNext (.ref z)) Q E s:=by
 have hTy:s.TypeIs (.ref z) "map":=⟨_,hz,rfl⟩
 delta pyNext
 refine aA (ej (cb (name:=Str.ofString "__next__") hTy ix (b7 ix hTy lY ?_ (md _))))
 show wpAny _ _ (field (.ref z) 0>>=_) _ _ _
 refine aA (eL hz rfl (x:=.ref TI) rfl ?_)
 refine aA (eW hT rfl ?_)
 dsimp only
 refine aA ?_
 rw[<-Array.forIn_toList]
 simp only[dg,List.forIn_nil]
 refine aA (aA (ah (wpAny_nextOf_list_end hh hi hl hx fun h1 e hs1 he=>?_)))
 refine gR he fun o ho hc=>?_
 refine aA (eh (T:="StopIteration") (b:=true) ⟨o,ho,hc⟩ isSubtype_stop ?_)
 exact aC (h _ hs1)
theorem AZ{z TI:Addr}{f:Value}{Q:Value->Shared->Prop}(hz:pO s.heap z TI f)(h:Q (.ref z) s):wpAny (model prog w) A (pyIter (.ref z)) Q E s:=by
 have hT:s.TypeIs (.ref z) "map":=⟨_,hz,rfl⟩
 refine wpAny_pyIter_slot hT mY (b7 mY hT qW ?_ (rA _))
 show wpAny _ _ (ret (.ref z)) _ _ s
 exact aC ⟨_,rfl,"map",_,hT,ix.lookup,h⟩
end
section
variable{X:Cx}{k:Nat}
structure AV(X:Cx)(bad:Addr->Prop)(s:Shared)(S z TI it l mo:Addr)(i:Nat)(rem done:List T3):Prop where
 wat:At X s
 low:∀a,bad a->∃o,s.heap.get? a=some o
 bS:bad S
 map:pO s.heap z TI (.ref mo)
 one:tJ s.heap TI (.ref it)
 iter:s.heap.IsListIter it l i
 src:∃xs n,s.heap.get? l=some {cls:=.type "list",data:=.seq xs n}/\i<=xs.size/\RepL bad s.heap (rem.map iA) (xs.toList.drop i)
 met:s.heap.get? mo=some (methodObj (.ref 89) (.ref 135))
 out:∃acc c,s.heap.get? S=some {cls:=.type "list",data:=.seq acc c}/\RepL bad s.heap (done.map m0) acc.toList
 new:X.h₀.get? S=none/\X.h₀.get? it=none
 zne:z≠it/\z≠S
 Tne:TI≠it/\TI≠S
 lne:l≠it/\l≠S
 mne:mo≠it/\mo≠S
 ine:it≠S
theorem pf{bad:Addr->Prop}{h h':Heap}{it l:Addr}{i:Nat}(hi:h.IsListIter it l i)(hk:∀b o,b≠it->h.get? b=some o->h'.get? b=some o):iN bad h h':=fun b o vs n _ e ed=>hk b o (fun q=>by
 subst q;obtain⟨o',e',_,ed'⟩:=hi;rw[e]at e';cases e';rw[ed]at ed';cases ed') e
theorem se(F:DF X)(G:MF X)(H:MG X){A:Around}{bad:Addr->Prop}{S z TI it l mo:Addr}{res:Value}{R:Result->Shared->Prop}(Rm:gG (k+3) A):∀(rem done:List T3) (i:Nat) (s:Shared),AV X bad s S z TI it l mo i rem done->(done++rem).length<=sizeLine->(∀s',(∀b o,b≠it->b≠S->s.heap.get? b=some o->s'.heap.get? b=some o)->s'.gens=s.gens->s'.os=s.os->(∃acc c,s'.heap.get? S=some {cls:=.type "list",data:=.seq acc c}/\RepL bad s'.heap ((done++rem).map m0) acc.toList)->R (.ok (.ret res)) s')->codeAny (model X.prog X.w) A (.builtin "list.extend.loop" ⟨[.ref S,.ref z,res],[]⟩) R s
 |[],done,i,s,M,hz,hR=>by
  refine jq M.src fun xs n hl hi q=>?_;have hx:xs[i]?=none:=by
   rw[<-ab];have hd:(xs.toList.drop i).length=0:=by have:=q.length;simp at this|-;exact fk 0xf1f1001f0822f2082f101 this
   rw[cy];rw[bR]at hd;exact fk 0xf8101100f0822f101 hd
  refine eH dE ?_;rw[dK bL _];show wpAny _ A.in1 (pyNext (.ref z)>>=_) _ _ s;refine aA (Bh Rm.handled M.map M.one M.iter ⟨_,hl,rfl,_,rfl⟩ hx fun h' hk=>?_);refine yT M.out fun acc c hS qS=>?_;refine aC (hR _ (fun b o h1 _ e=>hk b o h1 e) rfl rfl ⟨acc,c,hk _ _ (Ne.symm M.ine) hS,?_⟩);rw[ar];exact qS.keep (pf M.iter hk)
 |t::rem,done,i,s,M,hz,hR=>by
  refine jq M.src fun xs n hl hi q=>?_;refine yT M.out fun acc c hS qS=>?_;rw[bJ]at q;have hdl:(xs.toList.drop i).length=rem.length+1:=by have:=q.length;simp at this|-;exact fu 0xf8001f1001f180a32f3180a2f211 this
  have hil:i<xs.size:=by rw[bR,aE]at hdl;exact fu 0xf118f1008f011f182a32f100 hdl
  have hdrop:xs.toList.drop i=xs[i]::xs.toList.drop (i+1):=by rw[dA (by simpa using hil)];simp
  rw[hdrop]at q;have qx:gF bad s.heap (iA t) xs[i]:=q.inv2.1;have qr:RepL bad s.heap (rem.map iA) (xs.toList.drop (i+1)):=q.inv2.2;refine eH dE ?_;rw[dK bL _];show wpAny _ A.in1 (pyNext (.ref z)>>=_) _ _ s;refine aA (z0 M.map M.one M.iter ⟨_,hl,rfl,_,rfl⟩ (eB hil) M.zne.1 M.Tne.1 fun h1 hi1 hs1=>?_);have k1:∀b o,b≠it->s.heap.get? b=some o->h1.get? b=some o:=fun b o hb e=>(hs1.2 b hb).trans e;have kq1:iN bad s.heap h1:=pf M.iter k1;have a1:At X {s with heap:=h1}:=⟨M.wat.wf,fun b o e=>k1 b o (fun q=>by rw[q,M.new.2]at e;cases e) (M.wat.base b o e),M.wat.gens,M.wat.os⟩;have low1:∀a,bad a->∃o,h1.get? a=some o:=fun a ha=>by
   by_cases q:a=it;·subst q;obtain⟨o,e,_⟩:=hi1;exact⟨o,e⟩
   ·obtain⟨o,e⟩:=M.low a ha;exact⟨o,k1 a o q e⟩
  refine bO (method_call (k1 _ _ M.mne.1 M.met) ?_);refine au (vL F G H (k:=k) (bad:=bad) (t:=t) Rm.in1.in1 a1 low1 (qx.keep kq1)) fun r s2 hr=>?_;refine qe hr ?_;rintro v rfl x2 qv;show wpAny _ A.in1 (updateSeq S (·.push v)>>=_) _ _ _;have k2:∀b o,b≠it->s.heap.get? b=some o->s2.heap.get? b=some o:=fun b o hb e=>x2.keep b o (k1 b o hb e);have hS2:=k2 _ _ (Ne.symm M.ine) hS;have hal:acc.size=done.length:=by have:=qS.length;simp at this;exact fk 0xf81f11f012f102f this
  rw[aP,aM]at hz;have kq2:iN bad s.heap s2.heap:=fun b o vs n hb e ed=>x2.keep b o (kq1 b o vs n hb e ed);have kS:iN bad s2.heap (s2.heap.update S (Obj.mapSeq (·.push v))):=fun b o vs n hb e ed=>(dO _ _ _ _ fun q:b=S=>hb (by rw[q];exact M.bS)).trans e;have k3:∀b o,b≠S->s2.heap.get? b=some o->(s2.heap.update S (Obj.mapSeq (·.push v))).get? b=some o:=fun b o hb e=>(dO _ _ _ _ hb).trans e;have hS3:=aw (Obj.mapSeq (·.push v)) hS2 rfl;refine aA (dH hS2 rfl (aC ⟨eD bL _,?_⟩) (by rw[hal];exact fu 0xf11200f2181a0a0f hz) (by show(acc.push v).size<=sizeLine+1;rw[dc,hal];exact fu 0xf11182a180a0f2181a0a0f hz));have M':AV X bad {s2 with heap:=s2.heap.update S (Obj.mapSeq (·.push v))} S z TI it l mo (i+1) rem (done++[t]):=by
   refine⟨⟨M.wat.wf,fun b o e=>k3 b o (fun q=>by rw[q,M.new.1]at e;cases e) (x2.keep b o (a1.base b o e)),x2.gens.trans a1.gens,x2.os.trans a1.os⟩,fun a ha=>?_,M.bS,k3 _ _ M.zne.2 (k2 _ _ M.zne.1 M.map),k3 _ _ M.Tne.2 (k2 _ _ M.Tne.1 M.one),hi1.at fun o e=>k3 _ o M.ine (x2.keep _ o e),⟨xs,n,k3 _ _ M.lne.2 (k2 _ _ M.lne.1 hl),hil,(qr.keep kq2).keep kS⟩,k3 _ _ M.mne.2 (k2 _ _ M.mne.1 M.met),⟨acc.push v,_,hS3,?_⟩,M.new,M.zne,M.Tne,M.lne,M.mne,M.ine⟩
   ·by_cases q:a=S;·subst q;exact⟨_,hS3⟩
    ·obtain⟨o,e⟩:=low1 a ha;exact⟨o,k3 a o q (x2.keep a o e)⟩
   ·rw[ag,List.map_singleton];exact((qS.keep kq2).keep kS).push (qv.keep kS)
  refine se F G H Rm rem (done++[t]) (i+1) _ M' (by simp;exact fu 0xf112181a0a0f2181a0a0f hz) fun s' hk hg hos ho=>?_;refine hR s' (fun b o h1 h2 e=>hk b o h1 h2 (k3 b o h2 (k2 b o h1 e))) (hg.trans x2.gens) (hos.trans x2.os) ?_;rw[av,List.singleton_append]at ho;exact ho
end
section
variable{X:Cx}{k:Nat}{env:Env}{ρ:List (Str×B)}
theorem qo(F:DF X)(G:MF X)(H:MG X){A:Around}{bad:Addr->Prop}{s:Shared}{z TI it l mo:Addr}{xs:Array Value}{n:Nat}{ms:List T3}{Q:Value->Shared->Prop}(Rm:gG (k+4) A)(a:At X s)(low:∀a,bad a->∃o,s.heap.get? a=some o)(hz:pO s.heap z TI (.ref mo))(hT:tJ s.heap TI (.ref it))(hi:s.heap.IsListIter it l 0)(hl:s.heap.get? l=some {cls:=.type "list",data:=.seq xs n}) (q:RepL bad s.heap (ms.map iA) xs.toList) (hm:s.heap.get? mo=some (methodObj (.ref 89) (.ref 135))) (h0:X.h₀.get? it=none) (ne:z≠it/\TI≠it/\l≠it/\mo≠it) (hsz:ms.length<=sizeLine) (hQ:∀s' acc c,(∀b o,b≠it->s.heap.get? b=some o->s'.heap.get? b=some o)->s'.gens=s.gens->s'.os=s.os->s'.heap.get? s.heap.objs.size=some {cls:=.type "list",data:=.seq acc c}->RepL (fun b=>bad b\/b=s.heap.objs.size) s'.heap (ms.map m0) acc.toList->Q (.ref s.heap.objs.size) s'):wpAny (model X.prog X.w) A (call (.type "list") [.ref z]) Q g8 s:=by
 have lt:∀{b:Addr}{o:Obj},s.heap.get? b=some o->b≠s.heap.objs.size:=fun e=>bQ (am e)
 refine callType_codes (Q₁:=fun obj s₁=>obj=.ref s.heap.objs.size/\s₁={s with heap:=s.heap.push {cls:=.type "list",data:=.seq #[]}}) PySem.F.called_list (PySem.F.typeCall_list_1 _) PySem.F.entry_list_init (code_list_new _ ⟨rfl,rfl⟩) fun obj s₁ h₁=>?_
 obtain⟨rfl,rfl⟩:=h₁
 generalize hSd:s.heap.objs.size=S at*
 have hS:(s.heap.push {cls:=.type "list",data:=.seq #[]}).get? S=some {cls:=.type "list",data:=.seq #[]}:=hSd▸aT _ rfl
 refine⟨⟨_,hS,rfl⟩,PySem.F.args_list_init_2 _ _,?_⟩
 have kp:∀b o,s.heap.get? b=some o->(s.heap.push {cls:=.type "list",data:=.seq #[]}).get? b=some o:=fun b o e=>aG _ e
 generalize(s.heap.push {cls:=.type "list",data:=.seq #[]}:Heap)=h1 at hS kp|-
 show wpAny _ A.in1.in1 (do let old<-Builtin.List.listItems (.ref S);Builtin.List.listUpdate (.ref S) (fun _=>#[]);letGo old.toList.reverse;Builtin.List.listExtendWith (.ref S) (.ref z) .none) _ _ _
 refine aA ?_
 delta Builtin.List.listItems
 refine aA (eW (s:={s with heap:=h1}) hS rfl (aC ?_))
 show wpAny _ A.in1.in1 (updateSeq S (fun _=>#[])>>=fun _=>letGo (#[]:Array Value).toList.reverse>>=fun _=>Builtin.List.listExtendWith (.ref S) (.ref z) .none) _ _ _
 refine aA (dH (s:={s with heap:=h1}) hS rfl ?_)
 have hS2:=aw (Obj.mapSeq (fun _=>(#[]:Array Value))) hS rfl
 have k2:∀b o,s.heap.get? b=some o->(h1.update S (Obj.mapSeq (fun _=>(#[]:Array Value)))).get? b=some o:=fun b o e=>(bG _ _ (fun x=>lt e x.symm)).trans (kp b o e)
 refine aA (wpAny_letGo ?_)
 dsimp only
 generalize(h1.update S (Obj.mapSeq (fun _=>(#[]:Array Value))):Heap)=h2 at hS2 k2|-
 have hS2':∃c,h2.get? S=some {cls:=.type "list",data:=.seq #[] c}:=⟨_,hS2⟩
 clear hS2
 obtain⟨c2,hS2⟩:=hS2'
 have hz2:=k2 _ _ hz
 have hTy:({s with heap:=h2}:Shared).TypeIs (.ref z) "map":=⟨_,hz2,rfl⟩
 delta Builtin.List.listExtendWith
 refine aA (wpAny_typeOf hTy ?_)
 have e1:Builtin.List.listSameRef (.ref S) (.ref z)=false:=by simp[Builtin.List.listSameRef,Ne.symm (lt hz)]
 have e2:(Value.type "map"==Value.type "list")=false:=by decide
 have e3:(Value.type "map"==Value.type "tuple")=false:=by decide
 simp only[e1,e2,e3,cU,ae,bZ]
 refine aA (AZ (s:={s with heap:=h2}) hz2 ?_)
 refine aA (ah ?_)
 delta Builtin.List.listLengthHint
 refine aA (wpAny_specialOf hTy vP ?_)
 show wpAny _ A.in1.in1 (specialOf (Value.ref z) (Str.ofString "__length_hint__")>>=_) _ _ _
 refine aA (wpAny_specialOf hTy so ?_)
 refine aC ?_
 show wpAny _ A.in1.in1 (rule "list.extend.makes-room">>=fun _=>Builtin.List.listTouch (.ref S)>>=fun _=>again (.builtin "list.extend.loop" ⟨[.ref S,.ref z,.none],[]⟩)) _ _ _
 refine aA (ce ?_)
 refine aA ?_
 show wpAny _ A.in1.in1 (updateSeq S (·.push .none)>>=fun _=>updateSeq S (·.pop)) _ _ _
 refine aA (dH (s:={s with heap:=h2}) hS2 rfl ?_)
 have hS3:=aw (Obj.mapSeq (·.push Value.none)) hS2 rfl
 refine dH (hz:=by seq_fits) hS3 rfl ?_
 have hS4:=aw (Obj.mapSeq (·.pop)) hS3 rfl
 have k4:∀b o,s.heap.get? b=some o->((h2.update S (Obj.mapSeq (·.push Value.none))).update S (Obj.mapSeq (·.pop))).get? b=some o:=fun b o e=>(bG _ _ (fun x=>lt e x.symm)).trans ((bG _ _ (fun x=>lt e x.symm)).trans (k2 b o e))
 dsimp only
 generalize((h2.update S (Obj.mapSeq (·.push Value.none))).update S (Obj.mapSeq (·.pop)):Heap)=h4 at hS4 k4|-
 refine aC ⟨eD bL _,?_⟩
 have hX:X.h₀.get? S=none:=by cases e:X.h₀.get? S with|none=>rfl|some o=>exact absurd rfl (lt (a.base _ _ e))
 have qk:RepL (fun b=>bad b\/b=S) h4 (ms.map iA) xs.toList:=(q.imp fun b o e hb=>hb.elim id fun x=>absurd x (lt e)).keep fun b o _ _ _ e _=>k4 b o e
 have M:AV X (fun b=>bad b\/b=S) {s with heap:=h4} S z TI it l mo 0 ms []:=by
  refine⟨⟨a.wf,fun b o e=>k4 b o (a.base b o e),a.gens,a.os⟩,fun b hb=>?_,.inr rfl,k4 _ _ hz,k4 _ _ hT,hi.at fun o e=>k4 _ o e,⟨xs,n,k4 _ _ hl,aV _,by rw[dT];exact qk⟩,k4 _ _ hm,⟨_,_,hS4,.nil⟩,⟨hX,h0⟩,⟨ne.1,lt hz⟩,⟨ne.2.1,lt hT⟩,⟨ne.2.2.1,lt hl⟩,⟨ne.2.2.2,lt hm⟩,?_⟩
  ·rcases hb with hb|rfl;·obtain⟨o,e⟩:=low b hb;exact⟨o,k4 b o e⟩
   ·exact⟨_,hS4⟩
  ·obtain⟨o,e,_⟩:=hi;exact lt e
 refine se F G H Rm.in1 ms [] 0 _ M (by simpa using hsz) fun s' hk hg hos ho=>?_
 refine yT ho fun acc c e1 e2=>?_
 refine⟨rfl,hQ s' acc c (fun b o hb e=>hk b o hb (lt e) (k4 b o e)) hg hos e1 ?_⟩
 rw[cA]at e2;exact e2
end
section
variable{X:Cx}{k:Nat}{env:Env}{ρ:List (Str×B)}
theorem xo(F:DF X)(G:MF X)(H:MG X){p p2 p3 p4 p5 p6:Pos}{e:Expr}{ms:List T3}(hk1:env.kindOf ("list":Str)=some .globalImplicit)(hk2:env.kindOf ("map":Str)=some .globalImplicit)(hk3:env.kindOf ("Match":Str)=some .globalImplicit)(he:uJ X (k+4) env ρ e (ms.map iA))(hsz:ms.length<=sizeLine)(hs1:autoParam (starEach [.Call (.Name "map" p2) [.Attribute (.Name "Match" p3) "_make" p4,e] [] p5] env=[(false,eval (.Call (.Name "map" p2) [.Attribute (.Name "Match" p3) "_make" p4,e] [] p5) env)]) aR)(hs2:autoParam (starEach [.Attribute (.Name "Match" p3) "_make" p4,e] env=(false,eval (.Attribute (.Name "Match" p3) "_make" p4) env)::starEach [e] env) aR)(hs3:autoParam (starEach [e] env=[(false,eval e env)]) aR):vr X (k+4) env ρ (.Call (.Name "list" p) [.Call (.Name "map" p2) [.Attribute (.Name "Match" p3) "_make" p4,e] [] p5] [] p6) (ms.map m0):=fun A bad O s R r=>by
 obtain⟨rr,hrec⟩:=H.crec
 have Kin:=r.wf.kin.keeps r.base
 refine bE (g9 r F.list hk1 ?_)
 refine eC (by rw[hs1];rfl) (cW ?_)
 refine af ?_ hs1
 refine bE (g9 r F.map hk2 ?_)
 refine eC (by rw[hs2,hs3];rfl) (cW ?_)
 refine af ?_ hs2
 refine Attribute_name (g9 r F.mtch hk3 ?_)
 refine cls_bind Kin G.reads H.make (bO (cm_get (s:={s with toks:=s.toks+1}) Kin hrec (handed_on rfl ?_)))
 have x1:gQ s {s with heap:=s.heap.push (methodObj (.ref 89) (.ref 135)),toks:=s.toks+1}:=⟨fun b o e=>aG _ e,rfl,rfl⟩
 have hmo:(s.heap.push (methodObj (.ref 89) (.ref 135))).get? s.heap.objs.size=some (methodObj (.ref 89) (.ref 135)):=aT _ rfl
 show wpAny _ _ _ _ _ {s with heap:=s.heap.push (methodObj (.ref 89) (.ref 135)),toks:=s.toks+1}
 have r1:=r.ext x1
 refine af (he.use R r1 fun l xs s2 x2 r2 hpl q=>?_) hs3
 obtain⟨n,hl⟩:=hpl
 have hmo2:=x2.keep _ _ hmo
 refine a0 ?_
 show wpAny _ _ (call (.type "map") [.ref s.heap.objs.size,.ref l]) _ _ s2
 refine ym (f:=.ref s.heap.objs.size) ⟨_,hl,rfl,_,rfl⟩ fun h3 hz hT hi hk=>?_
 refine a0 ?_
 show wpAny _ _ (call (.type "list") [.ref (s2.heap.objs.size+2)]) _ _ {s2 with heap:=h3}
 have x3:gQ s2 {s2 with heap:=h3}:=⟨hk,rfl,rfl⟩
 have r3:=r2.ext x3
 have ltz:∀{b:Addr}{o:Obj},s2.heap.get? b=some o->b≠s2.heap.objs.size:=fun e=>bQ (am e)
 have h0:X.h₀.get? s2.heap.objs.size=none:=by cases e:X.h₀.get? s2.heap.objs.size with|none=>rfl|some o=>exact absurd rfl (ltz (r2.base _ _ e))
 refine qo F G H (bad:=fv bad O) (xs:=xs) (n:=n) (ms:=ms) R r3.at (gZ r3) hz hT hi (hk _ _ hl) (q.ext x3) (hk _ _ hmo2) h0 ⟨cm (eK (by decide)),cm (eK (by decide)),ltz hl,ltz hmo2⟩ hsz fun s' acc c hk' hg hos hS qS=>?_
 have hnew:∀b,s.heap.get? b=none\/b≠s2.heap.objs.size:=fun b=>by
  by_cases hb:b=s2.heap.objs.size;·left;cases e:s.heap.get? b with|none=>rfl|some o=>exact absurd hb (ltz (x2.keep _ _ (x1.keep _ _ e)))
  ·exact .inr hb
 refine⟨⟨fun b o e=>?_,hg.trans (x2.gens.trans x1.gens),hos.trans (x2.os.trans x1.os)⟩,_,acc,c,rfl,?_,hS,qS⟩
 ·rcases hnew b with h|h;·rw[h]at e;cases e
  ·exact hk' b o h (hk _ _ (x2.keep _ _ (x1.keep _ _ e)))
 ·cases e:s.heap.get? h3.objs.size with|none=>rfl|some o=>exact absurd (am (hk _ _ (x2.keep _ _ (x1.keep _ _ e)))) (cq _)
end
theorem uN{K:Type}{is:K->Value->Bool}{es:Array DictEntry}{k:K}{v:Value}(h:findBy is es k=some v):∃e,e∈es:=by
 by_cases hz:es=#[]
 ·subst hz;cases h
 ·obtain⟨e,he⟩:=Array.exists_mem_of_ne_empty es hz;exact⟨e,he⟩
theorem uM{X:Cx}{h:Heap}{d dx:Addr}{o:Obj}{m:Str->Option Value}{N:Nat}{kvs:List (Int×Value)}{v:Value}(hd:h.DictOf (DK X) d kvs)(ho:h.get? dx=some o)(ha:gr o m N)(hm:m "a"=some v):d≠dx:=fun e=>by
 subst e
 obtain⟨o',es',ep',ho',_,hd',hk',_⟩:=hd
 rw[ho]at ho';cases ho'
 obtain⟨es,ep,hdd,hs,hf,_⟩:=ha
 rw[hdd]at hd';cases hd'
 have:=hf "a"
 rw[hm]at this
 obtain⟨e,he⟩:=uN this
 obtain⟨n,t,h1⟩:=hs e he
 refine gR (hk' e he) fun k h2 _=>?_
 rw[h1]at h2
 cases h2
theorem uG.hide{X:Cx}{h:Heap}{x dx:Addr}{m:Str->Option Value}{N:Nat}{va vb:Value}{as bs:List Int}{o:Obj}(M:uG X h x dx m va vb as bs)(ho:h.get? dx=some o)(ha:gr o m N):uG X (h.hide dx) x dx m va vb as bs:=by
 have hne:∀{b:Addr}{ob:Obj},h.get? b=some ob->(∀es ep,ob.data≠.dict es ep)->b≠dx:=fun e hd q=>by subst q;rw[ho]at e;cases e;obtain⟨es,ep,hdd,_⟩:=ha;exact hd es ep hdd
 refine⟨?_,M.a,M.ha,M.b,M.hb,M.free,?_⟩
 ·rw[ax _ (hne M.obj fun _ _ e=>by cases e)];exact M.obj
 ·obtain⟨d,js,led,h1,h2,h3,kvs,h4,h5,h6,h7⟩:=M.rest;refine⟨d,js,led,h1,h2,by rw[ax _ (hne h3 fun _ _ e=>by cases e)];exact h3,kvs,?_,h5,h6,fun y=>?_⟩
  ·have:=uM h4 ho ha M.a;obtain⟨o',es',ep',ho',rest⟩:=h4;exact⟨o',es',ep',by rw[ax _ this];exact ho',rest⟩
  ·rcases h7 y with⟨v,l,ol,e1,e2,e3,e4⟩|e
   ·refine .inl ⟨v,l,ol,e1,e2,?_,e4⟩;rw[ax _ (hne e3 fun _ _ e=>by obtain⟨vs,n,rfl,_⟩:=e4;cases e)];exact e3
   ·exact .inr e
section
variable{X:Cx}{k:Nat}{as bs:List Int}{va vb:Value}
noncomputable abbrev XB(X:Cx)(h:Heap)(as bs:List Int)(va vb:Value):Cx:=X.on h fun d v=>(d=.list (as.map .int)/\v=va)\/(d=.list (bs.map .int)/\v=vb)
noncomputable def rE(as bs:List Int):List T3:=ro (mm as bs) (iR as bs)++[(as.length,bs.length,0)]
theorem sv(F:DF X)(G:MF X)(H:MG X){A:Around}{bad:Addr->Prop}{s:Shared}{x dx:Addr}{m:Str->Option Value}{N:Nat}(R:gG (k+5) A)(a:At X s)(hX:X.h₀.get? dx=none)(hb:¬bad dx)(low:∀a,bad a->∃o,s.heap.get? a=some o)(I:ir s.heap 242 x dx m N)(M:uG X s.heap x dx m va vb as bs)(hmb:m "matching_blocks"=some .none)(ra:gF bad s.heap (.list (as.map .int)) va)(rb:gF bad s.heap (.list (bs.map .int)) vb)(hN:N<900)(hza:as.length<=1000)(hzb:bs.length<=1000)(h64:(ro (mm as bs) (iR as bs)).length<64):codeAny (model X.prog X.w) A (.call (.ref 203) ⟨[.ref x],[]⟩) (fun r s'=>∃v,r=.ok (.ret v)/\iF dx s s'/\gF bad s'.heap (.list ((rE as bs).map m0)) v/\∃o',s'.heap.get? dx=some o'/\gr o' (ja m "matching_blocks" v) (N+1)) s:=by
 obtain⟨cd,hC⟩:=F.cls
 refine gR I.nsb.aobj fun o ho hao=>?_
 obtain⟨_,_,z,D⟩:=F.blocks
 have hsl:5000<=sizeLine:=by decide
 have hx:(s.heap.hide dx).get? x=some (instObj 242 dx):=by rw[ax _ I.xne];exact I.obj
 refine iV (bad:=bad) (Dt:=fun d v=>(d=.list (as.map .int)/\v=va)\/(d=.list (bs.map .int)/\v=vb)) (bs:=[.raw (.ref x)]) (P:=fun v s'=>gF bad s'.heap (.list ((rE as bs).map m0)) v/\∃o',s'.heap.get? dx=some o'/\gr o' (ja m "matching_blocks" v) (N+1)) D R a ho hao.noseq hX hb low ?dat (.cons (.raw _) .nil) rfl fun L A' O s₁ R' r=>?_
 case dat=>
  rintro d v (⟨rfl,rfl⟩|⟨rfl,rfl⟩);·exact ra.hide ho hao.noseq
  ·exact rb.hide ho hao.noseq
 have kb:=kg a hX
 have F':DF (XB X (s.heap.hide dx) as bs va vb):=F.on kb
 have G':MF (XB X (s.heap.hide dx) as bs va vb):=G.on kb
 have H':MG (XB X (s.heap.hide dx) as bs va vb):=H.on kb
 have M':=M.hide ho hao
 refine iP.then (ss1:=(fm (kj 7)).take 12) (ss2:=(fm (kj 7)).drop 12) (P:=fun ρ'=>fn ρ' "self" (.raw (.ref x))/\fn ρ' "#d" (.at dx o)/\fn ρ' "non_adjacent" (.own ((rE as bs).map iA))) ?_ R' r ?_
 ·exact tA (k:=k+1) F' G' (z:=z) hao ⟨M'.obj,M'.a,M'.ha,M'.b,M'.hb,M'.free,M'.rest⟩ hmb (.inl ⟨rfl,rfl⟩) (.inr ⟨rfl,rfl⟩) hza hzb h64 fun f h=>⟨rfl,f.s,f.d,h⟩
 ·rintro ρ' O' s' ⟨hself,hd',hna⟩st r';have hev:∀p p2 p3 p4 p5 p6 p7:Pos,vr (XB X (s.heap.hide dx) as bs va vb) (k+4) (callEnvC (ub 7 "get_matching_blocks" z) L 203) ρ' (.Call (.Name "list" p) [.Call (.Name "map" p2) [.Attribute (.Name "Match" p3) "_make" p4,.Name "non_adjacent" p7] [] p5] [] p6) ((rE as bs).map m0):=fun p p2 p3 p4 p5 p6 p7=>xo F' G' H' rfl rfl rfl (jy hna) (by delta rE;rw[aP,bq];exact fk 0xf1111180a0f11388290400901f h64 hsl);refine cP (cM (aF (hev _ _ _ _ _ _ _ A' bad O' s' R' r') (fun v s2 q=>?_) fun _ _ x=>x) rfl rfl);obtain⟨x2,l,vs,n,rfl,hnone,hl,ql⟩:=q;have r2:=r'.ext x2;have hgood:=i3 r' hnone;have rl:gF (fv bad O') s2.heap (.list ((rE as bs).map m0)) (.ref l):=.list hgood hl (ql.imp fun _ _ _ h=>.inl h);have hasg:∀yp pos:Pos,rD (XB X (s.heap.hide dx) as bs va vb) (k+4) (callEnvC (ub 7 "get_matching_blocks" z) L 203) ρ' (.Attribute (.Name "self" yp) "matching_blocks" pos) (.ref l) (fun ρ''=>∃o1,fn ρ'' "#d" (.at dx o1)/\fn ρ'' "self" (.raw (.ref x))/\gr o1 (ja m "matching_blocks" (.ref l)) (N+1)):=fun yp pos=>gW (key:="#d") hself hx hd' hao hC (F.own "matching_blocks" (by decide)).2 (f5 0xf113e81901f3841901f hN) (fun o1 h1=>⟨o1,by k_mem,by k_mem,h1⟩);refine aF (hasg _ _ A' bad O' s2 R' r2) (fun _ s3 p3=>?_) fun _ _ x=>x;refine jq p3 ?_;rintro O3 ρ3 ⟨o1,d1,d2,d3⟩st3 r3;have q3:=rl.step r2.frm st3;refine cP (eR ((gX (X:=XB X (s.heap.hide dx) as bs va vb) (key:="#d") d2 ⟨hx,.inl ⟨o1,d1,d3⟩⟩ hC (F.own "matching_blocks" (by decide)).1 (v:=.ref l) (by delta ja;rw[aN rfl])).use R' r3 fun s4 x4 r4=>?_));exact⟨.ref l,.inr rfl,r4.at,(q3.ext x4).weak,o1,(r4.pt _ _ _ d1).2,d3⟩
end
section
variable{X:Cx}{k:Nat}{env:Env}{ρ ρ₀:List (Str×B)}{Q:Fl->List (Str×B)->Prop}
theorem Aq{target iter:Expr}{body:List Stmt}{pos:Pos}{items:List PyData}{J0:List (Str×B)->Prop}(hit:∀(A:Around) (bad:Addr->Prop) (O:Str->Option Addr) (s:Shared),gG k A->gE X bad O env ρ₀ s->wpAny (model X.prog X.w) A (eval iter env) (fun v s1=>∃O1 ρ,(f8 env O O1 s s1/\gE X bad O1 env ρ s1/\gF (fv bad O1) s1.heap (.list items) v)/\J0 ρ) g8 s)(J:Nat->List (Str×B)->Prop)(h0:∀ρ,J0 ρ->J 0 ρ)(turn:∀i d ρ',items[i]?=some d->J i ρ'->∀Q',vU (J (i+1)) Q Q'->∃ρ₁,sk X k env ρ' target d ρ₁/\iP X k env ρ₁ body Q')(hend:∀ρ',J items.length ρ'->Q .next ρ')(hs:autoParam (∀x,foldedSetIterable iter env x=pure x) aI):jz X k env ρ₀ (.For target iter body [] pos) Q:=fun A bad O s R r=>by
 refine wpAny_For (aF (hit A bad O s R r) (fun v s1 h1=>?_) fun _ _ x=>x) hs
 refine yT h1 ?_;rintro O1 ρ ⟨st1,r1,q1⟩hj
 refine q1.listE fun a vs n hb g qs=>?_
 refine nV (k:=k) R (gQ.refl s1) g qs fun s2 I x2 t=>?_
 obtain⟨P,St,t⟩:=t
 refine au (tS R r1 ⟨x2,I,_,_,P,St,rfl,t,fun b hb'=>?_⟩ J (h0 ρ hj) turn hend) fun res s3 h3=>?_
 ·simp at hb';rcases hb' with rfl|rfl;·exact .inl (by simp)
  ·refine .inr ⟨fun hp=>?_,fun x hx=>hb (.inr ⟨x,hx⟩)⟩;rcases hp with rfl|⟨n,hn⟩;·obtain⟨m,o',es,ep,ho,hd,_⟩:=r1.frm.ns;rw[g]at ho;cases ho;cases hd
   ·obtain⟨v,o',ho,hd⟩:=r1.frm.cell n b hn;rw[g]at ho;cases ho;cases hd
 ·cases res with|ok f=>exact h3.from st1|error e=>exact h3
end
section
variable{X:Cx}{k:Nat}{env:Env}{ρ:List (Str×B)}{Q:Fl->List (Str×B)->Prop}
theorem uq{key:Str}{l:Addr}{n:Nat}{ss:List Stmt}(hk:ρ.lookup key=some (.at l {cls:=.type "list",data:=.seq #[] n})) (h:iP X k env (put ρ key (.lst l [])) ss Q):iP X k env ρ ss Q:=fun A bad O s R r=>by
 obtain⟨hO,hcur⟩:=r.pt key l _ hk
 obtain⟨st,r'⟩:=r.key_change (s':=s) hO (fun _ _ _ e=>e) hcur rfl rfl (b:=.lst l []) trivial (.lst hO hcur .nil)
 exact h.from R st r'
theorem po{x key:Str}{px apos cpos pos:Pos}{pl:Sem Bool}{e:Expr}{l:Addr}{ds:List PyData}{d:PyData}(hx:ρ.lookup x=some (.raw (.ref l)))(hk:ρ.lookup key=some (.lst l ds))(he:Ev X k env ρ e d)(hz:ds.length<=sizeLine)(hq:Q .next (put ρ key (.lst l (ds++[d]))))(hd:autoParam ((x==("__debug__":Str))=false) aD)(hm:autoParam (eval (.Call (.Attribute (.Name x px) "append" apos) [e] [] cpos) env=(do
   let ov<-eval (.Name x px) env
   standAt apos.atName let(f,first)<-holding [ov] (getMethod ov "append" pl)callWith cpos f first (backTo cpos (starEach [e] env)) [])) aR)(hst:autoParam (starEach [e] env=[(false,eval e env)]) aR)(hi:autoParam (interactive env=false) aR)(hs:autoParam (swapsWith (.Call (.Attribute (.Name x px) "append" apos) [e] [] cpos) none pos.line env=pure false) aR):jz X k env ρ (.Expr (.Call (.Attribute (.Name x px) "append" apos) [e] [] cpos) pos) Q:=fun A bad O s R r=>by
 obtain⟨hO,vs,n,hg,q⟩:=r.lst _ _ _ hk
 refine cg (MethodCall_ (bW (Lk.load r.ok.kind (r.raw x _ hx) ?_) hd) hm) hi hs
 refine cY dM dN ⟨_,hg,rfl,_,rfl⟩ ⟨_,hg,rfl⟩ (bT (af (he.use R r fun v s1 x1 r1 q1=>a0 ?_) hst) hst)
 refine cZ ⟨n,x1.keep _ _ hg⟩ (fun h' hp hs'=>?_) (by rw[<-aE,<-q.length];exact hz)
 obtain⟨n',g'⟩:=hp
 obtain⟨st2,r2⟩:=r1.key_change (s':={s1 with heap:=h'}) hO (fun b ob hb e=>(hs'.2 b hb).trans e) g' rfl rfl (b:=.lst l (ds++[d])) trivial (.lst hO g' (((q.ext x1).push q1).keep fun b o _ _ hb e _=>(hs'.2 b fun z=>hb (z▸.inr ⟨key,hO⟩)).trans e))
 exact⟨.next,_,_,hq,rfl,(f8.of_ext x1).trans st2,r2⟩
theorem xn(F:DF X)(G:MF X)(H:MG X){as bs:List Int}{va vb:Value}{x dx:Addr}{o:Obj}{m:Str->Option Value}{N:Nat}{y:Str}{yp apos pos:Pos}{pl:Sem Bool}(hy:ρ.lookup y=some (.raw (.ref x)))(hd:ρ.lookup ("#d":Str)=some (.at dx o))(ha:gr o m N)(M:uG X X.h₀ x dx m va vb as bs)(hmb:m "matching_blocks"=some .none)(da:X.dat (.list (as.map .int)) va)(db:X.dat (.list (bs.map .int)) vb)(hN:N<900)(hza:as.length<=1000)(hzb:bs.length<=1000)(h64:(ro (mm as bs) (iR as bs)).length<64)(he:autoParam (eval (.Call (.Attribute (.Name y yp) "get_matching_blocks" apos) [] [] pos) env=(do
   let ov<-eval (.Name y yp) env
   standAt apos.atName let(f,first)<-holding [ov] (getMethod ov "get_matching_blocks" pl)callWith pos f first (backTo pos (starEach [] env)) [])) aR)(hdb:autoParam ((y==("__debug__":Str))=false) aD){A:Around}{bad:Addr->Prop}{O:Str->Option Addr}{s:Shared}(R:gG (k+5) A)(r:gE X bad O env ρ s):wpAny (model X.prog X.w) A (eval (.Call (.Attribute (.Name y yp) "get_matching_blocks" apos) [] [] pos) env) (fun v s1=>∃O1 ρ1,(f8 env O O1 s s1/\gE X bad O1 env ρ1 s1/\gF (fv bad O1) s1.heap (.list ((rE as bs).map m0)) v)/\∃o',ρ1=put ρ "#d" (.at dx o')/\gr o' (ja m "matching_blocks" v) (N+1)) g8 s:=by
 obtain⟨cd,hC⟩:=F.cls
 obtain⟨hf,ht,z,D⟩:=F.blocks
 refine gR D.obj fun of hof hdf=>?_
 obtain⟨hO,hcur⟩:=r.pt _ _ _ hd
 refine pG R r hy ⟨M.obj,.inl ⟨o,hd,ha⟩⟩ hC hf ht (M.free _ (by decide)) hof hdf ?_ he hdb
 have low:∀b,fv bad (lC O "#d") b->∃o,s.heap.get? b=some o:=fun b hb=>gZ r b (kC hb)
 have nb:¬fv bad (lC O "#d") dx:=fun h=>by
  rcases h with h|⟨y,e⟩;·exact(r.good _ _ hO).1 h
  ·delta lC at e;split at e;·cases e
   ·rename_i hy';exact hy' (r.inj y _ dx e hO)
 have kb:∀b o,X.h₀.get? b=some o->s.heap.get? b=some o:=r.base
 have M':uG X s.heap x dx m va vb as bs:=by refine qY M.rest fun d js led e1 e2 e3 e4=>?_;exact⟨kb _ _ M.obj,M.a,M.ha,M.b,M.hb,M.free,d,js,led,e1,e2,kb _ _ e3,e4.keeps kb⟩
 refine bO (au (sv (k:=k) F G H (bad:=fv bad (lC O "#d")) R r.at (r.good _ _ hO).2.1 nb low ⟨kb _ _ M.obj,ha.nsb hcur⟩ M' hmb ((r.datR da).imp fun b _ _ h=>kC h) ((r.datR db).imp fun b _ _ h=>kC h) hN hza hzb h64) fun res s1 h1=>?_)
 refine yQ h1 ?_;rintro v rfl kp rv ⟨o',ho',ha'⟩
 obtain⟨st,r1⟩:=r.at_change (s':=s1) hd kp.keep ho' kp.gens kp.os
 refine⟨O,_,⟨st,r1,?_⟩,o',rfl,ha'⟩
 refine rv.map fun b ob vs n nb e ed=>⟨fun hb=>nb ?_,e⟩
 rcases hb with hb|⟨w,hw⟩
 ·exact .inl hb
 ·by_cases hwd:w="#d"
  ·subst hwd;rw[hO]at hw;cases hw;rw[ho']at e;cases e;exact absurd ed (ha'.noseq vs n)
  ·exact .inr ⟨w,by delta lC;rw[aL hwd];exact hw⟩
end
noncomputable abbrev Ad(z:Value×Value×Value×Value)(L:Addr):Env:=callEnvC (ub 8 "get_opcodes" z) L 210
noncomputable abbrev EX(i:Nat):Stmt:=(fm (kj 8)).getD i (.Pass ⟨0,0,0,0⟩)
noncomputable abbrev wA(i:Nat):List Stmt:=(iQ (EX 4)).drop i
section
variable{X:Cx}{k:Nat}{ρ:List (Str×B)}{z:Value×Value×Value×Value}{L:Addr}
theorem An{env:Env}{e:Expr}{c:Str}(h:Ev X k env ρ e (.str c))(hz:c.length<=1000)(he:autoParam (∀whole,isTrue e env whole=(do let v<-whole;standAt e.pos;holding [v] (truthy v))) aI):mM X k env ρ e ((c.length:Int)!=0):=fun A bad O s R r=>
 isTrue_plain (h.use R r fun v s1 x1 r1 q1=>q1.strE fun _=>PySem.P.truthy_str (f5 0xf110c8000000000000000e936f3e81900f hz) ⟨x1.trans (gQ.toks _ _),rfl⟩) (he _)
structure OW(l:Addr)(i j ai bj n:Nat)(acc:List PyData)(bb:B)(ρ:List (Str×B)):Prop where
 i:fn ρ "i" (.val (.int i))
 j:fn ρ "j" (.val (.int j))
 ai:fn ρ "ai" (.val (.int ai))
 bj:fn ρ "bj" (.val (.int bj))
 n:fn ρ "size" (.val (.int n))
 ans:fn ρ "answer" (.raw (.ref l))
 a:fn ρ "#a" (.lst l acc)
 d:fn ρ "#d" bb
theorem OW.tag{l:Addr}{i j ai bj n:Nat}{acc:List PyData}{bb b:B}{ρ:List (Str×B)}(W:OW l i j ai bj n acc bb ρ):OW l i j ai bj n acc bb (put ρ "tag" b):=⟨hn W.i rfl,hn W.j rfl,hn W.ai rfl,hn W.bj rfl,hn W.n rfl,hn W.ans rfl,hn W.a rfl,hn W.d rfl⟩
structure OZ(l:Addr)(i j:Nat)(acc:List PyData)(bb:B)(ρ:List (Str×B)):Prop where
 i:fn ρ "i" (.val (.int i))
 j:fn ρ "j" (.val (.int j))
 ans:fn ρ "answer" (.raw (.ref l))
 a:fn ρ "#a" (.lst l acc)
 d:fn ρ "#d" bb
theorem tT{l:Addr}{i j ai bj n:Nat}{acc:List PyData}{bb:B}{P:Fl->List (Str×B)->Prop}(W:OW l i j ai bj n acc bb ρ)(hz:acc.length<=1001)(hP:∀{ρ':List (Str×B)},OZ l (ai+n) (bj+n) (acc++if n=0 then[]else[code "equal" ai (ai+n) bj (bj+n)]) bb ρ'->P .next ρ'):iP X (k+5) (Ad z L) ρ (wA 3) P:=by
 have hsl:5000<=sizeLine:=by decide
 refine fe (lO (xs:=["i","j"]) (ds:=[.int ((ai+n:Nat):Int),.int ((bj+n:Nat):Int)]) (gV (fg (f7 (fc W.ai) (fc W.n)) (fg (f7 (fc W.bj) (fc W.n)) fq)) (by simp only[aM,aZ];exact f5 0xf110181808aa0f01388290f hsl)) (gU (.inl rfl) (gU (.inl rfl) kL)) ?_ rfl rfl rfl)
 refine fe (gu (o5 (fc (hn (hn W.n rfl) rfl))) (fun hk=>?_) fun hk=>?_)
 ·refine fe (po (key:="#a") (d:=code "equal" ai (ai+n) bj (bj+n)) (hn (hn W.ans rfl) rfl) (hn (hn W.a rfl) rfl) (gV (fg kK (fg (fc (hn (hn W.ai rfl) rfl)) (fg (fc hs) (fg (fc (hn (hn W.bj rfl) rfl)) (fg (fc (hn hs rfl)) fq))))) (by simp only[aM,aZ];exact f5 0xf110181818181808aaaaa0f01388290f hsl)) (fk 0xf111100f113882903e91900f hz hsl) (fj (fj (hP ⟨hn hs rfl,hn (hn hs rfl) rfl,hn (hn (hn W.ans rfl) rfl) rfl,?_,hn (hn (hn W.d rfl) rfl) rfl⟩))));rw[aL (by simpa using hk)];exact hs
 ·refine fj (fj (hP ⟨hs,hn hs rfl,hn (hn W.ans rfl) rfl,?_,hn (hn W.d rfl) rfl⟩));rw[aN (by simpa using hk),ar];exact hn (hn W.a rfl) rfl
theorem AK{l:Addr}{i j ai bj n:Nat}{acc:List PyData}{t:Str}{bb:B}{P:Fl->List (Str×B)->Prop}(W:OW l i j ai bj n acc bb ρ)(h7:fn ρ "tag" (.val (.str t)))(hz:acc.length<=1000)(htl:t.length<=1000)(ht:qZ i ai j bj=if(t.length:Int)!=0 then[code t i ai j bj]else[])(hP:∀{ρ':List (Str×B)},OZ l (ai+n) (bj+n) (acc++qZ i ai j bj++if n=0 then[]else[code "equal" ai (ai+n) bj (bj+n)]) bb ρ'->P .next ρ'):iP X (k+5) (Ad z L) ρ (wA 2) P:=by
 have hsl:5000<=sizeLine:=by decide
 refine fe (gu (An (fc h7) htl) (fun hk=>?_) fun hk=>?_)
 ·rw[aN hk]at ht;rw[ht]at hP;refine fe (po (key:="#a") (ds:=acc) (d:=code t i ai j bj) W.ans W.a (gV (fg (fc h7) (fg (fc W.i) (fg (fc W.ai) (fg (fc W.j) (fg (fc W.bj) fq))))) (by simp only[aM,aZ];exact f5 0xf110181818181808aaaaa0f01388290f hsl)) (fk 0xf111100f113882903e81900f hz hsl) (fj ?_));exact tT ⟨hn W.i rfl,hn W.j rfl,hn W.ai rfl,hn W.bj rfl,hn W.n rfl,hn W.ans rfl,hs,hn W.d rfl⟩ (by rw[aP,bq];exact f5 0xf113e919180a0f3e81900f hz) hP
 ·rw[aL (by rw[hk];decide)]at ht;rw[ht,ar]at hP;exact fj (tT W (f5 0xf113e91900f3e81900f hz) hP)
end
theorem uG.updO{X:Cx}{h:Heap}{x dx:Addr}{m:Str->Option Value}{va vb v:Value}{as bs:List Int}(M:uG X h x dx m va vb as bs):uG X h x dx (ja m "opcodes" v) va vb as bs:=by
 have u:∀n:Str,n≠"opcodes"->ja m "opcodes" v n=m n:=fun n hn=>by delta ja;rw[aL hn]
 refine qY M.rest fun d js led e1 e2 e3 e4=>?_
 exact⟨M.obj,by rw[u _ (by decide)];exact M.a,M.ha,by rw[u _ (by decide)];exact M.b,M.hb,fun f hf=>by rw[u f (fun e=>by subst e;revert hf;decide)];exact M.free f hf,d,js,led,by rw[u _ (by decide)];exact e1,by rw[u _ (by decide)];exact e2,e3,e4⟩
inductive OS(la lb:Nat)(bl:List T3)(p i j:Nat)(acc:List PyData):Prop
 |run:p<=bl.length->acc++lD la lb i j (bl.drop p)=lD la lb 0 0 bl->gY la lb true i j (bl.drop p)->OS la lb bl p i j acc
 |fin:p=bl.length+1->acc=lD la lb 0 0 bl->OS la lb bl p i j acc
theorem OS.step{la lb:Nat}{bl:List T3}{p i j ai bj n:Nat}{acc:List PyData}(S:OS la lb bl p i j acc)(hu:(bl++[(la,lb,0)])[p]?=some (ai,bj,n)):i<=ai/\j<=bj/\OS la lb bl (p+1) (ai+n) (bj+n) (acc++qZ i ai j bj++if n=0 then[]else[code "equal" ai (ai+n) bj (bj+n)]):=by
 have hpl:=(List.getElem?_eq_some_iff.mp hu).1
 rw[aP,bq]at hpl
 cases S with
 |fin h _=>exact(fk 0xf119f181a02181a01f hpl h).elim
 |run b1 b2 b3=>
  rcases a9 p bl.length with hlt|hge
  ·rw[dC hlt]at hu;obtain⟨hlt',e⟩:=List.getElem?_eq_some_iff.mp hu;have hd:bl.drop p=(ai,bj,n)::bl.drop (p+1):=by rw[dA hlt',e]
   rw[hd]at b2 b3;refine Bb b3.inv fun g1 g2 g3 g4 g5=>?_;refine⟨g1,g2,.run hlt ?_ g5.any⟩;rw[aL (by exact f5 0xf1808026f0081f g3),<-b2];simp[lD]
  ·obtain rfl:p=bl.length:=by exact fk 0xf101f11f102f010100f b1 hge
   rw[ba (aH _),Nat.sub_self]at hu;obtain⟨rfl,rfl,rfl⟩:la=ai/\lb=bj/\0=n:=by simpa using hu
   rw[List.drop_length]at b2 b3;refine⟨b3.le.1,b3.le.2,.fin rfl ?_⟩;rw[aN rfl,ar,<-b2];rfl
inductive wl(l:Addr)(la lb:Nat)(bl:List T3)(p:Nat)(bb:B)(ρ:List (Str×B)):Prop
 |mk {i j:Nat}{acc:List PyData}:OZ l i j acc bb ρ->acc.length<=2*p->OS la lb bl p i j acc->wl l la lb bl p bb ρ
def DL(l:Addr)(m:Str->Option Value)(N:Nat)(o:Obj):Prop:=∃v2,gr o (ja (ja m "opcodes" (.ref l)) "matching_blocks" v2) (N+2)
theorem B1{i ai j bj:Nat}(h1:i<=ai)(h2:j<=bj):qZ i ai j bj=if i<ai/\j<bj then[code "replace" i ai j bj]else if i<ai then[code "delete" i ai j bj]else if j<bj then[code "insert" i ai j bj]else[]:=by
 delta qZ
 by_cases a:i<ai
 ·have e1:¬ai=i:=by exact fk 0xf180126f101f a
  have e2:¬i=ai:=by exact fk 0xf111026f101f a
  by_cases b:j<bj
  ·have e3:¬j=bj:=by exact fk 0xf111026f101f b
   simp[a,b,e1,e2,e3]
  ·have e3:j=bj:=by exact fk 0xf101f11f102f1016100f h2 b
   simp[a,b,e1,e2,e3]
 ·have e1:ai=i:=by exact fk 0xf11f101f012f1016100f h1 a
  subst e1;by_cases b:j<bj
  ·have e3:¬j=bj:=by exact fk 0xf111026f101f b
   simp[b,e3]
  ·have e3:j=bj:=by exact fk 0xf101f11f102f1016100f h2 b
   simp[e3]
section
variable{X:Cx}{k:Nat}{as bs:List Int}{va vb:Value}
theorem vW{l:Addr}{la lb:Nat}{bl:List T3}{p i j ai bj n:Nat}{acc:List PyData}{bb:B}{L:Addr}{z:Value×Value×Value×Value}{ρ:List (Str×B)}{P:Fl->List (Str×B)->Prop}(W:OW l i j ai bj n acc bb ρ)(hl:acc.length<=2*p)(h64:bl.length<64)(S:OS la lb bl p i j acc)(hu:(bl++[(la,lb,0)])[p]?=some (ai,bj,n))(hP:∀{ρ':List (Str×B)},wl l la lb bl (p+1) bb ρ'->P .next ρ'):iP X (k+5) (Ad z L) ρ (wA 0) P:=by
 refine qd (S.step hu) fun h1 h2 S'=>?_
 have hpl:=(List.getElem?_eq_some_iff.mp hu).1
 rw[aP,bq]at hpl
 have hgl:(qZ i ai j bj).length<=1:=by delta qZ;split<;>simp
 have hgt:=B1 h1 h2
 have fin:∀{ρ:List (Str×B)}{t:Str},OW l i j ai bj n acc bb ρ->fn ρ "tag" (.val (.str t))->t.length<=1000->(qZ i ai j bj=if(t.length:Int)!=0 then[code t i ai j bj]else[])->iP X (k+5) (Ad z L) ρ (wA 2) P:=fun W ht htl e=>AK W ht (fu 0xf22113e81900f182a11400921102b00f hl h64 hpl) htl e fun Z=>hP ⟨Z,by simp only[aP];split<;>simp<;>lia,S'⟩
 clear S' hP hl h64 S hu hpl hgl
 refine fe (gM (d:=.str "") kK (.inl rfl) ?_)
 have W:=W.tag (b:=.val (.str ""))
 have hT:fn (put ρ "tag" (.val (.str ""))) "tag" (.val (.str "")):=hs
 generalize put ρ "tag" (.val (.str ""))=ρ1 at*
 refine fe (gu (gL (f0 (fc W.i) (fc W.ai) rfl) fun _=>gL (f0 (fc W.j) (fc W.bj) rfl) fun _=>iw) (fun hc=>?_) fun hc=>?_)
 ·simp only[ct,ad,aQ]at hc;exact fe (gM (d:=.str "replace") kK (.inl rfl) (fj (fin W.tag hs (by decide) (by rw[hgt,aN ⟨by exact fk 0xf11101f1c0c4f hc.1,by exact fk 0xf11101f1c0c4f hc.2⟩];rfl))))
 ·simp only[ct,dj,az]at hc;refine fe (gu (f0 (fc W.i) (fc W.ai) rfl) (fun hc2=>?_) fun hc2=>?_);·simp only[aQ]at hc2;exact fe (gM (d:=.str "delete") kK (.inl rfl) (fj (fj (fin W.tag hs (by decide) (by rw[hgt,aL (by exact gK 0xf101f11f32110176f3c2c461c0c468f hc),aN (by exact fk 0xf11101f1c0c4f hc2)];rfl)))))
  ·simp only[az]at hc2;refine fe (gu (f0 (fc W.j) (fc W.bj) rfl) (fun hc3=>?_) fun hc3=>?_)
   ·simp only[aQ]at hc3;exact fe (gM (d:=.str "insert") kK (.inl rfl) (fj (fj (fj (fin W.tag hs (by decide) (by rw[hgt,aL (by exact gK 0xf10132110176f1c0c46f hc2),aL (by exact fk 0xf111016f1c0c46f hc2),aN (by exact fk 0xf11101f1c0c4f hc3)];rfl))))))
   ·simp only[az]at hc3;exact fj (fj (fj (fin W hT (by decide) (by rw[hgt,aL (by exact gK 0xf10132110176f1c0c46f hc2),aL (by exact fk 0xf111016f1c0c46f hc2),aL (by exact fk 0xf111016f1c0c46f hc3)];rfl))))
theorem uh(F:DF X)(G:MF X)(H:MG X){x dx:Addr}{o:Obj}{m:Str->Option Value}{N:Nat}{L:Addr}{z:Value×Value×Value×Value}(ho:gr o m N)(M:uG X X.h₀ x dx m va vb as bs)(hmb:m "matching_blocks"=some .none)(hop:m "opcodes"=some .none)(da:X.dat (.list (as.map .int)) va)(db:X.dat (.list (bs.map .int)) vb)(hN:N<800)(hza:as.length<=1000)(hzb:bs.length<=1000)(h64:(ro (mm as bs) (iR as bs)).length<64):iP X (k+5) (Ad z L) (put [("self",.raw (.ref x))] "#d" (.at dx o)) ((fm (kj 8)).take 5) fun fl ρ'=>fl=.next/\∃l o',fn ρ' "answer" (.raw (.ref l))/\fn ρ' "#a" (.lst l (lD as.length bs.length 0 0 (ro (mm as bs) (iR as bs))))/\fn ρ' "#d" (.at dx o')/\DL l m N o':=by
 obtain⟨cd,hC⟩:=F.cls
 have hg:gY as.length bs.length true 0 0 (ro (mm as bs) (iR as bs)):=(kZ (mm as bs) (aV _) (aV _)).good'
 refine fe (ju ?_)
 refine fe (gu (b:=false) (kn (v:=.none) (gX (key:="#d") (by k_mem) ⟨M.obj,.inl ⟨o,by k_mem,ho⟩⟩ hC (F.own "opcodes" (by decide)).1 hop) jH) (fun e=>by cases e) fun _=>fj ?_)
 refine fe (mh (d:=.int 0) ft (fo (.inl rfl)) (fo (.inl rfl)) ?_)
 refine fe (kh "#a" s8 fun l oa hlow hoa=>gW (key:="#d") (o:=o) (m:=m) (N:=N) (by k_mem) M.obj (by k_mem) ho hC (F.own "opcodes" (by decide)).2 (f5 0xf113e81901f3201901f hN) fun o1 h1=>gy (.inl rfl) ?_)
 subst hoa
 refine uq (key:="#a") (l:=l) (n:=0) (by k_mem) ?_
 refine fe (Aq (items:=(rE as bs).map m0) (J0:=fun ρ=>∃o',wl l as.length bs.length (ro (mm as bs) (iR as bs)) 0 (.at dx o') ρ/\DL l m N o') (fun A bad O s R r=>aF (xn (k:=k) F G H (x:=x) (dx:=dx) (o:=o1) (m:=ja m "opcodes" (.ref l)) (N:=N+1) (y:="self") (by k_mem) (by k_mem) h1 M.updO (by delta ja;rw[aL (by decide)];exact hmb) da db (f5 0xf1138419180a1f3201901f hN) hza hzb h64 (R:=R) (r:=r)) (fun v s1 h=>?_) fun _ _ x=>x) (fun p ρ=>∃o',wl l as.length bs.length (ro (mm as bs) (iR as bs)) p (.at dx o') ρ/\DL l m N o') (fun ρ h=>h) ?_ ?_)
 ·refine yT h ?_;rintro O1 ρ1 hh ⟨o',rfl,h2⟩;exact⟨O1,_,hh,o',⟨⟨by k_mem,by k_mem,by k_mem,by k_mem,by k_mem⟩,aV _,.run (aV _) (by rw[cA,dT]) (by rw[dT];exact hg)⟩,_,h2⟩
 ·rintro p dd ρ hp ⟨o',⟨Z,hl,S⟩,D⟩Q1 H1;rw[aS]at hp;refine gR (Option.map_eq_some_iff.mp hp) ?_;rintro⟨ai,bj,n⟩hu rfl;exact⟨_,uZ G (f9 (fo (.inl rfl)) (f9 (fo (.inl rfl)) (f9 (fo (.inl rfl)) jg))) rfl rfl,vW ⟨hn (hn (hn Z.i rfl) rfl) rfl,hn (hn (hn Z.j rfl) rfl) rfl,by k_mem,by k_mem,by k_mem,hn (hn (hn Z.ans rfl) rfl) rfl,hn (hn (hn Z.a rfl) rfl) rfl,hn (hn (hn Z.d rfl) rfl) rfl⟩ hl h64 S hu fun h=>H1.next ⟨o',h,D⟩⟩
 ·rintro ρ ⟨o',⟨Z,hl,S⟩,D⟩;have e:((rE as bs).map m0).length=(ro (mm as bs) (iR as bs)).length+1:=by delta rE;simp
  rw[e]at S;cases S with|run h _ _=>exact(f5 0xf19f0180a0f h).elim|fin _ h=>subst h;exact fj ⟨rfl,l,o',Z.ans,Z.a,Z.d,D⟩
end
section
variable{X:Cx}{k:Nat}{env:Env}{ρ:List (Str×B)}{as bs:List Int}{va vb:Value}
theorem pE(F:DF X)(G:MF X)(H:MG X){A:Around}{bad:Addr->Prop}{s:Shared}{x dx:Addr}{m:Str->Option Value}{N:Nat}(R:gG (k+6) A)(a:At X s)(hX:X.h₀.get? dx=none)(hb:¬bad dx)(low:∀a,bad a->∃o,s.heap.get? a=some o)(I:ir s.heap 242 x dx m N)(M:uG X s.heap x dx m va vb as bs)(hmb:m "matching_blocks"=some .none)(hop:m "opcodes"=some .none)(ra:gF bad s.heap (.list (as.map .int)) va)(rb:gF bad s.heap (.list (bs.map .int)) vb)(hN:N<800)(hza:as.length<=1000)(hzb:bs.length<=1000)(h64:(ro (mm as bs) (iR as bs)).length<64):codeAny (model X.prog X.w) A (.call (.ref 210) ⟨[.ref x],[]⟩) (fun r s'=>∃v,r=.ok (.ret v)/\iF dx s s'/\gF bad s'.heap (.list (lD as.length bs.length 0 0 (ro (mm as bs) (iR as bs)))) v/\∃o' v2,s'.heap.get? dx=some o'/\gr o' (ja (ja m "opcodes" v) "matching_blocks" v2) (N+2)) s:=by
 refine gR I.nsb.aobj fun o ho hao=>?_
 obtain⟨_,_,z,D⟩:=F.codes
 have kb:=kg a hX
 have M':=M.hide ho hao
 refine iV (bad:=bad) (Dt:=fun d v=>(d=.list (as.map .int)/\v=va)\/(d=.list (bs.map .int)/\v=vb)) (bs:=[.raw (.ref x)]) (P:=fun v s'=>gF bad s'.heap (.list (lD as.length bs.length 0 0 (ro (mm as bs) (iR as bs)))) v/\∃o' v2,s'.heap.get? dx=some o'/\gr o' (ja (ja m "opcodes" v) "matching_blocks" v2) (N+2)) D R a ho hao.noseq hX hb low (by
   rintro d v (⟨rfl,rfl⟩|⟨rfl,rfl⟩);·exact ra.hide ho hao.noseq
   ·exact rb.hide ho hao.noseq) (.cons (.raw _) .nil) rfl fun L A' O s₁ R' r=>?_
 refine iP.then (ss1:=(fm (kj 8)).take 5) (ss2:=(fm (kj 8)).drop 5) (P:=fun ρ'=>∃l o',fn ρ' "answer" (.raw (.ref l))/\fn ρ' "#a" (.lst l (lD as.length bs.length 0 0 (ro (mm as bs) (iR as bs))))/\fn ρ' "#d" (.at dx o')/\DL l m N o') (uh (X:=XB X (s.heap.hide dx) as bs va vb) (k:=k) (F.on kb) (G.on kb) (H.on kb) (z:=z) hao ⟨M'.obj,M'.a,M'.ha,M'.b,M'.hb,M'.free,M'.rest⟩ hmb hop (.inl ⟨rfl,rfl⟩) (.inr ⟨rfl,rfl⟩) hN hza hzb h64) R' r ?_
 rintro ρ' O' s' ⟨l,o',ha,hl,hd,v2,hm⟩st r'
 obtain⟨hO,vs,n,hg,q⟩:=r'.lst _ _ _ hl
 refine cP (eR (bW (Lk.load r'.ok.kind (r'.raw _ _ ha) ?_) (by decide)))
 exact⟨.ref l,.inr rfl,r'.at,.list (r'.good _ _ hO).1 hg (q.imp fun _ _ _ h=>.inl h),o',v2,(r'.pt _ _ _ hd).2,hm⟩
theorem qF(F:DF X)(G:MF X)(H:MG X)(hsm:X.gl ("SequenceMatcher":Str)=some (.ref 242))(hkp:keepIn X.K (.ref 242)=true)(hmk:makesIn X.K 242=true){p p2 p3 apos q1 q4:Pos}{n1 n4:Nat}{pl:Sem Bool}{e e':Expr}(hk:env.kindOf ("SequenceMatcher":Str)=some .globalImplicit)(he:Ev X (k+6) env ρ e (.list (as.map .int)))(he':Ev X (k+6) env ρ e' (.list (bs.map .int)))(hza:as.length<=1000)(hzb:bs.length<=1000)(h64:(ro (mm as bs) (iR as bs)).length<64)(hev:autoParam (eval (.Call (.Attribute (.Call (.Name "SequenceMatcher" p) [.Constant .none n1 q1,e,e',.Constant (.bool false) n4 q4] [] p2) "get_opcodes" apos) [] [] p3) env=(do
   let ov<-eval (.Call (.Name "SequenceMatcher" p) [.Constant .none n1 q1,e,e',.Constant (.bool false) n4 q4] [] p2) env
   standAt apos.atName let(f,first)<-holding [ov] (getMethod ov "get_opcodes" pl)callWith p3 f first (backTo p3 (starEach [] env)) [])) aR)(hst:autoParam (starEach [.Constant .none n1 q1,e,e',.Constant (.bool false) n4 q4] env=[(false,eval (.Constant .none n1 q1) env),(false,eval e env),(false,eval e' env),(false,eval (.Constant (.bool false) n4 q4) env)]) aR)(hst2:autoParam (starEach [e,e',.Constant (.bool false) n4 q4] env=[(false,eval e env),(false,eval e' env),(false,eval (.Constant (.bool false) n4 q4) env)]) aR)(hst3:autoParam (starEach [e',.Constant (.bool false) n4 q4] env=[(false,eval e' env),(false,eval (.Constant (.bool false) n4 q4) env)]) aR)(hst4:autoParam (starEach [.Constant (.bool false) n4 q4] env=[(false,eval (.Constant (.bool false) n4 q4) env)]) aR):Ev X (k+6) env ρ (.Call (.Attribute (.Call (.Name "SequenceMatcher" p) [.Constant .none n1 q1,e,e',.Constant (.bool false) n4 q4] [] p2) "get_opcodes" apos) [] [] p3) (.list (lD as.length bs.length 0 0 (ro (mm as bs) (iR as bs)))):=fun A bad O s R r=>by
 obtain⟨cd,hC⟩:=F.cls
 have hsl:5000<=sizeLine:=by decide
 refine MethodCall_ (bE (g9 r hsm hk ?_)) hev
 have hargs:qy X (k+6) env ρ p2 [.Constant .none n1 q1,e,e',.Constant (.bool false) n4 q4] [.none,.list (as.map .int),.list (bs.map .int),.bool false]:=fg wg (fg he (fg he' (fg sS fq hst4) (by rw[hst3,hst4])) (by rw[hst2,hst3])) (by rw[hst,hst2])
 refine callWith_K (r.wf.kin.keeps r.base) hkp (aF (hargs A bad O s R r) (fun us s1 q=>?_) fun _ _ x=>x) (by rw[hst,hst2]) (by rw[hst2];rfl)
 obtain⟨x1,q⟩:=q
 have r1:=r.ext x1
 refine⟨r1.wf.kin.keeps r1.base,?_⟩
 refine jq q.inv ?_;rintro _ _ rfl q1 q
 refine jq q.inv ?_;rintro va _ rfl ra q
 refine jq q.inv ?_;rintro vb _ rfl rb q
 refine jq q.inv ?_;rintro _ _ rfl q4 q
 obtain rfl:=q.inv0
 obtain rfl:=q1.invN
 obtain rfl:=q4.invB
 have hva:va≠.none:=ra.listE fun _ _ _ _ _ _=>Value.noConfusion
 have hha:handedIn va=true:=ra.listE fun _ _ _ _ _ _=>rfl
 have hhb:handedIn vb=true:=rb.listE fun _ _ _ _ _ _=>rfl
 refine xP F hmk (k:=k+1) (A:=A) (s:=s1) (va:=va) (vb:=vb) (bs:=bs) R r1.at hva (rb.imp fun _ _ _ h=>h.elim) (fk 0xf111100f113882903e81900f hzb hsl) fun x dx d js ps s2 x2 hx hdx P2=>?_
 have r2:=r1.ext x2
 obtain⟨led,hjs⟩:=P2.junk
 have M:uG X s2.heap x dx (ja (ja (ja (ja (ja (ja (ja (um AA va) "b" vb) "matching_blocks" .none) "opcodes" .none) "fullbcount" .none) "b2j" (.ref d)) "bjunk" (.ref js)) "bpopular" (.ref ps)) va vb as bs:=by refine⟨P2.inst.obj,rfl,hha,rfl,hhb,fun f hf=>?_,d,js,led,rfl,rfl,hjs,P2.chain⟩;simp only[ak,dW,or_false]at hf;rcases hf with rfl|rfl|rfl<;>rfl
 obtain⟨hfc,htc,zc,Dc⟩:=F.codes
 refine gR Dc.obj fun oc hoc hdc=>?_
 refine jm (r2.wf.kin.keeps r2.base) P2.inst hC hfc htc (M.free _ (by decide)) ?_
 refine cG (o:=oc) (fd:=ub 8 "get_opcodes" zc) ?_
 refine aC (a:=(⟨[],[]⟩:Args)) ⟨⟨r2.base _ _ hoc,hdc⟩,?_⟩
 have hX:X.h₀.get? dx=none:=by cases e:X.h₀.get? dx with|none=>rfl|some o=>rw[r1.base _ _ e]at hdx;cases hdx
 refine bO (au (pE (k:=k) F G H (bad:=fv bad O) R r2.at hX (i3 r1 hdx) (gZ r2) P2.inst M rfl rfl (ra.ext x2) (rb.ext x2) (by decide) hza hzb h64) fun res s3 h3=>?_)
 refine yQ h3 ?_;rintro v rfl kp rv _
 refine⟨⟨fun b o e=>kp.keep b o (fun hb=>?_) (x2.keep _ _ (x1.keep _ _ e)),kp.gens.trans (x2.gens.trans x1.gens),kp.os.trans (x2.os.trans x1.os)⟩,rv⟩
 subst hb
 rw[x1.keep _ _ e]at hdx;cases hdx
end
noncomputable def u0(ns:List Int):PyData:=.tuple (ns.map .int)
section
variable{X:Cx}{k:Nat}{env:Env}{ρ:List (Str×B)}{A:Around}{E:Value->Shared->Prop}{s:Shared}
end
section
variable{X:Cx}{k:Nat}{env:Env}{ρ:List (Str×B)}
theorem BB{p pos:Pos}{e e':Expr}{a b:Int}(hx:X.gl ("min":Str)=some (.builtin "min"))(hk:env.kindOf ("min":Str)=some .globalImplicit)(he:Ev X k env ρ e (.int a))(he':Ev X k env ρ e' (.int b))(hs:autoParam (starEach [e,e'] env=[(false,eval e env),(false,eval e' env)]) aR)(hs2:autoParam (starEach [e'] env=[(false,eval e' env)]) aR):Ev X k env ρ (.Call (.Name "min" p) [e,e'] [] pos) (.int (min a b)):=fun A bad O s R r=>by
 refine bE (g9 r hx hk ?_)
 refine bT (af (he.use R r fun v s1 x1 r1 q1=>?_) (by rw[hs,hs2])) (by rw[hs,hs2]) (by rw[hs2];rfl)
 refine af (he'.use R r1 fun v' s2 x2 r2 q2=>a0 ?_) hs2
 refine q1.intE fun t=>q2.intE fun u=>?_
 refine min_two_ints R.handled fun h' tk hk=>⟨(x1.trans x2).trans ⟨hk,rfl,rfl⟩,?_⟩
 by_cases c:b<a
 ·rw[aN c,Int.min_eq_right (Int.le_of_lt c)];exact .int _ _
 ·rw[aL c,Int.min_eq_left (Int.not_lt.mp c)];exact .int _ _
end
section
variable{X:Cx}{k:Nat}{env:Env}{ρ:List (Str×B)}
def Dz(X:Cx)(k:Nat)(env:Env)(ρ:List (Str×B))(e:Expr)(items:List PyData):Prop:=
 ∀(A:Around) (bad:Addr->Prop) (O:Str->Option Addr) (s:Shared),gG k A->gE X bad O env ρ s->wpAny (model X.prog X.w) A (eval e env) (fun v s1=>∃r a b c t u w m,v=.ref r/\gQ s s1/\IsRange s1.heap r a b c t u w/\Builtin.Range.small a b c=true/\Builtin.Range.rangeSize a b c=(m:Nat)/\items=gO a c m) g8 s
theorem pk{p pos:Pos}{e:Expr}{n:Int}(hx:X.gl ("range":Str)=some (.type "range"))(hk:env.kindOf ("range":Str)=some .globalImplicit)(h:Ev X k env ρ e (.int n))(hn:-(2^40)<=n/\n<=2^40)(he:autoParam (starEach [e] env=[(false,eval e env)]) aR):Dz X k env ρ (.Call (.Name "range" p) [e] [] pos) (gO 0 1 n.toNat):=fun A bad O s R r=>
 kD R r hx hk (fg h fq he) (fun vs s1 x1 r1 q1=>by refine q1.oneE fun v qa=>qa.intE fun t=>?_;refine call_range_1 ?_;exact⟨_,0,n,1,_,_,_,_,rfl,x1.trans ⟨fun b o e=>aG _ e,rfl,rfl⟩,aT _ rfl,nA (iz [] [] 0xf1f1f1000000000099083081000000000099e37ff) hn,by rw[jJ,Int.sub_zero],rfl⟩) (by decide) he (by rw[he];rfl)
theorem ut{p pos:Pos}{e e':Expr}{a b:Int}(hx:X.gl ("range":Str)=some (.type "range"))(hk:env.kindOf ("range":Str)=some .globalImplicit)(h:Ev X k env ρ e (.int a))(h':Ev X k env ρ e' (.int b))(ha:-(2^40)<=a/\a<=2^40)(hb:-(2^40)<=b/\b<=2^40)(he:autoParam (starEach [e,e'] env=[(false,eval e env),(false,eval e' env)]) aR)(he':autoParam (starEach [e'] env=[(false,eval e' env)]) aR):Dz X k env ρ (.Call (.Name "range" p) [e,e'] [] pos) (gO a 1 (b-a).toNat):=fun A bad O s R r=>
 kD R r hx hk (fg h (fg h' fq he') (by rw[he,he'])) (fun vs s1 x1 r1 q1=>by refine q1.twoE fun v w qa qb=>qa.intE fun t=>qb.intE fun u=>?_;refine call_range_2 ?_;exact⟨_,a,b,1,_,_,_,_,rfl,x1.trans ⟨fun b o e=>aG _ e,rfl,rfl⟩,aT _ rfl,nA ha hb,jJ,rfl⟩) (by decide) (by rw[he,he']) (by rw[he];rfl)
end
theorem nP:∀(l:List Addr) (h:Heap) {b:Addr}{o:Obj},(hideAll h l).get? b=some o->h.get? b=some o/\b∉l
 |[],h,b,o,e=>⟨e,by simp⟩
 |a::r,h,b,o,e=>by
  obtain⟨e1,e2⟩:=nP r (h.hide a) e;have hb:b≠a:=fun q=>by subst q;rw[Heap.hide_self]at e1;cases e1
  rw[ax _ hb]at e1;exact⟨e1,fun h=>(ak.mp h).elim hb e2⟩
theorem oL:∀(l:List Addr) (h:Heap) {b:Addr},b∉l->(hideAll h l).get? b=h.get? b
 |[],h,b,_=>rfl
 |a::r,h,b,hb=>by show(hideAll (h.hide a) r).get? b=_;rw[oL r _ fun q=>hb (bv _ q),ax _ fun q=>hb (by rw[q];exact bX)]
open Classical in
theorem kT (h:Heap) (p:Addr->Prop):∃h':Heap,(∀b o,h'.get? b=some o->h.get? b=some o/\p b)/\∀b o,p b->h.get? b=some o->h'.get? b=some o:=by
 refine⟨hideAll h ((List.range h.objs.size).filter fun b=>decide (¬p b)),fun b o e=>?_,fun b o hb e=>?_⟩
 ·obtain⟨e1,e2⟩:=nP _ _ e;refine⟨e1,?_⟩;rw[List.mem_filter,fK]at e2;by_cases q:p b;·exact q
  ·exact absurd ⟨am e1,bH q⟩ e2
 ·rw[oL _ _ fun q=>?_];exact e;rw[List.mem_filter]at q;exact of_decide_eq_true q.2 hb
section
variable{X:Cx}{k:Nat}{env:Env}{ρ:List (Str×B)}{Q:Fl->List (Str×B)->Prop}
end
section
variable{X:Cx}{k:Nat}{env:Env}{ρ:List (Str×B)}{Q:Fl->List (Str×B)->Prop}
end
end Mine
open PySem.SeqAt
namespace Mine
section
variable{X:Cx}{k:Nat}{as bs:List Int}
def D5(t:Str):Prop:=t="insert"\/t="delete"\/t="replace"\/t="equal"
theorem wo{i ai j bj:Nat}{x:PyData}(h:x∈qZ i ai j bj):∃t i1 i2 j1 j2,x=code t i1 i2 j1 j2/\D5 t/\t≠"equal":=by
 delta qZ at h
 split at h
 ·cases h
 ·rw[aa]at h;refine⟨_,_,_,_,_,h,?_⟩;split;·exact⟨.inl rfl,by decide⟩
  ·split;·exact⟨.inr (.inl rfl),by decide⟩
   ·exact⟨.inr (.inr (.inl rfl)),by decide⟩
theorem sJ{la lb:Nat}:∀{bl:List T3}{i j:Nat}{x:PyData},x∈lD la lb i j bl->∃t i1 i2 j1 j2,x=code t i1 i2 j1 j2/\D5 t
 |[],i,j,x,h=>E9 (wo h) fun t i1 i2 j1 j2 e ht _=>⟨t,i1,i2,j1,j2,e,ht⟩
 |(ai,bj,n)::r,i,j,x,h=>by
  unfold lD at h;rcases aY.mp h with h|h
  ·refine E9 (wo h) fun t i1 i2 j1 j2 e ht _=>?_;exact⟨t,i1,i2,j1,j2,e,ht⟩
  ·rcases ak.mp h with rfl|h;·exact⟨"equal",_,_,_,_,rfl,.inr (.inr (.inr rfl))⟩
   ·exact sJ h
theorem wb{la lb:Nat}:∀(bl:List T3) (i j:Nat),(lD la lb i j bl).length<=2*bl.length+1
 |[],i,j=>by unfold lD qZ;split<;>simp
 |(ai,bj,n)::r,i,j=>by
  have h1:=wb (la:=la) (lb:=lb) r (ai+n) (bj+n);have h2:(qZ i ai j bj).length<=1:=by delta qZ;split<;>simp
  unfold lD;rw[aP,aM,aM];exact fu 0xf11118181a02ba180a2a0f182018102ba00f h1 h2
end
theorem kd:∀xs:List Int,PyData.canLayAll0 (xs.map .int)=true
 |[]=>rfl
 |x::r=>by simp only[bJ,PyData.canLayAll0,PyData.canLay0,kd r,fT]
theorem mx:∀xs:List Int,PyData.depthAll (xs.map .int)<=1
 |[]=>by simp[PyData.depthAll]
 |x::r=>by have:=mx r;simp only[bJ,PyData.depthAll,PyData.depth];exact f5 0xf1108f108f1810f1800f0084 this
theorem oN(xs:List Int):SeqAt.shaped (.list (xs.map .int))=true:=by
 have:=mx xs
 delta SeqAt.shaped
 simp only[PyData.canLay0,PyData.depth,kd,Bool.true_and];exact bH (f5 0xf114009180a0f1800f this)
theorem AQ(xs ys:List Int):PyData.eqv (.list (xs.map .int)) (.list (ys.map .int))=decide (xs=ys):=by
 rw[PyData.eqv,ked_eqvAll]
theorem Ao{t:Str}(ht:D5 t)(i1 i2 j1 j2:Nat):(code t i1 i2 j1 j2).canLay0=true/\(code t i1 i2 j1 j2).depth<=3:=by
 have h:PyData.strOk t=true:=by rcases ht with rfl|rfl|rfl|rfl<;>first|rfl|decide+kernel
 delta code
 simp only[PyData.canLay0,PyData.canLayAll0,PyData.depth,PyData.depthAll,h,fT]
 exact⟨trivial,by decide⟩
theorem qG:∀{cs:List PyData},(∀x∈cs,∃t i1 i2 j1 j2,x=code t i1 i2 j1 j2/\D5 t)->PyData.canLayAll0 cs=true/\PyData.depthAll cs<=3
 |[],_=>by simp[PyData.canLayAll0,PyData.depthAll]
 |x::r,h=>by refine Ff (h _ bX) ?_;rintro t i1 i2 j1 j2 rfl ht;obtain⟨a,b⟩:=Ao ht i1 i2 j1 j2;obtain⟨c,d⟩:=qG (cs:=r) fun x hx=>h x (bv _ hx);simp only[PyData.canLayAll0,PyData.depthAll,a,c,fT];exact⟨trivial,by exact fk 0xf10108f1108f3820f38103800f104 b d⟩
theorem vT(la lb i j:Nat)(bl:List T3):SeqAt.shaped (.list (lD la lb i j bl))=true:=by
 obtain⟨a,b⟩:=qG (cs:=lD la lb i j bl) fun x hx=>sJ hx
 delta SeqAt.shaped
 simp only[PyData.canLay0,PyData.depth,a,Bool.true_and];exact bH (f5 0xf114009180a0f3800f b)
theorem qI{d:PyData}(h:SeqAt.shaped d=true):PyData.eqv d d=true:=SeqAt.eqv_refl _ (bM h)
section
variable{X:Cx}{k:Nat}{as bs:List Int}
theorem tl{a c:Int}{m:Nat}{d:PyData}(h:d∈gO a c m):∃i:Nat,i<m/\d=.int (a+i*c):=by
 delta gO at h
 refine gR (List.mem_map.mp h) ?_;rintro i hi rfl
 exact⟨i,fK.mp hi,rfl⟩
end
noncomputable def iy(i:Nat)(nm:Str)(a b c:Value):FuncData:=fnOf nm nm (gg (fh g7 i)) (fm (fh g7 i)) (gT (fh g7 i)) (.none) (.none) (.none) a none b c
def oi(X:Cx)(i:Nat)(f:Addr)(nm:Str)(names:List Str):Prop:=X.gl nm=some (.ref f)/\∃a b c,kf X f (iy i nm a b c) (fm (fh g7 i)) names/\∀vs:List Value,vs.length=names.length->bindArgs (iy i nm a b c) ⟨vs,[]⟩=pure (names.zip vs)
section
variable{X:Cx}{k:Nat}{env:Env}{ρ:List (Str×B)}{Q:Fl->List (Str×B)->Prop}
theorem kB{i:Nat}{f:Addr}{nm:Str}{names:List Str}{p pos:Pos}{e:Expr}{es:List Expr}{ds:List PyData}{d:PyData}(D:oi X i f nm names)(hk:env.kindOf nm=some .globalImplicit)(ha:qy X (k+1) env ρ pos (e::es) ds)(hl:ds.length=names.length)(h:∀L a b c,iP X k (callEnvC (iy i nm a b c) L f) (names.zip (ds.map B.val)) (fm (fh g7 i)) fun fl _=>fl=.ret d)(hd:autoParam ((nm==("__debug__":Str))=false) aD)(he:autoParam (starEach (e::es) env=(false,eval e env)::starEach es env) aR):Ev X (k+1) env ρ (.Call (.Name nm p) (e::es) [] pos) d:=by
 obtain⟨hx,a,b,c,D,hbnd⟩:=D
 refine gR D.obj fun o ho hdat=>?_
 exact Bd hx hk ho hdat (tL (F:=fun ds' d'=>ds'=ds/\d'=d) ho hdat D.code D.body D.clo D.g D.b hbnd D.nodup D.par (fun ds' d' q=>by rw[q.1];exact hl) D.co D.gen D.kind (fun L ds' d' q=>by obtain⟨rfl,rfl⟩:=q;exact h L a b c)) ha ⟨rfl,rfl⟩ hd he
def sK(env:Env):List (Str×Addr)->Prop
 |[]=>True
 |(n,c)::r=>env.cells.lookup n=some c/\sK env r
theorem sK.sub:∀{cl:List (Str×Addr)},sK env cl->∀n c,cl.lookup n=some c->env.cells.lookup n=some c
 |[],_,n,c,e=>by cases e
 |(m,a)::r,h,n,c,e=>by
  rw[bm]at e;split at e;·rename_i hh;have:=eq_of_beq hh;subst this;cases e;exact h.1
  ·exact sK.sub h.2 n c e
def sD(env:Env)(ρ:List (Str×B))(sc:Scope)(cl:List (Str×Addr)):List (Str×B)->Prop
 |[]=>True
 |(y,b)::r=>(¬b.owns/\ρ.lookup y=some b/\env.kindOf y=some .cell/\(relabel sc env).names.lookup y=some .cell/\∃c,cl.lookup y=some c)/\sD env ρ sc cl r
theorem sD.cap{sc:Scope}{cl:List (Str×Addr)}:∀{ρc:List (Str×B)},sD env ρ sc cl ρc->∀y b,ρc.lookup y=some b->¬b.owns/\ρ.lookup y=some b/\env.kindOf y=some .cell/\(relabel sc env).names.lookup y=some .cell/\∃c,cl.lookup y=some c
 |[],_,y,b,e=>by cases e
 |(z,b')::r,h,y,b,e=>by
  rw[bm]at e;split at e;·rename_i hh;have:=eq_of_beq hh;subst this;cases e;exact h.1
  ·exact sD.cap h.2 y b e
end
section
variable{X:Cx}{k:Nat}{as bs:List Int}
theorem iq{env:Env}{ρ:List (Str×B)}{e:Expr}{l l':List PyData}(h:yh X k env ρ e l)(q:l=l'):yh X k env ρ e l':=q▸h
end
theorem ij{α β:Type}{f g:α->List β}:∀{l:List α},(∀x∈l,f x=g x)->l.flatMap f=l.flatMap g
 |[],_=>rfl
 |x::l,h=>by rw[dp,dp,h x bX,ij fun y hy=>h y (bv _ hy)]
theorem oA{X:Cx}{k:Nat}{env:Env}{ρ:List (Str×B)}{e:Expr}{l l':List PyData}(h:Dz X k env ρ e l)(q:l=l'):Dz X k env ρ e l':=q▸h
theorem ux{prog:Program}{w:World}{A:Around}{E:Value->Shared->Prop}{s:Shared}{l:Addr}{vs:List Value}{ns:List Int}{k:Int}{t:Tok}{Q:Value->Shared->Prop}(hl:s.heap.IsList l vs.toArray)(hi:IntsAre vs ns)(hb:ns.length<=2^20)(hk:k∈ns)(h:Q (.int (ns.idxOf k:Nat) s.toks) {s with toks:=s.toks+1}):wpAny (model prog w) A (call (.builtin "list.index") [.ref l,.int k t]) Q E s:=by
 obtain⟨⟨cls,dd,data,sl⟩,ho,hc,n,hd⟩:=id hl
 simp only at hc hd
 subst hc hd
 have hlen:=hi.length
 have hj:ns.idxOf k<ns.length:=List.idxOf_lt_length_iff.mpr hk
 refine call_meets PySem.F.slot_list_index ⟨_,ho,rfl⟩ PySem.F.entry_list_index (PySem.F.args_list_index_2 _ _) (list_indexAt l vs.toArray n dd sl (.int k t) (isInt k) (ns.idxOf k) (by simpa[hlen]using hj) (fk 0xf111188000000000000000e9d1c4f0111000004900f hb hj) ?_ ?_) ⟨ho,fun y hy=>(eq_isInt k t hi y (by simpa using hy)).at _ _,h⟩
 ·show isInt k vs[ns.idxOf k]=true;rw[isInt_at k hi _ (by exact fu 0xf111021f121102f hlen hj) hj];simpa using fL hj
 ·intro j hjs hlt;show isInt k vs[j]=false;rw[isInt_at k hi j (by simpa using hjs) (by exact fu 0xf111121f021101f hj hlt)];exact ne_of_lt_idxOf hlt _
section
variable{X:Cx}{k:Nat}{env:Env}{ρ:List (Str×B)}
theorem yi{pl:Sem Bool}{e e':Expr}{apos cpos:Pos}{ns:List Int}{v:Int}(he:uJ X k env ρ e (ns.map .int))(he':Ev X k env ρ e' (.int v))(hv:v∈ns)(hz:ns.length<=2^20)(hm:autoParam (eval (.Call (.Attribute e "index" apos) [e'] [] cpos) env=(do
   let ov<-eval e env
   standAt apos.atName let(f,first)<-holding [ov] (getMethod ov "index" pl)callWith cpos f first (backTo cpos (starEach [e'] env)) [])) aR)(hst:autoParam (starEach [e'] env=[(false,eval e' env)]) aR):Ev X k env ρ (.Call (.Attribute e "index" apos) [e'] [] cpos) (.int (ns.idxOf v:Nat)):=fun A bad O s R r=>by
 refine MethodCall_ (he.use R r fun a vs s1 x1 r1 l1 q1=>?_) hm
 obtain⟨n,g⟩:=id l1
 refine cY PySem.F.slot_list_index PySem.F.type_list_index (uB l1) ⟨_,g,rfl⟩ (bT (af (he'.use R r1 fun u s2 x2 r2 q2=>a0 ?_) hst) (by rw[hst];rfl) (by rfl))
 refine q2.intE fun t=>?_
 show wpAny _ _ (call (.builtin "list.index") [.ref a,.int v t]) _ _ s2
 refine ux (vs:=vs.toList) (by simpa using i5 x2 l1) (q1.ints) hz hv ⟨(x1.trans x2).trans (gQ.toks _ _),.int _ _⟩
theorem mP(a b:Int):PyData.eqv (.int a) (.int b)=decide (a=b):=by
 show(a==b)=_
 by_cases h:a=b<;>simp[h]
theorem AS(ns:List Int)(v:Int):(ns.map PyData.int).any (fun y=>PyData.eqv y (.int v))=decide (v∈ns):=by
 rw[List.any_map]
 induction ns with
 |nil=>simp
 |cons n ns ih=>
  rw[List.any_cons,ih];show(PyData.eqv (.int n) (.int v)||_)=_;rw[mP];by_cases h:n=v;·subst h;simp
  ·simp[h,Ne.symm h]
theorem DZ{l r:Expr}{pos:Pos}{v:Int}{ns:List Int}(hl:Ev X k env ρ l (.int v))(hr:uJ X k env ρ r (ns.map .int))(hm:autoParam (behindInMarks .In r=false) aW):mM X k env ρ (.Compare l [.In] [r] pos) (decide (v∈ns)):=fun A bad O s R q=>
 bY (hl.use R q fun u s1 x1 r1 q1=>hr.use R r1 fun a vs s2 x2 r2 l2 q2=>by
  obtain⟨as,ra⟩:=(q1.ext x2).reads (by rfl);obtain⟨bs,rb⟩:=q2.reads (kd ns);obtain⟨n,g⟩:=id l2;have hd:=mx ns;refine in_list_reads (.list g rfl rfl rb) ra (kd ns) (by rfl) ?_ (bV ⟨x1.trans x2,AS ns v⟩);have:=R.units;have hc:9100<cLine:=by decide
  show A.units+1+min _ _<cLine;have h1:=Nat.min_le_left (PyData.depthAll (ns.map .int)) (PyData.depth (.int v));exact i8 0xf1111135181aa1f0503238c291232829264b1a01800f403 hd this hc h1) hm
theorem BF{x:Str}{r:Expr}{p pos:Pos}{a:Addr}{vs:Array Value}{ns:List Int}{es:List PyData}(hx:ρ.lookup x=some (.raw (.ref a)))(ha:X.h₀.IsList a vs)(hv:IntsAre vs.toList ns)(hr:uJ X k env ρ r es)(hz:ns.length+es.length<=sizeLine)(hd:autoParam ((x==("__debug__":Str))=false) aD):Ev X k env ρ (.BinOp (.Name x p) .Add r pos) (.list (ns.map .int++es)):=fun A bad O s R q=>
 eJ ((gN hx hd).use R q fun s1 x1 r1=>hr.use R r1 fun b ws s2 x2 r2 l2 q2=>by
  have hl:vs.size=ns.length:=by rw[<-aE,hv.length]
  have hl':ws.size=es.length:=by rw[<-aE,q2.length]
  have ha':s2.heap.IsList a vs:=by obtain⟨o,h1,h2⟩:=ha;exact⟨o,r2.base _ _ h1,h2⟩
  refine nY ha' (uB l2) (i8 0xf8811243a0f142032210a0f hz hl hl') ⟨(x1.trans x2).trans (gQ.push _ _),?_⟩;refine ke r2 ?_;rw[bD];refine RepL.append ?_ q2;clear hl ha' ha;generalize vs.toList=us at hv;induction hv with|nil=>exact .nil|cons n t h ih=>exact .cons (.int _ _) (ih (by rw[aM]at hz;exact fu 0xf11210a0f21180aa0f hz)))
end
section
variable{X:Cx}{k:Nat}
theorem jN{env:Env}{ρ:List (Str×B)}{pos p:Pos}{r:List Expr}{ns:List Int}{i:Int}{n:Nat}(h:qy X k env ρ pos r (ns.map .int)):qy X k env ρ pos (.Constant (.int i) n p::r) ((i::ns).map .int):=fg ft h
theorem tj{env:Env}{ρ:List (Str×B)}{pos:Pos}:qy X k env ρ pos [] (([]:List Int).map .int):=fq
end
theorem td(nx ny:List Int):(nC nx ny).length=ny.length:=by delta nC;rw[aB]
noncomputable def gI(nx:List Int):PyData->List PyData
 |.int v=>[.int (if v∈nx then((nx.idxOf v:Nat):Int)else-1)]
 |_=>[]
theorem wL(nx ny:List Int):(ny.map PyData.int).flatMap (gI nx)=(nC nx ny).map .int:=by
 delta nC
 rw[d9,cK,dQ]
 rfl
section
variable{X:Cx}{k:Nat}
noncomputable def wK(e:Expr):Nat->Expr:=by
 apply@Expr.casesOn (fun _=>Nat->Expr) e
 case Call=>exact fun _ as _ _ i=>as.getD i (.Name "" ⟨0,0,0,0⟩)
 all_goals intros;exact .Name "" ⟨0,0,0,0⟩
end
theorem gY.count{la lb:Nat}{b:Bool}{i j:Nat}{S:List T3}(g:gY la lb b i j S):S.length+i<=la/\S.length+j<=lb:=by
 induction g with
 |nil h1 h2=>simp only[aZ];exact gK 0xf101f11f3208a01008a07f320100f h1 h2
 |cons h1 h2 h3 h4 h5 ih=>simp only[aM];exact Dx 0xf101101f11011f072185aa060185aa07f0743a5a0641a5a04081320100f h1 h2 h3 ih.1 ih.2
theorem nF(as bs:List Int):(ro (mm as bs) (iR as bs)).length<=as.length/\(ro (mm as bs) (iR as bs)).length<=bs.length:=by
 have:=(kZ (mm as bs) (aV as.length) (aV bs.length)).good'.count
 exact this
section
variable{X:Cx}{k:Nat}{env:Env}{ρ:List (Str×B)}
theorem o8{tree:Value->Sem PUnit}{x:PyData}{o:List PyData}{y:Str}{p:Pos}(hk:env.kindOf y=some .local)(hn:ρ.lookup y=none)(h:FP X k env (put ρ y (.val x)) tree o):DD X k env ρ (.Name y p) [] tree x o:=
 ⟨_,true,j7 hk,fun z c e=>by
  have n1:z≠y:=fun q=>by rw[q,hn]at e;cases e
  rw[m5 _ n1];exact e,pg,fun _=>h,fun hb=>by cases hb⟩
end
section
variable{prog:Program}{w:World}{A:Around}{R:Result->Shared->Prop}{I:Addr}{fp wr:List Addr}{G:Array GenState->Array GenState->Prop}{n:Nat}{P:Nat->Value->Prop}{St:Nat->Shared->Prop}
theorem AG(W:WalksS prog w A.in1 I fp wr G n P St)(pre:Array Value)(hn:pre.size+n<=sizeLine)(S:Addr)(hSf:S∉fp)(res:Value):∀(k i:Nat) (s:Shared) (acc:Array Value) (c:Nat),n-i=k->i<=n->St i s->s.heap.get? S=some {cls:=.type "list",dict:=none,data:=.seq (pre++acc) c,slots:=#[]}->ItemsOf P acc i->(∀s' acc' c',Moved (S::wr) G s s'->s'.heap.get? S=some {cls:=.type "list",dict:=none,data:=.seq (pre++acc') c',slots:=#[]}->ItemsOf P acc' n->R (.ok (.ret res)) s')->codeAny (model prog w) A (.builtin "list.extend.loop" ⟨[.ref S,.ref I,res],[]⟩) R s:=by
 have hSw:S∉wr:=fun h=>hSf (W.sub _ h)
 have hsub:∀b∈wr,b∈S::wr:=fun b hb=>bv _ hb
 intro k
 induction k with
 |zero=>
  intro i s acc c hk hi hst hS hacc hR;have hin:i=n:=by exact fk 0xf8101f10001f012f0100822f101 hk hi
  subst hin;refine eH dE ?_;rw[dK bL _];show wpAny _ A.in1 (pyNext (.ref I)>>=_) _ _ s;refine aA (W.done s _ _ hst fun s' hm=>?_);exact aC (hR s' acc c (hm.mono hsub) (hm.heap S _ hSw hS) hacc)
 |succ k ih=>
  intro i s acc c hk hi hst hS hacc hR;have hlt:i<n:=by exact fu 0xf118f1008f011f182a32f100 hk
  refine eH dE ?_;rw[dK bL _];show wpAny _ A.in1 (pyNext (.ref I)>>=_) _ _ s;refine aA (W.item i s _ _ hlt hst fun v s' hP hst' hm=>?_);have hS':=hm.heap S _ hSw hS;show wpAny _ A.in1 (updateSeq S (·.push v)>>=_) _ _ _;refine aA ?_;have hpp:(pre++acc).push v=pre++acc.push v:=by rw[Array.push_append]
  obtain⟨c2,hS2⟩:∃c2,(s'.heap.update S (Obj.mapSeq (·.push v))).get? S=some {cls:=.type "list",dict:=none,data:=.seq ((pre++acc).push v) c2,slots:=#[]}:=⟨_,aw _ hS' rfl⟩;rw[hpp]at hS2;refine dH hS' rfl (aC ⟨eD bL _,ih (i+1) _ (acc.push v) c2 (fu 0xf1118f11008ff11108f110008fff8181f1810ff108ff232f182a42f100181a00 hk) hlt (W.frame _ s' _ s'.toks hst' (aH _) fun b hb o e=>?_) ?_ (hacc.push hP) fun s'' acc' c' hm'' hS'' hacc'=>?_⟩) (by rw[Array.size_append,hacc.1];exact gK 0xf111230a0f131210a0f hn hlt) (by show((pre++acc).push v).size<=sizeLine+1;rw[dc,Array.size_append,hacc.1];exact gK 0xf111182a1830aa0f131210a0f hn hlt);·exact(bG _ _ (fun h:S=b=>hSf (by rw[h];exact hb))).trans e
  ·exact hS2
  ·refine hR s'' acc' c' (Moved.trans W.gtrans ((hm.mono hsub).then_heap (by first|exact aH _|exact fa _|lia) fun b o hb e=>?_) hm'') hS'' hacc';exact(bG _ _ (fun h:S=b=>hb (by rw[h];exact bX))).trans e
end
section
variable{prog:Program}{w:World}{A:Around}{E:Value->Shared->Prop}{s:Shared}
theorem m8{R:Result->Shared->Prop}{r:Addr}{a b c:Int}{t u v:Tok}{n:Nat}(hh:A.handled=none)(hr:IsRange s.heap r a b c t u v)(hsmall:Builtin.Range.small a b c=true)(hn:Builtin.Range.rangeSize a b c=n)(hlen:n<=2^16)(S:Addr)(res:Value)(pre:Array Value)(hpre:pre.size<=2^16)(c₀:Nat)(hS:s.heap.get? S=some {cls:=.type "list",data:=.seq pre c₀}) (hR:∀h' tk acc' c',(∀b o,b≠S->s.heap.get? b=some o->h'.get? b=some o)->h'.get? S=some {cls:=.type "list",dict:=none,data:=.seq (pre++acc') c',slots:=#[]}->ItemsOf (fun i v=>∃t,v=.int (a+i*c) t) acc' n->R (.ok (.ret res)) {s with heap:=h',toks:=tk}):wpAny (model prog w) A.in1 (Builtin.List.listExtendWith (.ref S) (.ref r) res) (fun fin s'=>match fin with|.done f=>R (.ok f) s'|.again c'=>c'.quiet=true/\codeAny (model prog w) A c' R s') (fun e s'=>R (.error e) s') s:=by
 have hsz:2^16+2^16<=sizeLine:=by decide
 have hSr:S≠r:=fun e=>by rw[e,hr]at hS;simp at hS
 have hSlt:S<s.heap.objs.size:=am hS
 have hSI:S≠s.heap.objs.size:=bQ hSlt
 have hSf:S∉[s.heap.objs.size]:=fun hm=>hSI (aa.mp hm)
 have W:=(Walks.range (prog:=prog) (w:=w) (A:=A.in1) hh s.heap.objs.size a c n).toS
 have key:∀(h:Heap) (c₁ tk:Nat),IsRangeIter h s.heap.objs.size (a+((0:Nat):Int)*c) ((n:Int)-((0:Nat):Int)) c->(∀b o,b≠S->s.heap.get? b=some o->h.get? b=some o)->h.get? S=some {cls:=.type "list",data:=.seq (pre++#[]) c₁}->codeAny (model prog w) A (.builtin "list.extend.loop" ⟨[.ref S,.ref s.heap.objs.size,res],[]⟩) R {s with heap:=h,toks:=tk}:=by
  intro h c₁ tk hit hk hS₁;refine AG W pre (fu 0xf1111201a0f210000391000039a0100003910100003900f hlen hpre hsz) S hSf res n 0 _ #[] c₁ rfl (aV _) hit hS₁ (ItemsOf.nil _) fun s' acc' c' hm hS' hacc=>?_;rw[Moved.eq_with hm];refine hR s'.heap s'.toks acc' c' (fun b o hb e=>hm.heap b o (fun hmem=>?_) (hk b o hb e)) hS' hacc;rcases ak.mp hmem with e'|hmem;·exact hb e'
  ·exact absurd (am e) (by rw[aa.mp hmem];exact cq _)
 delta Builtin.List.listExtendWith
 refine aA (wpAny_typeOf (T:="range") ⟨_,hr,rfl⟩ ?_)
 have h1:Builtin.List.listSameRef (.ref S) (.ref r)=false:=by simp[Builtin.List.listSameRef,hSr]
 have h2:(Value.type "range"==Value.type "list")=false:=by decide
 have h3:(Value.type "range"==Value.type "tuple")=false:=by decide
 simp only[h1,h2,h3,cU,ae,bZ]
 refine aA (wpAny_pyIter_range hr hsmall ?_)
 refine aA (ah (wpAny_hint_range (n:=n) (aG _ hr) hn (f5 0xf1110000005900f100003900f hlen) ?_))
 have hit₁:IsRangeIter (s.heap.push {cls:=.type "range_iterator",data:=.fields #[rawInt a,rawInt (Builtin.Range.rangeSize a b c),rawInt c]}) s.heap.objs.size (a+((0:Nat):Int)*c) ((n:Int)-((0:Nat):Int)) c:=by show IsRangeIter _ _ _ _ _;rw[hn];simpa using aT _ rfl
 have hS₁:=aG {cls:=.type "range_iterator",data:=.fields #[rawInt a,rawInt (Builtin.Range.rangeSize a b c),rawInt c]} hS
 refine wpAny_ite_split (fun _=>?_) (fun _=>aC ⟨eD bL _,key _ c₀ _ hit₁ (fun b o _ e=>aG _ e) (by rw[Array.append_empty];exact hS₁)⟩)
 refine aA (ce ?_)
 refine aA ?_
 show wpAny _ _ (updateSeq S (·.push .none)>>=fun _=>updateSeq S (·.pop)) _ _ _
 refine aA (dH hS₁ rfl ?_ (fk 0xf111100f110000391000039a0100003900f hpre hsz) (by show(pre.push .none).size<=_;rw[dc];exact fk 0xf111181a180a0f110000391000039a0100003900f hpre hsz))
 have hS₂:=aw (Obj.mapSeq (·.push Value.none)) hS₁ rfl
 refine dH (hz:=by show(pre.push .none).size<=_;rw[dc];exact fk 0xf1111180a0f110000391000039a0100003900f hpre hsz) hS₂ rfl ?_ (by show((pre.push Value.none).pop).size<=_;rw[Array.size_pop,dc];exact fk 0xf11011181a20f110000391000039a0100003900f18180a1 hpre hsz)
 obtain⟨c2,hS₃⟩:∃c2,(((s.heap.push {cls:=.type "range_iterator",data:=.fields #[rawInt a,rawInt (Builtin.Range.rangeSize a b c),rawInt c]}).update S (Obj.mapSeq (·.push Value.none))).update S (Obj.mapSeq (·.pop))).get? S=some {cls:=.type "list",data:=.seq ((pre.push .none).pop) c2}:=⟨_,aw (Obj.mapSeq (·.pop)) hS₂ rfl⟩
 rw[Array.pop_push]at hS₃
 refine aC ⟨eD bL _,key _ c2 _ ?_ (fun b o hb e=>?_) (by rw[Array.append_empty];exact hS₃)⟩
 ·exact(bG _ _ hSI).trans ((bG _ _ hSI).trans hit₁)
 ·exact(bG _ _ (Ne.symm hb)).trans ((bG _ _ (Ne.symm hb)).trans (aG _ e))
end
theorem nB{prog:Program}{w:World}{A:Around}{s:Shared}{R:Result->Shared->Prop}{r:Addr}{a b c:Int}{t u v:Tok}{n:Nat}(hh:A.handled=none)(hr:IsRange s.heap r a b c t u v)(hsmall:Builtin.Range.small a b c=true)(hn:Builtin.Range.rangeSize a b c=n)(hlen:n<=2^16)(S:Addr)(pre:Array Value)(hpre:pre.size<=2^16)(c₀:Nat)(hS:s.heap.get? S=some {cls:=.type "list",data:=.seq pre c₀}) (hR:∀h' tk acc' c',(∀b o,b≠S->s.heap.get? b=some o->h'.get? b=some o)->h'.get? S=some {cls:=.type "list",dict:=none,data:=.seq (pre++acc') c',slots:=#[]}->ItemsOf (fun i v=>∃t,v=.int (a+i*c) t) acc' n->R (.ok (.ret .none)) {s with heap:=h',toks:=tk}):codeAny (model prog w) A (.call (.builtin "list.extend") ⟨[.ref S,.ref r],[]⟩) R s:=by
 refine et cT.plain PySem.F.entry_list_extend (cT.check _ _ _ _ _ _ _ _ ⟨_,hS,rfl⟩ (PySem.F.args_list_extend_2 _ _) ?_)
 exact m8 hh hr hsmall hn hlen S .none pre hpre c₀ hS hR
theorem RepL.of_items{bad:Addr->Prop}{h:Heap}{a c:Int}:∀{n:Nat}{acc:Array Value},ItemsOf (fun(i:Nat) (v:Value)=>∃t,v=Value.int (a+(i:Int)*c) t) acc n->RepL bad h (gO a c n) acc.toList:=by
 intro n acc hi
 obtain⟨h1,h2⟩:=hi
 have:∀(l:List Value) (m:Nat),(∀j v,l[j]?=some v->∃t,v=Value.int (a+((m+j:Nat):Int)*c) t)->RepL bad h ((List.range' m l.length).map fun(i:Nat)=>PyData.int (a+(i:Int)*c)) l:=by intro l;induction l with|nil=>intro m _;exact .nil|cons v l ih=>intro m hm;rw[aM,List.range'_succ,bJ];obtain⟨t,ht⟩:=hm 0 v rfl;rw[ht];refine .cons (.int _ _) (ih (m+1) fun j v hj=>?_);obtain⟨t,ht⟩:=hm (j+1) v hj;exact⟨t,by rw[ht,show m+(j+1)=m+1+j by exact fk 0xf1f1f1180aa181a0a2ff]⟩
 have:=this acc.toList 0 fun j v hj=>by obtain⟨t,ht⟩:=h2 j v (by rw[<-ab];exact hj);exact⟨t,by rw[ht,d7]⟩
 delta gO
 rw[List.range_eq_range',<-h1,<-aE]
 exact this
section
variable{X:Cx}{k:Nat}{env:Env}{ρ:List (Str×B)}{Q:Fl->List (Str×B)->Prop}
theorem rP{p pos:Pos}{e:Expr}{items:List PyData}(hx:X.gl ("list":Str)=some (.type "list"))(hk:env.kindOf ("list":Str)=some .globalImplicit)(he:Dz X k env ρ e items)(hz:items.length<=2^16)(hs:autoParam (starEach [e] env=[(false,eval e env)]) aR):vr X k env ρ (.Call (.Name "list" p) [e] [] pos) items:=fun A bad O s R r=>by
 refine bE (g9 r hx hk ?_)
 refine eC (by rw[hs];rfl) ?_
 have h1:wpAny (model X.prog X.w) A (spliced (backTo pos (starEach [e] env))) (fun vs s'=>wpAny (model X.prog X.w) A (call (.type "list") ([]++vs)) (fun v s'=>gQ s s'/\∃l vs n,v=.ref l/\s.heap.get? l=none/\s'.heap.get? l=some {cls:=.type "list",data:=.seq vs n}/\RepL (fun a=>fv bad O a\/a=l) s'.heap items vs.toList) g8 s') g8 s:=by refine af (aF (he A bad O s R r) (fun v s1 q=>?_) fun _ _ x=>x) hs;obtain⟨rr,a,b,c,t,u,w,m,rfl,x1,hr,hsm,hm,rfl⟩:=q;rw[fx]at hz;refine a0 ?_;show wpAny _ _ (call (.type "list") [.ref rr]) _ _ s1;refine call_list_range R.handled hr hsm hm (bA hz (by decide)) fun h' tk acc' c' hk' hS hacc=>?_;refine⟨x1.trans ⟨hk',rfl,rfl⟩,_,acc',c',rfl,?_,hS,RepL.of_items hacc⟩;exact x1.none (iG _)
 rw[hs]at h1|-
 exact cW h1
theorem vF{pl:Sem Bool}{x:Str}{px apos cpos pos:Pos}{e:Expr}{ds items:List PyData}(hx:ρ.lookup x=some (.own ds))(he:Dz X k env ρ e items)(hz:ds.length<=2^16)(hz':items.length<=2^16)(hq:Q .next (put ρ x (.own (ds++items))))(hd:autoParam ((x==("__debug__":Str))=false) aD)(hm:autoParam (eval (.Call (.Attribute (.Name x px) "extend" apos) [e] [] cpos) env=(do
   let ov<-eval (.Name x px) env
   standAt apos.atName let(f,first)<-holding [ov] (getMethod ov "extend" pl)callWith cpos f first (backTo cpos (starEach [e] env)) [])) aR)(hst:autoParam (starEach [e] env=[(false,eval e env)]) aR)(hi:autoParam (interactive env=false) aR)(hs:autoParam (swapsWith (.Call (.Attribute (.Name x px) "extend" apos) [e] [] cpos) none pos.line env=pure false) aR):jz X k env ρ (.Expr (.Call (.Attribute (.Name x px) "extend" apos) [e] [] cpos) pos) Q:=fun A bad O s R r=>by
 refine qY (oB r hx) fun l vs n ho lk g q=>?_
 refine cg (MethodCall_ (bW (Lk.load r.ok.kind lk ?_) hd) hm) hi hs
 refine cY cT PySem.F.type_list_extend ⟨_,g,rfl,_,rfl⟩ ⟨_,g,rfl⟩ (bT (af (aF (he A bad O s R r) (fun v s1 h1=>a0 ?_) fun _ _ x=>x) hst) (by rw[hst];rfl) (by rfl))
 obtain⟨rr,a,b,c,t,u,w,m,rfl,x1,hr,hsm,hm',rfl⟩:=h1
 rw[fx]at hz'
 have hvs:vs.size=ds.length:=by rw[<-aE,q.length]
 have g1:=x1.keep _ _ g
 have r1:=r.ext x1
 show wpAny _ _ (call (.builtin "list.extend") [.ref l,.ref rr]) _ _ s1
 refine bO (nB R.handled hr hsm hm' hz' l vs (fk 0xf811100003910f012100003900f hz hvs) n g1 fun h' tk acc' c' hk hS hacc=>?_)
 have hl0:X.h₀.get? l=none:=(r.good x l ho).2.1
 have hmid:∀b o,s1.heap.get? b=some o->(h'.update l (fun _=>{cls:=.type "list",data:=.seq vs n})).get? b=some o:=fun b o e=>by
  by_cases hb:b=l
  ·subst hb;rw[g1]at e;cases e;exact aw _ hS rfl
  ·exact(bG _ _ (Ne.symm hb)).trans (hk b o hb e)
 have x2:gQ s1 {s1 with heap:=h'.update l (fun _=>{cls:=.type "list",data:=.seq vs n}),toks:=tk}:=⟨hmid,rfl,rfl⟩
 have r2:=r1.ext x2
 obtain⟨st,r3⟩:=r2.turn (t:=tk) (h':=h') hx ho ⟨(by simp),fun b hb=>(bG _ _ (Ne.symm hb)).symm⟩ hS (ds':=ds++gO a c m) (by rw[bD];exact((q.ext x1).ext x2).append (RepL.of_items hacc))
 exact⟨.next,_,O,hq,rfl,(f8.of_ext (x1.trans x2)).trans st,r3⟩
end
def qq(h:Heap)(v:Value)(ns:List Int):Prop:=∃a xs n,v=.ref a/\h.get? a=some {cls:=.type "tuple",data:=.seq xs n}/\IntsAre xs.toList ns
theorem qq.key{h:Heap}{v u:Value}{ns:List Int}(q:qq h v ns):iH h (v,u)=ns:=by
 obtain⟨a,xs,n,rfl,g,i⟩:=q
 delta iH;simp only[g,i6 i]
theorem gF.isTI{bad:Addr->Prop}{h:Heap}{ns:List Int}{v:Value}(q:gF bad h (u0 ns) v):qq h v ns:=by
 refine q.tupE fun a vs n hb g qs=>⟨a,vs,n,rfl,g,qs.ints⟩
section
variable{prog:Program}{w:World}{A:Around}{E:Value->Shared->Prop}{s:Shared}
theorem zg{Q:Bool->Shared->Prop}{xs ys:List Value}{ns ms:List Int}{i:Nat}(p:IntsAre xs ns):IntsAre ys ms->ns.length=ms.length->Q (gv ns ms) s->KatLex prog w A true false Q (xs.zip ys) i s:=by
 induction p generalizing ys ms i with
 |nil=>intro q e h;cases ms with
  |nil=>exact h|cons m ms=>cases e
 |cons n t hs ih=>intro q e h;cases ms with
  |nil=>cases e|cons m ms=>
  obtain⟨u,ys',rfl,gs⟩:=qA q;show wpAny _ _ (eqBool _ _) _ _ _;refine wpAny_eqBool_int ?_;by_cases e1:n=m;·subst e1;rw[aN (by simp)];unfold gv at h;rw[aN rfl]at h;exact ih gs (Nat.succ.inj e) h
  ·rw[aL (by simpa using e1)];unfold gv at h;rw[aL e1]at h;cases hb:(true&&i==0)with|true=>exact kat_lt_int h|false=>exact kat_one _ _ (show wpAny _ _ (richCompare .Lt _ _) _ _ _ from oK h)
theorem DI{a₀:Array Keyed}{k:Nat}(hv:∀x∈a₀.toList,∃ns,qq s.heap x.1 ns/\ns.length=k):nh (O:=jT) (model prog w) A s (iH s.heap) a₀ (tuples' true):=by
 intro x y hx hy Q E' h
 obtain⟨x1,x2⟩:=x
 obtain⟨y1,y2⟩:=y
 refine gR (hv _ hx) fun ns h1 l1=>?_
 refine gR (hv _ hy) fun ms h2 l2=>?_
 rw[h1.key,h2.key]at h
 obtain⟨l,xs,n,rfl,g1,i1⟩:=h1
 obtain⟨m,ys,n',rfl,g2,i2⟩:=h2
 have e1:=i1.length;have e2:=i2.length
 rw[aE]at e1 e2
 refine kat_lt g1 rfl g2 rfl ?_
 rw[show decide (xs.size<ys.size)=false from de (by exact i8 0xf818114316f242032122102f l1 l2 e1 e2)]
 exact zg i1 i2 (l1.trans l2.symm) h
theorem CH{vs:List Value}{Q:SortKind->Shared->Prop}(h2:2<=vs.length)(hv:∀v∈vs,∃n ns,qq s.heap v (n::ns))(h:Q (tuples' true) s):wpAny (model prog w) A (keyKind' vs.toArray) Q E s:=by
 have tups:∀vs:List Value,(∀v∈vs,∃n ns,qq s.heap v (n::ns))->∃fs:List Value,KatTups s.heap vs fs/\fs.length=vs.length/\∀v∈fs,∃i t,v=.int i t:=by intro vs;induction vs with
  |nil=>intro _;exact⟨[],.nil,rfl,fun v h=>by cases h⟩|cons v vs ih=>
   intro hv;have hv:=List.forall_mem_cons.mp hv;refine qe (ih hv.2) fun fs t hl hi=>?_;obtain⟨n,ns,a,xs,m,rfl,g,i⟩:=hv.1;have hf:∃t,xs[0]?=some (.int n t):=by rw[<-ab];generalize xs.toList=l at i;cases i with|cons n t h=>exact⟨t,rfl⟩
   obtain⟨tk,hf⟩:=hf;exact⟨_::fs,.cons g rfl rfl hf t,by rw[aM,aM,hl],List.forall_mem_cons.mpr ⟨⟨_,_,rfl⟩,hi⟩⟩
 refine qe (tups vs hv) fun fs t hl hi=>?_
 refine kat_kind (T:=.type "int") t (fk 0xf1111081f0120280f h2 hl) (fun v hm=>?_) (by decide) (by rw[show(Value.type "int"!=Value.type "tuple")=true by decide];exact h)
 obtain⟨i,tk,rfl⟩:=hi v hm
 exact .now
end
theorem RepL.allTI{bad:Addr->Prop}{h:Heap}:∀{rs:List (List Int)}{vs:List Value},RepL bad h (rs.map u0) vs->(∀v∈vs,∃ns∈rs,qq h v ns)/\vs.map (fun v=>iH h (v,v))=rs
 |[],vs,q=>by rw[q.inv0];exact⟨fun v h=>(by cases h),rfl⟩
 |r::rs,vs,q=>by refine jq (RepL.inv q) ?_;rintro v vs rfl a b;obtain⟨h1,h2⟩:=RepL.allTI b;refine⟨List.forall_mem_cons.mpr ⟨⟨r,.head _,a.isTI⟩,fun v hv=>(h1 v hv).imp fun _ q=>⟨.tail _ q.1,q.2⟩⟩,?_⟩;rw[bJ,h2,a.isTI.key]
section
variable{X:Cx}{k:Nat}{env:Env}{ρ:List (Str×B)}
theorem w8{p pos:Pos}{e:Expr}{c:Nat}{rs rs':List (List Int)}(hx:X.gl ("sorted":Str)=some (.builtin "sorted"))(hk:env.kindOf ("sorted":Str)=some .globalImplicit)(he:uJ X k env ρ e (rs.map u0))(hz:rs.length<=5000)(hl:∀r∈rs,r.length=c+1)(hp:rs'.Perm rs)(hs':rs'.Pairwise fun a b=>gv b a=false)(hs:autoParam (starEach [e] env=[(false,eval e env)]) aR):Ev X k env ρ (.Call (.Name "sorted" p) [e] [] pos) (.list (rs'.map u0)):=fun A bad O s R r=>by
 have hsl:5000<=sizeLine:=by decide
 refine bE (g9 r hx hk ?_)
 refine bT (af (he.use R r fun a vs s1 x1 r1 l1 q1=>a0 ?_) hs) hs
 show wpAny _ _ (call (.builtin "sorted") [.ref a]) _ _ s1
 have hlen:vs.toList.length=rs.length:=by have:=q1.length;rw[aB]at this;exact this.symm
 refine Calls.call_function_entry kind_sorted plain_sorted entry_sorted (args_sorted1 _) ?_
 delta Builtin.«sorted»
 refine aA (m:=checkCount "sorted" 1 1 _) (aC ?_)
 refine aA (collect_list (vs:=vs.toList) (by have:=uB l1;simpa using this) ?_ (fu 0xf8111120f0221138829013882900f hz hsl hlen))
 refine aA (wpAny_newList ?_)
 have keeps:∀b o,s1.heap.get? b=some o->(((s1.heap.push (seqObj "list" #[] 0)).update s1.heap.objs.size (Obj.mapSeq (·++vs.toList.toArray))).push (seqObj "list" vs.toList.toArray 0)).get? b=some o:=fun b o e=>aG _ ((dO _ _ _ _ (bQ (am e))).trans (aG _ e))
 have hsz:((s1.heap.push (seqObj "list" #[] 0)).update s1.heap.objs.size (Obj.mapSeq (·++vs.toList.toArray))).objs.size=s1.heap.objs.size+1:=by rw[fX,size_push']
 have hoL:(((s1.heap.push (seqObj "list" #[] 0)).update s1.heap.objs.size (Obj.mapSeq (·++vs.toList.toArray))).push (seqObj "list" vs.toList.toArray 0)).get? (s1.heap.objs.size+1)=some (seqObj "list" vs.toList.toArray 0):=by rw[<-hsz];exact aT _ rfl
 show wpAny _ _ _ _ _ {s1 with heap:=((s1.heap.push (seqObj "list" #[] 0)).update s1.heap.objs.size (Obj.mapSeq (·++vs.toList.toArray))).push (seqObj "list" vs.toList.toArray 0)}
 rw[hsz]
 generalize((s1.heap.push (seqObj "list" #[] 0)).update s1.heap.objs.size (Obj.mapSeq (·++vs.toList.toArray))).push (seqObj "list" vs.toList.toArray 0)=h2 at keeps hoL|-
 obtain⟨hall,hkeys⟩:=q1.allTI
 have old:∀{b:Addr}{o:Obj},s1.heap.get? b=some o->b≠s1.heap.objs.size+1:=fun e=>bQ (ca (am e))
 have still:∀h':Heap,(∀b o,b≠s1.heap.objs.size+1->h2.get? b=some o->h'.get? b=some o)->(∀v∈vs.toList,∃ns∈rs,qq h' v ns)/\∀v∈vs.toList,∀u,iH h' (v,u)=iH s1.heap (v,u):=fun h' hk'=>by
  have one:∀v∈vs.toList,∃ns∈rs,qq h' v ns/\qq s1.heap v ns:=fun v hv=>by refine gR (hall v hv) fun ns hm hi=>?_;have hi':=hi;obtain⟨m,xs,n,rfl,g,i⟩:=hi;exact⟨ns,hm,⟨m,xs,n,rfl,hk' _ _ (old g) (keeps _ _ g),i⟩,hi'⟩
  exact⟨fun v hv=>(one v hv).imp fun _ q=>⟨q.1,q.2.1⟩,fun v hv u=>by refine qe (one v hv) fun ns _ b c=>?_;rw[b.key,c.key]⟩
 refine aA (ah (b7 slot_list_sort ⟨_,hoL,rfl⟩ entry_list_sort (rZ (κ:=tuples' true) (O:=jT) (ky:=iH s1.heap) hoL (fk 0xf81113882910f01213882900f hz hlen) (fun h2' s' hk' Q' hQ'=>?_) (fun s' hk'=>?_) fun h' xs n' hk' hg' hp' hsort=>?_) (args_list_sort _)))
 ·refine CH h2' (fun v hv=>?_) hQ';refine gR ((still _ hk').1 v hv) fun ns hm hi=>?_;have:=hl ns hm;cases ns with
  |nil=>cases this|cons n ns=>exact⟨n,ns,hi⟩
 ·obtain⟨c1,c3⟩:=still _ hk';intro x y hx' hy' Q' E' h';refine DI (a₀:=pairsOf vs.toList) (k:=c+1) (fun p hp=>?_) x y hx' hy' Q' E' ?_
  ·obtain⟨e1,e2⟩:=jB p hp;refine gR (c1 _ e2) fun ns hm hi=>?_;rw[e1];exact⟨ns,hi,hl ns hm⟩
  ·obtain⟨a1,a2⟩:=jB x hx';obtain⟨b1,b2⟩:=jB y hy';obtain⟨x1,x2⟩:=x;obtain⟨y1,y2⟩:=y;dsimp only at a1 a2 b1 b2;subst a1 b1;rw[c3 _ a2,c3 _ b2];exact h'
 ·have pv:(xs.map (·.2)).toList.Perm vs.toList:=by have:=(Array.perm_iff_toList_perm.mp hp').map (·.2);rw[rS]at this;simpa using this
  refine gR (q1.permF pv) fun rs'' pm q'=>?_;have hx2:gQ s1 {s1 with heap:=h'}:=⟨fun b o e=>hk' b o (old e) (keeps b o e),rfl,rfl⟩;obtain⟨_,hkeys'⟩:=q'.allTI;have hxs:xs.size=rs''.length:=by have:=q'.length;rw[aB]at this;rw[this];simp
  have hvl:vs.toList.length=rs''.length:=by rw[hlen,pm.length_eq]
  have kk':∀i (hi:i<rs''.length),kk (O:=jT) (iH s1.heap) xs i=rs''[i]:=fun i hi=>by
   have hi':i<xs.size:=by exact fu 0xf111021f121102f hxs hi
   have hm:xs[i]∈(pairsOf vs.toList).toList:=(Array.perm_iff_toList_perm.mp hp').mem_iff.mp (by simp);obtain⟨e1,e2⟩:=jB _ hm;refine(qC (O:=jT) (ky:=iH s1.heap) hi').trans ?_;have e3:(xs.map (·.2)).toList[i]?=some xs[i].2:=by simp[hi']
   have e4:((xs.map (·.2)).toList.map fun v=>iH s1.heap (v,v))[i]?=some (iH s1.heap (xs[i].2,xs[i].2)):=by rw[aS,e3];rfl
   rw[hkeys',aK hi]at e4;have e5:=Option.some.inj e4;rw[e5,<-e1];delta iH;rfl
  have hsort':rs''.Pairwise fun a b=>gv b a=false:=by rw[List.pairwise_iff_getElem];intro i j hi hj hij;have:=hsort i j (aV _) (cS hij) (fu 0xf111008a21f121102f hvl hj);rw[kk' i hi,kk' j hj]at this;exact this
  have e:rs''=rs':=List.Perm.eq_of_pairwise (fun a b _ _ h1 h2=>kX a b h2 h1) hsort' hs' (pm.trans hp.symm);subst e;refine⟨_,rfl,aC ⟨_,rfl,x1.trans hx2,?_⟩⟩;refine .list (fun hb=>?_) hg' (q'.ext hx2);obtain⟨o,ho⟩:=gZ r1 _ hb;exact old ho rfl
end
end Mine
open PySem.SeqAt
namespace Mine
theorem kW{X:Cx}{k:Nat}{env:Env}{ρ:List (Str×B)}{x:Str}{ns:List Int}{p p2 p4:Pos}(hx:X.gl ("len":Str)=some (.builtin "len"))(hk:env.kindOf ("len":Str)=some .globalImplicit)(h:fn ρ x (.val (.list (ns.map .int))))(hz:ns.length<=1000)(hd:autoParam ((x==("__debug__":Str))=false) aD)(hst:autoParam (starEach [.Name x p2] env=[(false,eval (.Name x p2) env)]) aR):Ev X k env ρ (.Call (.Name "len" p) [.Name x p2] [] p4) (.int ns.length):=by
 have hsl:5000<=sizeLine:=by decide
 rw[show(ns.length:Int)=((ns.map PyData.int).length:Int)by rw[aB]]
 exact i7 hx hk (gH (fc h hd)) (by rw[aB];exact fk 0xf111100f113882903e81900f hz hsl) hst
theorem lG(a n:Nat):max (0:Int) (min (a:Int) (n:Int))=((min a n:Nat):Int):=by
 rcases eN a n with h|h
 ·rw[cN h,Int.min_eq_left (Int.ofNat_le.mpr h),Int.max_eq_right (Int.natCast_nonneg _)]
 ·rw[d6 h,Int.min_eq_right (Int.ofNat_le.mpr h),Int.max_eq_right (Int.natCast_nonneg _)]
theorem jZ(ds:List PyData)(a b:Nat):nE ds (some (a:Int)) (some (b:Int)) none=(ds.drop a).take (b-a):=by
 have e:sliceBounds (some (a:Int)) (some (b:Int)) none ds.length=(((min a ds.length:Nat):Int),((min b ds.length:Nat):Int),1):=by
  simp only[sliceBounds,Option.getD_none];have h1:¬((a:Int)<0):=by exact f5 0xf1080c46ff
  have h2:¬((b:Int)<0):=by exact f5 0xf1080c46ff
  simp only[h1,h2,bZ,show(1:Int)>0 by decide,fO];rw[lG,lG]
 have hp:=pick_run ds.toArray (min a ds.length) (min b ds.length-min a ds.length)
 delta nE
 rw[e]
 simp only[sliceRange_one]
 simp only[List.getElem?_toArray]at hp
 rw[hp]
 rcases a9 ds.length a with h|h
 ·rw[d6 (cS h),b0 (by simp),b0 (cS h)];simp
 ·rw[cN h];rcases a9 ds.length b with h'|h';·rw[d6 (cS h'),ao (by simp),ao (by simp;exact fu 0xf110123a00f101f211 h')]
  ·rw[cN h']
structure LG(X:Cx):Prop where
 df:DF X
 mf:MF X
 mg:MG X
 sm:X.gl ("SequenceMatcher":Str)=some (.ref 242)
 kp:keepIn X.K (.ref 242)=true
 made:makesIn X.K 242=true
 min:X.gl ("min":Str)=some (.builtin "min")
 sorted:X.gl ("sorted":Str)=some (.builtin "sorted")
 zip:X.gl ("zip":Str)=some (.type "zip")
 texts:oi X 7 253 "_law_texts" ["numbers"]
 edit:oi X 8 258 "_law_edit" ["a","b"]
 told:oi X 9 265 "_law_told" ["size","edit"]
 next:oi X 10 272 "_law_next" ["codes","row","back","blot"]
 seen:oi X 11 279 "_law_seen" ["row","m","due"]
noncomputable abbrev iD(l:List Int):PyData:=.list (l.map .int)
noncomputable abbrev Tc:=Str×Cd
noncomputable def Ei(p:Tc):PyData:=code p.1 p.2.2.1 p.2.2.2.1 p.2.2.2.2.1 p.2.2.2.2.2
structure tK(p:Tc):Prop where
 tag:D5 p.1
 eq:PyData.eqv (.str p.1) (.str "equal")=p.2.1
theorem wm{t:Str}(b:Bool)(r:Nat×Nat×Nat×Nat)(h:D5 t)(e:PyData.eqv (.str t) (.str "equal")=b):tK (t,b,r):=⟨h,e⟩
theorem yo(i ai j bj:Nat):∃l:List Tc,qZ i ai j bj=l.map Ei/\kN i ai j bj=l.map (·.2)/\∀p∈l,tK p:=by
 delta qZ kN
 by_cases h:i=ai/\j=bj
 ·rw[aN h,aN h];exact⟨[],rfl,rfl,fun p hp=>by cases hp⟩
 ·rw[aL h,aL h];refine⟨[((if ai=i then"insert"else if j=bj then"delete"else"replace":Str),false,i,ai,j,bj)],rfl,rfl,fun p hp=>?_⟩;rw[aa]at hp;subst hp;by_cases h1:ai=i
  ·simp only[aN h1];exact wm false _ (.inl rfl) (by decide+kernel)
  ·by_cases h2:j=bj
   ·simp only[aL h1,aN h2];exact wm false _ (.inr (.inl rfl)) (by decide+kernel)
   ·simp only[aL h1,aL h2];exact wm false _ (.inr (.inr (.inl rfl))) (by decide+kernel)
theorem Aa{la lb:Nat}:∀(S:List ni) (i j:Nat),∃l:List Tc,lD la lb i j S=l.map Ei/\lQ la lb i j S=l.map (·.2)/\∀p∈l,tK p
 |[],i,j=>yo _ _ _ _
 |(ai,bj,n)::r,i,j=>by
  refine qe (yo i ai j bj) fun l1 a1 b1 c1=>?_;refine qe (Aa (la:=la) (lb:=lb) r (ai+n) (bj+n)) fun l2 a2 b2 c2=>?_;refine⟨l1++((("equal":Str),(true,ai,ai+n,bj,bj+n))::l2),?_,?_,fun p hp=>?_⟩
  ·show qZ i ai j bj++_::lD la lb (ai+n) (bj+n) r=_;rw[a1,a2,ag];rfl
  ·show kN i ai j bj++_::lQ la lb (ai+n) (bj+n) r=_;rw[b1,b2,ag];rfl
  ·rcases aY.mp hp with hp|hp;·exact c1 p hp
   ·rcases ak.mp hp with rfl|hp;·exact wm true _ (.inr (.inr (.inr rfl))) (by decide+kernel)
    ·exact c2 p hp
structure pI(la lb:Nat)(c:Cd):Prop where
 i:c.2.1<=c.2.2.1
 il:c.2.2.1<=la
 j:c.2.2.2.1<=c.2.2.2.2
 jl:c.2.2.2.2<=lb
theorem wa{i ai j bj:Nat}(h1:i<=ai)(h2:j<=bj):∀c∈kN i ai j bj,pI ai bj c:=by
 intro c hc
 delta kN at hc
 split at hc
 ·cases hc
 ·rw[aa]at hc;subst hc;exact⟨h1,aH _,h2,aH _⟩
theorem BC{la lb:Nat}{b:Bool}{i j:Nat}{S:List T3}(g:gY la lb b i j S):∀c∈lQ la lb i j S,pI la lb c:=by
 induction g with
 |nil h1 h2=>exact wa h1 h2
 |@cons b i j ai bj n r h1 h2 h3 h4 h5 ih=>
  have hle:=h5.le;intro c hc;rcases aY.mp (show c∈kN i ai j bj++(true,ai,ai+n,bj,bj+n)::lQ la lb (ai+n) (bj+n) r from hc)with hc|hc
  ·have:=wa h1 h2 c hc;exact⟨this.i,by have:=this.il;exact gK 0xf111230f030210a0f hle.1 this,this.j,by have:=this.jl;exact gK 0xf111230f030210a0f hle.2 this⟩
  ·rcases ak.mp hc with rfl|hc;·exact⟨cQ _ _,hle.1,cQ _ _,hle.2⟩
   ·exact ih c hc
noncomputable def Dv(row:List Int)(b:Nat)(c:Cd):List Int:=if c.1 then(row.drop c.2.1).take (c.2.2.1-c.2.1)else mU b (c.2.2.2.2-c.2.2.2.1)
noncomputable def Al(b:Nat)(c:Cd):Nat:=if c.1 then b else b+(c.2.2.2.2-c.2.2.2.1)
noncomputable def Ci(b:Nat)(cs:List Cd):Nat:=cs.foldl Al b
theorem m9(row:List Int)(b:Nat):∀(c:Cd) (cs:List Cd),lV row b (c::cs)=Dv row b c++lV row (Al b c) cs
 |(true,_,_,_,_),_=>rfl
 |(false,_,_,_,_),_=>rfl
theorem tp(row:List Int):∀(cs:List Cd) (b:Nat) (c:Cd),lV row b (cs++[c])=lV row b cs++Dv row (Ci b cs) c
 |[],b,c=>by rw[cA,m9];show _++[]=[]++_;rw[ar,cA];rfl
 |d::cs,b,c=>by rw[fV,m9,m9,tp row cs,av];rfl
theorem rt{la lb:Nat}{row:List Int}{b:Nat}{c:Cd}(h:pI la lb c)(ha:la<=14)(hb:lb<=14):(Dv row b c).length<=14:=by
 have h2:=h.il;have h4:=h.jl
 delta Dv
 split
 ·rw[bC];exact gK 0xf1101118f1101108fe850f010e800f343211 ha h2
 ·rw[gf];exact fu 0xf11011e830f010e800f211 hb h4
theorem v5{la lb:Nat}{row:List Int}(ha:la<=14)(hb:lb<=14):∀(cs:List Cd) (b:Nat),(∀c∈cs,pI la lb c)->(lV row b cs).length<=14*cs.length/\Ci b cs<=b+14*cs.length
 |[],b,_=>⟨aH _,aH _⟩
 |c::cs,b,h=>by
  have hc:=h c (.head _);have h1:=rt (row:=row) (b:=b) hc ha hb;obtain⟨h2,h3⟩:=v5 (row:=row) ha hb cs (Al b c) fun d hd=>h d (.tail _ hd);have h4:Al b c<=b+14:=by
   have h2:=hc.il;have h4:=hc.jl;delta Al;split;·rename_i h;exact f5 0xf1e80a00ff
   ·rename_i h;exact gK 0xf11011e82a42a0f010e800f311 hb h4
  rw[m9,aP,aM];show _/\Ci (Al b c) cs<=_;exact jr 0xf11001f111f182a0eb5a30182a0eb10a07fe85a4020eb4a3020eb10e800f h1 h2 h3 h4
theorem qR(b n:Nat):gO (b:Int) 1 n=(mU b n).map .int:=by
 delta gO mU
 rw[cK]
 refine List.map_congr_left fun t _=>?_
 show PyData.int ((b:Int)+(t:Int)*1)=PyData.int ((b+t:Nat):Int)
 congr 1;exact fk 0xf1f1f10ac1c01f0ca5ff
noncomputable def jD(back:Bool)(c:Cd):Cd:=if back then zE c else c
theorem vk{la lb:Nat}{c:Cd}(h:pI la lb c)(ha:la<=14)(hb:lb<=14)(back:Bool):pI 14 14 (jD back c):=by
 obtain⟨a1,a2,a3,a4⟩:=h
 delta jD
 cases back
 ·exact⟨a1,bA a2 ha,a3,bA a4 hb⟩
 ·exact⟨a3,bA a4 hb,a1,bA a2 ha⟩
section
variable{X:Cx}{k:Nat}
noncomputable abbrev Fp:Stmt:=fh g7 10
noncomputable abbrev BR(a b c:Value)(L f:Addr):Env:=callEnvC (iy 10 "_law_next" a b c) L f
structure NI(row:List Int)(back:Bool)(made:List Int)(blot:Nat)(ρ:List (Str×B)):Prop where
 row:fn ρ "row" (.val (iD row))
 back:fn ρ "back" (.val (.bool back))
 made:fn ρ "made" (.own (made.map .int))
 blot:fn ρ "blot" (.val (.int blot))
theorem xD(F:LG X){L f:Addr}{a b c:Value}{row made:List Int}{back:Bool}{blot:Nat}{p:Tc}{ρ:List (Str×B)}{Q:Fl->List (Str×B)->Prop}(hp:tK p)(hc:pI 14 14 (jD back p.2))(I:NI row back made blot ρ)(hb:blot<=100000)(hm:made.length<=5000)(hr:row.length<=100)(hw:fn ρ "word" (.val (.str p.1)))(h1:fn ρ "i1" (.val (.int p.2.2.1)))(h2:fn ρ "i2" (.val (.int p.2.2.2.1)))(h3:fn ρ "j1" (.val (.int p.2.2.2.2.1)))(h4:fn ρ "j2" (.val (.int p.2.2.2.2.2)))(hq:∀ρ',NI row back (made++Dv row blot (jD back p.2)) (Al blot (jD back p.2)) ρ'->Q .next ρ'):iP X (k+1) (BR a b c L f) ρ (iQ (fh (fm Fp) 1)) Q:=by
 have hsl:50000<=sizeLine:=by decide
 obtain⟨w,e,i1,i2,j1,j2⟩:=p
 obtain⟨ht,he⟩:=hp
 simp only at hw h1 h2 h3 h4 ht he
 replace hc:pI 14 14 (jD back (e,i1,i2,j1,j2)):=hc
 have hsh:SeqAt.shaped (.str w)=true:=by rcases ht with rfl|rfl|rfl|rfl<;>first|rfl|decide+kernel
 have hsel:∀(x y:Str) (u v:Nat) (q1 p1 p2 p3 p4:Pos),fn ρ x (.val (.int (u:Int)))->fn ρ y (.val (.int (v:Int)))->(x==("__debug__":Str))=false->(y==("__debug__":Str))=false->Ev X (k+1) (BR a b c L f) ρ (.Subscript (.Name "row" p1) (.Slice (some (.Name x p2)) (some (.Name y p3)) none p4) q1) (iD ((row.drop u).take (v-u))):=fun x y u v q1 p1 p2 p3 p4 hx hy dx dy=>by refine fy (ji (gH (fc I.row)) (iU (fc hx dx)) (iU (fc hy dy)) iW (by decide) (by rw[aB];exact fk 0xf111100f1c350290640900f hr hsl)) ?_;rw[jZ,<-eE,<-eF]
 have htest:∀(q1:Pos),mM X (k+1) (BR a b c L f) ρ (.Name "back" q1) back:=fun q1=>k9 (fc I.back)
 refine fe (gu (gd (my (fc (d:=.str w) hw) kK hsh (by decide+kernel) (cV k)) he) (fun hb=>?_) fun hb=>?_)
 ·subst hb;refine fe (xJ (ds:=made.map .int) (es:=(Dv row blot (jD back (true,i1,i2,j1,j2))).map .int) I.made (fy (oM (htest _) (fun _=>hsel "j1" "j2" _ _ _ _ _ _ _ h3 h4 rfl rfl) (fun _=>hsel "i1" "i2" _ _ _ _ _ _ _ h1 h2 rfl rfl)) ?_) ?_ (fj (fj (hq _ ⟨?_,?_,?_,?_⟩))));·cases back<;>rfl
  ·have:=rt (row:=row) (b:=blot) hc (aH 14) (aH 14);rw[aB,aB];exact fu 0xf1111120a0fe8201c35029013882900f hm hsl this
  ·exact hn I.row rfl
  ·exact hn I.back rfl
  ·rw[ag];exact hs
  ·have:Al blot (jD back (true,i1,i2,j1,j2))=blot:=by cases back<;>rfl
   rw[this];exact hn I.blot rfl
 ·subst hb;obtain⟨n,hn1,hn2,hn3⟩:∃n:Nat,(if back=true then PyData.int ((i2:Int)-i1)else .int ((j2:Int)-j1))=.int n/\Dv row blot (jD back (false,i1,i2,j1,j2))=mU blot n/\Al blot (jD back (false,i1,i2,j1,j2))=blot+n:=by
   cases back;·exact⟨j2-j1,by rw[aL (by decide)];congr 1;have:j1<=j2:=hc.j;exact fk 0xf18f1108ff11f110ff2c0c1cd5f100f010 this,rfl,rfl⟩
   ·exact⟨i2-i1,by rw[aN rfl];congr 1;have:i1<=i2:=hc.j;exact fk 0xf18f1108ff11f110ff2c0c1cd5f100f010 this,rfl,rfl⟩
  have hn14:n<=14:=by have:=rt (row:=row) (b:=blot) hc (aH 14) (aH 14);rw[hn2,gf]at this;exact this
  rw[hn2,hn3]at hq;refine fe (gM (fy (oM (htest _) (fun _=>jO (fc h2) (fc h1)) (fun _=>jO (fc h4) (fc h3))) hn1) (.inl rfl) ?_);have I1:NI row back made blot (put ρ "size" (.val (.int n))):=⟨hn I.row rfl,hn I.back rfl,hn I.made rfl,hn I.blot rfl⟩;have hs1:fn (put ρ "size" (.val (.int n))) "size" (.val (.int n)):=hs;generalize put ρ "size" (.val (.int n))=ρ1 at I1 hs1|-;refine fe (vF (ds:=made.map .int) (items:=(mU blot n).map .int) I1.made (oA (ut (a:=blot) (b:=(blot:Int)+n) F.df.range rfl (fc I1.blot) (f7 (fc I1.blot) (fc hs1)) (f5 0xf11f1f10000000000990c30c1000000000099e37f186a03900f hb) (fk 0xf111f1f10000000000991c0ca31c0ca1000000000099e37fe810186a03900f hb hn14)) ?_) ?_ ?_ ?_);·rw[<-qR];congr 1;exact fk 0xf110f11ff108f18ff122ff080c1c0cad5
  ·rw[aB];exact f5 0xf11100003900f13882900f hm
  ·rw[aB,gf];exact f5 0xf11100003900fe800f hn14
  ·refine fe (r8 (a:=(blot:Int)) (b:=(n:Int)) (hn I1.blot rfl) (fc (hn hs1 rfl)) (.inl rfl) (fj (fj (hq _ ⟨?_,?_,?_,?_⟩))));·exact hn (hn I1.row rfl) rfl
   ·exact hn (hn I1.back rfl) rfl
   ·rw[ag];exact hn hs rfl
   ·exact hs
theorem xH(F:LG X){L f:Addr}{a b c:Value}{la lb:Nat}{l:List Tc}{row:List Int}{back:Bool}{blot:Nat}(hl:∀p∈l,tK p/\pI la lb p.2)(ha:la<=14)(hb:lb<=14)(hz:l.length<=100)(hbl:blot<=50000)(hr:row.length<=100):iP X (k+1) (BR a b c L f) [("codes",.val (.list (l.map Ei))),("row",.val (iD row)),("back",.val (.bool back)),("blot",.val (.int blot))] (fm Fp) fun fl _=>fl=.ret (iD (lV row blot ((l.map (·.2)).map (jD back)))):=by
 have hin:∀i,∀c∈((l.map (·.2)).map (jD back)).take i,pI 14 14 c:=fun i c hc=>by refine gR (List.mem_map.mp (bU hc)) ?_;rintro d hd rfl;refine gR (List.mem_map.mp hd) ?_;rintro p hp rfl;exact vk (hl p hp).2 ha hb back
 have hlen:((l.map (·.2)).map (jD back)).length=l.length:=by rw[aB,aB]
 refine fe (hY (ds:=[]) (iu fq (aV _)) (.inl rfl) ?_)
 refine fe (ip (items:=l.map Ei) (jK (fc (by k_mem))) (fun i ρ=>NI row back (lV row blot (((l.map (·.2)).map (jD back)).take i)) (Ci blot (((l.map (·.2)).map (jD back)).take i)) ρ) ⟨by k_mem,by k_mem,hs,by k_mem⟩ ?_ ?_)
 ·intro i d ρ hd I Q1 H1;rw[aS]at hd;refine gR (Option.map_eq_some_iff.mp hd) ?_;rintro p hp rfl;have hmem:=ay hp;have hil:=(List.getElem?_eq_some_iff.mp hp).1;have htk:((l.map (·.2)).map (jD back)).take (i+1)=((l.map (·.2)).map (jD back)).take i++[jD back p.2]:=by rw[cI,aS,aS,hp];rfl
  rw[htk,tp]at H1;have hB:Ci blot (((l.map (·.2)).map (jD back)).take i++[jD back p.2])=Al (Ci blot (((l.map (·.2)).map (jD back)).take i)) (jD back p.2):=by delta Ci;rw[dq];rfl
  rw[hB]at H1;obtain⟨n1,n2⟩:=v5 (row:=row) (aH 14) (aH 14) (((l.map (·.2)).map (jD back)).take i) blot (hin i);have hti:(((l.map (·.2)).map (jD back)).take i).length<=l.length:=by rw[bC,hlen];exact fk 0xf108f118f120ff103
  generalize((l.map (·.2)).map (jD back)).take i=CS at*;refine⟨_,kt (f9 (fo (.inl rfl)) (f9 (fo (.inl rfl)) (f9 (fo (.inl rfl)) (f9 (fo (.inl rfl)) (f9 (fo (.inl rfl)) jg))))) rfl rfl,?_⟩;refine xD F (p:=p) (hl p hmem).1 (vk (hl p hmem).2 ha hb back) (made:=lV row blot CS) (blot:=Ci blot CS) ⟨?_,?_,?_,?_⟩ (by lia) (fu 0xf0ee10ee113882910f02020eb10640900f hz n1 hti) hr (by k_mem) (by k_mem) (by k_mem) (by k_mem) (by k_mem) fun ρ' I'=>H1.next I';·exact hn (hn (hn (hn (hn I.row rfl) rfl) rfl) rfl) rfl
  ·exact hn (hn (hn (hn (hn I.back rfl) rfl) rfl) rfl) rfl
  ·exact hn (hn (hn (hn (hn I.made rfl) rfl) rfl) rfl) rfl
  ·exact hn (hn (hn (hn (hn I.blot rfl) rfl) rfl) rfl) rfl
 ·intro ρ I;rw[aB,ao (Nat.le_of_eq hlen)]at I;exact jA (x:="made") I.made (fe (jb (fc hs) rfl))
end
theorem jW(n len:Nat):je (n:Int) len=n:=by
 delta je
 rw[aL (by exact f5 0xf1080c46ff)];exact f5 0xf110f11ff108f18ff012ff080c5
theorem pY{len:Nat}(h:0<len):je (-1) len=len-1:=by
 delta je
 rw[aN (by exact iz [] [] 0xf10818e4ff)];exact f5 0xf1108f10008ff118f1008fff108f181f1810fff212ff1800080c18ea5
theorem tC{la lb:Nat}:∀(S:List ni) (i j:Nat),(lQ la lb i j S).length<=2*S.length+1
 |[],i,j=>by show(kN i la j lb).length<=1;delta kN;split<;>simp
 |(ai,bj,n)::r,i,j=>by
  show(kN i ai j bj++(true,ai,ai+n,bj,bj+n)::lQ la lb (ai+n) (bj+n) r).length<=_;have:=tC (la:=la) (lb:=lb) r (ai+n) (bj+n);have h1:(kN i ai j bj).length<=1:=by delta kN;split<;>simp
  rw[aP,aM,aM];exact fu 0xf11118181a02ba180a2a0f182018102ba00f this h1
theorem rI{as bs:List Int}(h:as.length<=14):(mZ as bs).length<=14:=bA (nF as bs).1 h
structure tf(t:Nat->List Int)(n:Nat)(due:List (List Tc)):Prop where
 len:due.length=n
 it:∀k l,due[k]?=some l->(∀p∈l,tK p)/\l.map (·.2)=ou t k
noncomputable abbrev dD(l:List Tc):PyData:=.list (l.map Ei)
theorem tf.cds{t:Nat->List Int}{n:Nat}{due:List (List Tc)}(D:tf t n due)(hs:mS t){k:Nat}{l:List Tc}(h:due[k]?=some l):(∀p∈l,tK p/\pI (t k).length (t (k+1)).length p.2)/\l.length<=29:=by
 obtain⟨h1,h2⟩:=D.it k l h
 refine⟨fun p hp=>⟨h1 p hp,?_⟩,?_⟩
 ·have:p.2∈ou t k:=h2▸List.mem_map_of_mem hp;exact BC (jX _ _).good' _ this
 ·have h3:=tC (la:=(t k).length) (lb:=(t (k+1)).length) (mZ (t k) (t (k+1))) 0 0;have h4:=rI (bs:=t (k+1)) (hs k);have:l.length=(ou t k).length:=by rw[<-h2,aB]
  delta ou at this;exact fu 0xf82111d0920f022e81018102ba00f h3 h4 this
section
variable{X:Cx}{k:Nat}
noncomputable abbrev Fy:Stmt:=fh g7 11
noncomputable abbrev BQ(a b c:Value)(L f:Addr):Env:=callEnvC (iy 11 "_law_seen" a b c) L f
theorem vu(F:LG X){L f:Addr}{a b c:Value}{t:Nat->List Int}{n:Nat}{due:List (List Tc)}(D:tf t n due)(hs:mS t){row:List Int}(hr:row.length<=14){q:Nat}(hq:q<n)(hz:n<=30){back:Bool}{ρ:List (Str×B)}{i:Int}{idx:Expr}{rows:List PyData}{p p1 p2 p3 p4 p5 p6 p7 p8 p9 p10 p11 pos:Pos}{n1 n2 n3:Nat}(hd:fn ρ "due" (.val (.list (due.map dD))))(hk:fn ρ "k" (.val (.int q)))(hR:fn ρ "rows" (.own rows))(hi:Ev X (k+2) (BQ a b c L f) ρ idx (.int i))(hlo:-(rows.length:Int)<=i)(hhi:i<rows.length)(hz':rows.length<=1000)(hrow:rows[je i rows.length]?=some (iD row))(hix:∀(env:Env) (a:Addr) (u:Tok),subscripted idx false (.ref a) (.int i u)=operate [.ref a,.int i u] (getItem (.ref a) (.int i u)):=by intro _ _ _;with_unfolding_all rfl):Ev X (k+2) (BQ a b c L f) ρ (.Call (.Name "_law_next" p) [.Subscript (.Name "due" p1) (.Name "k" p2) p3,.Subscript (.Name "rows" p4) idx p5,.Constant (.bool back) n1 p6,.BinOp (.BinOp (.Constant (.int 100) n2 p7) .Mult (.Name "k" p8) p9) .Add (.Constant (.int 100) n3 p10) p11] [] pos) (iD (lV row (100*q+100) ((ou t q).map (jD back)))):=by
 have hsl:5000<=sizeLine:=by decide
 have hql:q<due.length:=by rw[D.len];exact hq
 have hg:due[q]?=some due[q]:=aK hql
 generalize due[q]=l at hg
 obtain⟨h1,h2⟩:=D.cds hs hg
 have h3:=(D.it q l hg).2
 have dl:(due.map dD).length=n:=by rw[aB,D.len]
 refine kB (k:=k+1) (ds:=[dD l,iD row,.bool back,.int ((100*q+100:Nat):Int)]) F.next rfl (fg (jM (n:=(q:Int)) (gH (fc hd)) (fc hk) (fk 0xf11c0ce3ff) (fu 0xf1112c0c4f122101f hq dl) (fu 0xf8111120f022113882901e0900f hz hsl dl) ?_) (fg (jM (n:=i) (jy hR) hi hlo hhi (fk 0xf111100f113882903e81900f hz' hsl) hrow (hix (BQ a b c L f))) (fg sS (fg (fy (f7 (yY ft (fc hk) (.of_left (by decide))) ft) (by congr 1)) fq)))) rfl fun L a b c=>?_
 ·rw[jW,aS,hg];rfl
 ·rw[<-h3];exact xH F h1 (hs q) (hs (q+1)) (f5 0xf11640900f1d0900f h2) (by lia) (f5 0xf11640900fe800f hr)
end
theorem Du(l:List Cd):l.map (jD false)=l:=by
 rw[show jD false=id from rfl,List.map_id]
theorem nZ(t:Nat->List Int)(row:List Int)(m d:Nat):gq t row m (m+d)=fw t row m d:=by
 delta gq
 rw[aL (by exact fk 0xf1010a16ff),bI]
theorem pL(t:Nat->List Int)(row:List Int){m d:Nat}(h:d<=m):gq t row m (m-d)=bw t row m d:=by
 delta gq
 by_cases hd:d=0
 ·subst hd;rw[aL (by exact f5 0xf1010116ff0801),show m-0-m=0 by exact f5 0xf1f118f108ff0822ff0100801];rfl
 ·rw[aN (by exact fk 0xf1f181ff1f11081ff121f08026100f010 h hd),show m-(m-d)=d by exact fk 0xf181f1810ff11081f110810fff118f1008ff1108f10008fff032f100f210010 h]
section
variable{X:Cx}{k:Nat}
structure SI(due:List (List Tc))(m:Nat)(rows:List PyData)(ρ:List (Str×B)):Prop where
 due:fn ρ "due" (.val (.list (due.map dD)))
 m:fn ρ "m" (.val (.int m))
 rows:fn ρ "rows" (.own rows)
theorem SI.pt{due:List (List Tc)}{m:Nat}{rows:List PyData}{ρ:List (Str×B)}(I:SI due m rows ρ){b:B}:SI due m rows (put ρ "k" b):=⟨hn I.due rfl,hn I.m rfl,hn I.rows rfl⟩
theorem Ar{m d:Nat}(hd:d<((m:Int)-1- -1).toNat):(m:Int)-1+(d:Int)*-1=((m-1-d:Nat):Int):=by
 have h:d<m:=by rwa [Int.sub_neg,Int.sub_add_cancel,aq]at hd
 obtain⟨e,rfl⟩:=Nat.exists_eq_add_of_lt h
 rw[show d+e+1-1-d=e by rw[cO,bI]]
 clear hd h
 lia
theorem xl(F:LG X){L f:Addr}{a b c:Value}{t:Nat->List Int}{n m:Nat}{due:List (List Tc)}(D:tf t n due)(hs:mS t)(hz:n<=30)(hm:m<=n){row:List Int}(hl:∀q,(gq t row m q).length<=14):iP X (k+2) (BQ a b c L f) [("row",.val (iD row)),("m",.val (.int m)),("due",.val (.list (due.map dD)))] (fm Fy) fun fl _=>fl=.ret (.list ((List.range (n+1)).map fun q=>iD (gq t row m q))):=by
 have hsl:5000<=sizeLine:=by decide
 have dl:(due.map dD).length=n:=by rw[aB,D.len]
 have r0:gq t row m m=row:=by have:=nZ t row m 0;rw[eS]at this;exact this
 refine fe (hY (ds:=[iD row]) (iu (fg (fc (by k_mem)) fq) (by simp only[aM,aZ];exact f5 0xf1101808a0f01388290f hsl)) (.inl rfl) ?_)
 have I0:SI due m ((List.range' m (0+1)).map fun q=>iD (gq t row m q)) (put [("row",.val (iD row)),("m",.val (.int m)),("due",.val (.list (due.map dD)))] "rows" (.own [iD row])):=⟨by k_mem,by k_mem,by show fn _ "rows" (.own [iD (gq t row m m)]);rw[r0];exact Mine.hs⟩
 generalize put [("row",.val (iD row)),("m",.val (.int m)),("due",.val (.list (due.map dD)))] "rows" (.own [iD row])=ρ0 at I0|-
 refine fe (ip (items:=gO m 1 ((n:Int)-m).toNat) (lI F.df.range rfl (fc I0.m) (fy (i7 F.df.len rfl (gH (fc I0.due)) (fu 0xf8111120f022113882901e0900f hz hsl dl)) (by rw[dl])) (fk 0xf111f1f10000000000991c31c1000000000099e37f0101e0900f hz hm) (f5 0xf11f1f10000000000990c30c1000000000099e37f1e0900f hz)) (fun d ρ=>SI due m ((List.range' m (d+1)).map fun q=>iD (gq t row m q)) ρ) I0 ?_ ?_)
 ·intro d x ρ hx I Q1 H1;have hd:d<((n:Int)-m).toNat:=by have:=(List.getElem?_eq_some_iff.mp hx).1;rwa [fx]at this
  rw[hH hd]at hx;cases hx;have hx:(m:Int)+(d:Int)*1=((m+d:Nat):Int):=by exact fk 0xf1f1f10ac1c01f0ca5ff
  rw[hx];refine⟨_,fo (.inl rfl),?_⟩;have I1:=I.pt (b:=.val (.int ((m+d:Nat):Int)));have hk:fn (put ρ "k" (.val (.int ((m+d:Nat):Int)))) "k" (.val (.int ((m+d:Nat):Int))):=Mine.hs;generalize put ρ "k" (.val (.int ((m+d:Nat):Int)))=ρ1 at I1 hk|-;have lr:((List.range' m (d+1)).map fun q=>iD (gq t row m q)).length=d+1:=by rw[aB,List.length_range']
  refine fe (gw (ds:=(List.range' m (d+1)).map fun q=>iD (gq t row m q)) I1.rows (vu F D hs (row:=gq t row m (m+d)) (hl _) (q:=m+d) (fu 0xf1008f118f102a1f301f082c1cd5 hd) hz (i:=-1) I1.due hk I1.rows (ml ft) (by rw[lr];exact f5 0xf118e180ace3ff) (by rw[lr];exact f5 0xf1180ac18e4ff) (by rw[lr];exact fu 0xf10108f1118f3e819181a0f3111e0900f082c0cd5 hz hd) ?_) (by rw[lr];exact gK 0xf110108f11118f1182a0f421113882901e0900f083c0cd5 hz hsl hd) (fj (H1.next ⟨hn I1.due rfl,hn I1.m rfl,?_⟩)));·rw[pY (by rw[lr];exact f5 0xf1180a081ff),lr,cO,aS,List.getElem?_range' (by exact f5 0xf1180a01ff),Nat.one_mul];rfl
  ·have e:(List.range' m (d+1+1)).map (fun q=>iD (gq t row m q))=((List.range' m (d+1)).map fun q=>iD (gq t row m q))++[iD (lV (gq t row m (m+d)) (100*(m+d)+100) ((ou t (m+d)).map (jD false)))]:=by rw[List.range'_concat,ag,Nat.one_mul,Du,nZ t row m d];show _++[iD (gq t row m (m+(d+1)))]=_;rw[nZ];rfl
   rw[e];exact Mine.hs
 intro ρ1 I1
 rw[fx]at I1
 refine fe (ip (items:=gO ((m:Int)-1) (-1) ((m:Int)-1- -1).toNat) (uV F.df.range rfl (jO (fc I1.m) ft) (ml ft) (ml ft) (fk 0xf111f1f1000000000099181cd3181cd1000000000099e37f0101e0900f hz hm) (iz [] [] 0xf1f1f100000000009918e318e1000000000099e37ff)) (fun d ρ=>SI due m ((List.range' (m-d) (n-m+d+1)).map fun q=>iD (gq t row m q)) ρ) ?_ ?_ ?_)
 ·rw[show((n:Int)-m).toNat=n-m+0 by exact fk 0xf1108f10008ff118f1008fff108f181f1810fff083a22ff100081c0cd5]at I1;exact I1
 ·intro d x ρ hx I Q1 H1;have hd:d<((m:Int)-1- -1).toNat:=by have:=(List.getElem?_eq_some_iff.mp hx).1;rwa [fx]at this
  rw[hH hd]at hx;cases hx;have hx:=Ar hd;rw[hx];refine⟨_,fo (.inl rfl),?_⟩;have I1:=I.pt (b:=.val (.int ((m-1-d:Nat):Int)));have hk:fn (put ρ "k" (.val (.int ((m-1-d:Nat):Int)))) "k" (.val (.int ((m-1-d:Nat):Int))):=Mine.hs;generalize put ρ "k" (.val (.int ((m-1-d:Nat):Int)))=ρ1 at I1 hk|-;have lr:((List.range' (m-d) (n-m+d+1)).map fun q=>iD (gq t row m q)).length=n-m+d+1:=by rw[aB,List.length_range']
  refine fe (vD (ds:=(List.range' (m-d) (n-m+d+1)).map fun q=>iD (gq t row m q)) I1.rows ft (vu F D hs (row:=gq t row m (m-d)) (hl _) (q:=m-1-d) (fu 0xf10118f100000008f11011088ff141f521100f0818e180cdd52311800 hm hd) hz (i:=0) I1.due hk I1.rows ft (by rw[lr];exact fu 0xf1081823aace3ff101) (by rw[lr];exact fu 0xf11823aac084ff101) (by rw[lr];exact bA (m:=30) (fu 0xf1000008f101188ff10010808f1111088ff1e091823aa0f4210101e0900f0818e181cdd5100 hz hm hd) (by decide)) ?_) (by rw[lr];exact gK 0xf11011808f1101188ff110010808f11111088ff21834aa0f531213882900101e0900f0818e181cdd5100 hz hm hsl hd) (fj (H1.next ⟨hn I1.due rfl,hn I1.m rfl,?_⟩)));·rw[show je 0 ((List.range' (m-d) (n-m+d+1)).map fun q=>iD (gq t row m q)).length=0 from jW 0 _,aS,List.getElem?_range' (by exact fu 0xf11823aa081ff101)];rfl
  ·have e:(List.range' (m-(d+1)) (n-m+(d+1)+1)).map (fun q=>iD (gq t row m q))=iD (lV (gq t row m (m-d)) (100*(m-1-d)+100) ((ou t (m-1-d)).map (jD true)))::((List.range' (m-d) (n-m+d+1)).map fun q=>iD (gq t row m q)):=by rw[show n-m+(d+1)+1=(n-m+d+1)+1 by exact fu 0xf1f1f181823aaa18182a3aa2ff101,List.range'_succ,bJ,show m-(d+1)+1=m-d by exact fk 0xf118f1008ff1108f10008fff181f810ff1000008f110818ff10000008f1000108ffff3182a2f401f0818e181cdd5010180a10 hd,pL t row (by exact fk 0xf1008f118f1180a0f201f0818e181cdd5 hd),pL t row (by exact fk 0xf1108f118f100f201f0818e181cdd5 hd)];rfl
   rw[e];exact Mine.hs
 ·intro ρ2 I2;rw[fx,show((m:Int)-1- -1).toNat=m by exact f5 0xf110f11ff108f18ff012ff0818e180cdd5,show m-m=0 by exact f5 0xf1f18f108ff0812ff000,show n-m+m+1=n+1 by exact fk 0xf11f110ff18f1108ff181a1802aa2f100f010 hm,<-List.range_eq_range']at I2;exact jA (x:="rows") I2.rows (fe (jb (fc Mine.hs) rfl))
end
theorem EJ{α:Type}(n:Nat)(l:List α):(l.take n).length<=l.length:=List.length_take_le' n l
theorem ET{α:Type}(n:Nat)(l:List α):(l.drop n).length<=l.length:=by rw[bR];exact Nat.sub_le _ _
theorem tv(ds:List PyData)(b:Nat):nE ds none (some (b:Int)) none=ds.take b:=by
 have:=jZ ds 0 b
 rw[dT,cB]at this
 rw[<-this]
 delta nE
 have e:sliceBounds none (some (b:Int)) none ds.length=sliceBounds (some ((0:Nat):Int)) (some (b:Int)) none ds.length:=by simp[sliceBounds];exact(Int.max_eq_left (Int.min_le_left 0 _)).symm
 rw[e]
theorem lM(ds:List PyData)(a:Nat):nE ds (some (a:Int)) none none=ds.drop a:=by
 have:=jZ ds a ds.length
 rw[ao (by rw[bR];exact fk 0xf1220ff101)]at this
 rw[<-this]
 delta nE
 have e:sliceBounds (some (a:Int)) none none ds.length=sliceBounds (some (a:Int)) (some (ds.length:Int)) none ds.length:=by simp[sliceBounds];rw[aL (Int.not_lt.mpr (Int.natCast_nonneg _)),lG,Nat.min_self]
 rw[e]
noncomputable def Cg(T:List Int)(x:Int):List Int:=
 (if x.fmod 3=0 then(T.take ((x.fdiv 3).fmod ((T.length:Int)+1)).toNat++[1+((x.fdiv 3).fdiv 2).fmod 2,1+((x.fdiv 3).fdiv 4).fmod 2])++T.drop ((x.fdiv 3).fmod ((T.length:Int)+1)).toNat else if x.fmod 3=1 then T.take ((x.fdiv 3).fmod ((T.length:Int)+1)).toNat++T.drop (((x.fdiv 3).fmod ((T.length:Int)+1)).toNat+1+(((x.fdiv 3).fdiv 2).fmod 3).toNat)else(T.drop ((x.fdiv 3).fmod ((T.length:Int)+1)).toNat).take 3++T).take 14
noncomputable abbrev T0:List Int:=[1,2,1,1,2]
noncomputable def uD(ns:List Int)(i:Nat):List Int:=(ns.take i).foldl Cg T0
noncomputable def ru(n k:Nat):Bool:=(k%3==2)||(k+1==n)
noncomputable def uw(ns:List Int)(i:Nat):List (List Int):=T0::((List.range i).filter (ru ns.length)).map fun k=>uD ns (k+1)
structure B4(T:List Int):Prop where
 len:T.length<=14
 let':∀v∈T,v=1\/v=2
theorem Bx{T:List Int}(h:B4 T)(x:Int):B4 (Cg T x):=by
 refine⟨by delta Cg;rw[bC];exact f5 0xf118f108fe810ff0e83,fun v hv=>?_⟩
 have hv:=bU hv
 have m2:∀y:Int,1+y.fmod 2=1\/1+y.fmod 2=2:=fun y=>by rw[Int.fmod_eq_emod_of_nonneg _ (by decide)];rcases Int.emod_two_eq y with h|h<;>rw[h];exact .inl rfl;exact .inr rfl
 split at hv
 ·rcases aY.mp hv with hv|hv
  ·rcases aY.mp hv with hv|hv;·exact h.let' v (bU hv)
   ·rcases ak.mp hv with rfl|hv;·exact m2 _
    ·rw[aa]at hv;subst hv;exact m2 _
  ·exact h.let' v (dJ hv)
 ·split at hv
  ·rcases aY.mp hv with hv|hv;·exact h.let' v (bU hv)
   ·exact h.let' v (dJ hv)
  ·rcases aY.mp hv with hv|hv;·exact h.let' v (dJ (bU hv))
   ·exact h.let' v hv
theorem zI:B4 T0:=⟨by decide,by decide⟩
theorem rM:∀(ns:List Int) (T:List Int),B4 T->B4 (ns.foldl Cg T)
 |[],_,h=>h
 |x::ns,T,h=>rM ns _ (Bx h x)
theorem sd(ns:List Int)(i:Nat):B4 (uD ns i):=rM _ _ zI
theorem yO{ns:List Int}{i:Nat}{x:Int}(h:ns[i]?=some x):uD ns (i+1)=Cg (uD ns i) x:=by
 delta uD
 rw[cI,h,dq];rfl
theorem CN(ns:List Int)(i:Nat):∀T∈uw ns i,B4 T:=by
 intro T hT
 rcases ak.mp hT with rfl|hT
 ·exact zI
 ·refine gR (List.mem_map.mp hT) ?_;rintro k _ rfl;exact sd _ _
theorem pe(ns:List Int)(i:Nat):uw ns (i+1)=if ru ns.length i then uw ns i++[uD ns (i+1)]else uw ns i:=by
 delta uw
 rw[dG,List.filter_append,ag]
 cases h:ru ns.length i
 ·simp[List.filter,h]
 ·simp[List.filter,h]
theorem sU(ns:List Int):∀i,i<ns.length->(uw ns i).length=1+i/3
 |0,_=>rfl
 |i+1,h=>by
  have ih:=sU ns i (fk 0xf11101f1180a1f h);rw[pe];have e:ru ns.length i=decide (i%3=2):=by
   delta ru;have:(i+1==ns.length)=false:=by simp;exact fk 0xf111180a26f1180a1f h
   rw[this,cU];by_cases h:i%3=2<;>simp[h]
  rw[e];by_cases h3:i%3=2;·have hd:=Nat.div_add_mod i 3;rw[h3]at hd;rw[aN (by simpa using h3),aP,ih,bq];exact f5 0xf1103f810003f218a18118aa2f028103ba2f38180a23802 hd
  ·have hd:=Nat.div_add_mod i 3;have hm:=Nat.lt_of_le_of_ne (Nat.le_of_lt_succ (Nat.mod_lt i (show 0<3 by decide))) h3;rw[aL (by simpa using h3),ih];generalize i%3=r at*;exact fk 0xf1101003f10013f318a218a2f281101203ba2f38180a23802 hd hm
theorem tG(ns:List Int):(uw ns ns.length).length<=2+ns.length/3:=by
 rcases cx ns.length with h|h
 ·rw[h];exact fa 1
 ·obtain⟨m,hm⟩:∃m,ns.length=m+1:=⟨ns.length-1,by exact f5 0xf18f1108ff11f110ff181a02f0081f1800 h⟩;have:=sU ns m (fk 0xf11011f181a02f hm);have e:(uw ns (m+1)).length<=(uw ns m).length+1:=by
   rw[pe];split;·rw[aP];exact aH _
   ·exact f5 0xf1180a00ff
  rw[hm]at*;exact fu 0xf3a01103328a20f180a20418a02f381238181a2 this e
section
variable{X:Cx}{k:Nat}
noncomputable abbrev Fc:Stmt:=fh g7 7
noncomputable abbrev ya(a b c:Value)(L f:Addr):Env:=callEnvC (iy 7 "_law_texts" a b c) L f
structure XI(ns T:List Int)(TS:List (List Int))(ρ:List (Str×B)):Prop where
 numbers:fn ρ "numbers" (.val (iD ns))
 text:fn ρ "text" (.val (iD T))
 texts:fn ρ "texts" (.own (TS.map iD))
theorem XI.pt{ns T:List Int}{TS:List (List Int)}{ρ:List (Str×B)}(I:XI ns T TS ρ){z:Str}{b:B}(h:(j6 "numbers" z&&(j6 "text" z&&j6 "texts" z))=true):XI ns T TS (put ρ z b):=by
 simp only[ad]at h
 exact⟨hn I.numbers h.1,hn I.text h.2.1,hn I.texts h.2.2⟩
noncomputable abbrev Cb:List Stmt:=iQ (fh (fm Fc) 2)
theorem vH(F:LG X){L f:Addr}{a b c:Value}{ns T:List Int}{TS:List (List Int)}{i:Nat}{x:Int}{ρ:List (Str×B)}{Q:Fl->List (Str×B)->Prop}(I:XI ns T TS ρ)(hk:fn ρ "k" (.val (.int i)))(hx:ns[i]?=some x)(hN:ns.length<=100)(hT:T.length<=14)(hz:TS.length<=100)(hq:∀ρ',XI ns (Cg T x) (if ru ns.length i then TS++[Cg T x]else TS) ρ'->Q .next ρ'):iP X (k+2) (ya a b c L f) ρ Cb Q:=by
 have hsl:5000<=sizeLine:=by decide
 have p3:∀y:Int,Builtin.divisionGoesByPylong y 3=false:=fun y=>dZ (by decide)
 have p2:∀y:Int,Builtin.divisionGoesByPylong y 2=false:=fun y=>dZ (by decide)
 have p4:∀y:Int,Builtin.divisionGoesByPylong y 4=false:=fun y=>dZ (by decide)
 have hil:i<ns.length:=(List.getElem?_eq_some_iff.mp hx).1
 have num:∀{ρ:List (Str×B)}{q1 q2 q3:Pos},fn ρ "numbers" (.val (iD ns))->fn ρ "k" (.val (.int i))->Ev X (k+2) (ya a b c L f) ρ (.Subscript (.Name "numbers" q1) (.Name "k" q2) q3) (.int x):=fun h1 h2=>jM (n:=(i:Int)) (gH (fc h1)) (fc h2) (fk 0xf11c0ce3ff) (by rw[aB];exact fk 0xf111c0c4f101f hil) (by rw[aB];exact fk 0xf111100f11388290640900f hN hsl) (by rw[jW,aS,hx];rfl)
 refine fe (gM (d:=.int (x.fdiv 3)) (qV (num I.numbers hk) ft (by decide) (p3 _)) (.inl rfl) ?_)
 have I1:=I.pt (z:="y") (b:=.val (.int (x.fdiv 3))) rfl
 have hk1:fn (put ρ "y" (.val (.int (x.fdiv 3)))) "k" (.val (.int i)):=hn hk rfl
 have hy1:fn (put ρ "y" (.val (.int (x.fdiv 3)))) "y" (.val (.int (x.fdiv 3))):=hs
 generalize put ρ "y" (.val (.int (x.fdiv 3)))=ρ1 at I1 hk1 hy1|-
 have hp0:0<=(x.fdiv 3).fmod ((T.length:Int)+1):=Int.fmod_nonneg_of_pos _ (f5 0xf1180ca084ff)
 have hpl:(x.fdiv 3).fmod ((T.length:Int)+1)<(T.length:Int)+1:=Int.fmod_lt_of_pos _ (f5 0xf1180ca084ff)
 delta Cg at hq
 obtain⟨p,hp⟩:∃p:Nat,(x.fdiv 3).fmod ((T.length:Int)+1)=p:=⟨((x.fdiv 3).fmod ((T.length:Int)+1)).toNat,by exact iz [] [_] 0xf1108f18ff110f11ff0c05f0083f0805 hp0⟩
 refine fe (gM (d:=.int p) (fy (mE (fc hy1) (f7 (kW F.df.len rfl I1.text (f5 0xf113e81900fe800f hT)) ft) (f5 0xf808180ca56ff)) (by rw[hp])) (.inl rfl) ?_)
 rw[hp,aq]at hq
 rw[hp]at hpl
 have I2:=I1.pt (z:="p") (b:=.val (.int p)) rfl
 have hk2:fn (put ρ1 "p" (.val (.int p))) "k" (.val (.int i)):=hn hk1 rfl
 have hy2:fn (put ρ1 "p" (.val (.int p))) "y" (.val (.int (x.fdiv 3))):=hn hy1 rfl
 have hpp2:fn (put ρ1 "p" (.val (.int p))) "p" (.val (.int p)):=hs
 generalize put ρ1 "p" (.val (.int p))=ρ2 at I2 hk2 hy2 hpp2|-
 have hf3:0<=((x.fdiv 3).fdiv 2).fmod 3:=Int.fmod_nonneg_of_pos _ (by decide)
 have rest:∀(T':List Int) (ρ3:List (Str×B)),T'.length<=100->(∀ρ',XI ns (T'.take 14) (if ru ns.length i then TS++[T'.take 14]else TS) ρ'->Q .next ρ')->XI ns T' TS ρ3->fn ρ3 "k" (.val (.int i))->iP X (k+2) (ya a b c L f) ρ3 (Cb.drop 3) Q:=fun T' ρ3 hT' hq I3 hk3=>by
  refine fe (gM (d:=iD (T'.take 14)) (fy (ji (gH (fc I3.text)) iW (iU ft) iW (by decide) (by rw[aB];exact fk 0xf111010f64091001388290f hsl hT')) (by rw[show(14:Int)=((14:Nat):Int)from rfl,tv,<-eF])) (.inl rfl) ?_);have I4:XI ns (T'.take 14) TS (put ρ3 "text" (.val (iD (T'.take 14)))):=⟨hn I3.numbers rfl,hs,hn I3.texts rfl⟩;have hk4:fn (put ρ3 "text" (.val (iD (T'.take 14)))) "k" (.val (.int i)):=hn hk3 rfl;generalize put ρ3 "text" (.val (iD (T'.take 14)))=ρ4 at I4 hk4|-;refine fe (gu (gd (b':=ru ns.length i) (nq (my (mE (fc hk4) ft (by decide)) ft rfl rfl (cV _)) fun _=>nq (my (fc hk4) (jO (kW F.df.len rfl I4.numbers (f5 0xf113e81900f640900f hN)) ft) rfl rfl (cV _)) fun _=>rh) ?_) (fun hb=>?_) fun hb=>?_)
  ·rw[mP,mP,cU];delta ru;congr 1
   ·rw[Int.fmod_eq_emod_of_nonneg _ (by decide)];by_cases h:i%3=2;·rw[bH (by lia),h];rfl
    ·rw[de (by lia)];simp[h]
   ·by_cases h:i+1=ns.length;·rw[bH (by exact fk 0xf11f81f181cd0c5f1180a2f h),h];simp
    ·rw[de (by exact fk 0xf11f81f181cd0c56f1180a26f h)];simp[h]
  ·rw[aN hb]at hq;refine fe (gw (ds:=TS.map iD) (d:=iD (T'.take 14)) I4.texts (fc I4.text) (by rw[aB];exact fk 0xf111100f11388290640900f hz hsl) (fj (fj (hq _ ⟨hn I4.numbers rfl,hn I4.text rfl,?_⟩))));rw[ag];exact hs
  ·rw[aL (by rw[hb];decide)]at hq;exact fj (fj (hq _ I4))
 have bnd:∀(T':List Int),fn (put ρ2 "text" (.val (iD T'))) "k" (.val (.int i))/\XI ns T' TS (put ρ2 "text" (.val (iD T'))):=fun T'=>⟨hn hk2 rfl,hn I2.numbers rfl,hs,hn I2.texts rfl⟩
 have cut1:∀{q1 q2 q3 q4:Pos},Ev X (k+2) (ya a b c L f) ρ2 (.Subscript (.Name "text" q1) (.Slice none (some (.Name "p" q2)) none q3) q4) (iD (T.take p)):=fy (ji (gH (fc I2.text)) iW (iU (fc hpp2)) iW (by decide) (by rw[aB];exact fk 0xf111100f11388290e800f hT hsl)) (by rw[tv,<-eF])
 refine fe (gu (gd (b':=decide (x.fmod 3=0)) (my (mE (num I2.numbers hk2) ft (by decide)) ft rfl rfl (cV _)) (mP _ _)) (fun hb=>?_) fun hb=>?_)
 ·rw[aN (of_decide_eq_true hb)]at hq;refine fe (gM (d:=iD (T.take p++[1+((x.fdiv 3).fdiv 2).fmod 2,1+((x.fdiv 3).fdiv 4).fmod 2]++T.drop p)) (fy (sL (gH (sL (gH cut1) (gH (nQ (fg (f7 ft (mE (qV (fc hy2) ft (by decide) (p2 _)) ft (by decide))) (fg (f7 ft (mE (qV (fc hy2) ft (by decide) (p4 _)) ft (by decide))) fq)) ?_)) ?_)) (gH (ji (gH (fc I2.text)) (iU (fc hpp2)) iW iW (by decide) ?_)) ?_) ?_) (.inl rfl) ?_);·simp only[aM,aZ];exact f5 0xf110181808aa0f01388290f hsl
  ·simp only[aM,aZ,aB,bC];exact fu 0xf11108f11118f1181808aa3a0f11388290e800f023 hT hsl
  ·rw[aB];exact fk 0xf111100f11388290e800f hT hsl
  ·rw[lM];have h1:=EJ p T;have h2:=ET p (T.map PyData.int);simp only[aP,aM,aZ,aB]at h2|-;exact gK 0xf40e40e40e81e40e13181808aa2aa0f03002011388290e800f hT hsl h1 h2
  ·rw[lM];show _=PyData.list (List.map PyData.int (_++_++_));rw[ag,ag,eE];rfl
  ·obtain⟨hk3,I3⟩:=bnd (T.take p++[1+((x.fdiv 3).fdiv 2).fmod 2,1+((x.fdiv 3).fdiv 4).fmod 2]++T.drop p);exact fj (rest _ _ (by have h1:=EJ p T;have h2:=ET p T;simp only[aP,aM,aZ];exact bA (m:=30) (fu 0xf11211e092181808aa1aa0f020010e800f hT h1 h2) (by decide)) hq I3 hk3)
 ·rw[aL (bu hb)]at hq;refine fe (gu (gd (b':=decide (x.fmod 3=1)) (my (mE (num I2.numbers hk2) ft (by decide)) ft rfl rfl (cV _)) (mP _ _)) (fun hb=>?_) fun hb=>?_)
  ·rw[aN (of_decide_eq_true hb)]at hq;refine fe (gM (d:=iD (T.take p++T.drop (p+1+(((x.fdiv 3).fdiv 2).fmod 3).toNat))) (fy (sL (gH cut1) (gH (ji (gH (fc I2.text)) (iU (i:=((p+1+(((x.fdiv 3).fdiv 2).fmod 3).toNat:Nat):Int)) (fy (f7 (f7 (fc hpp2) ft) (mE (qV (fc hy2) ft (by decide) (p2 _)) ft (by decide))) ?_)) iW iW (by decide) ?_)) ?_) ?_) (.inl rfl) ?_);·congr 1;exact iz [_] [_] 0xf1108f18ff110f11ff1180aac0180caa5f0083f0805 hf3
   ·rw[aB];exact fk 0xf111100f11388290e800f hT hsl
   ·rw[lM];have h1:=EJ p T;have h2:=ET (p+1+(((x.fdiv 3).fdiv 2).fmod 3).toNat) (T.map PyData.int);simp only[aB]at h2|-;exact gK 0xf40e40e40e81e40e132a0f03002011388290e800f hT hsl h1 h2
   ·rw[lM];show _=PyData.list (List.map PyData.int (_++_));rw[ag,eE]
   ·obtain⟨hk3,I3⟩:=bnd (T.take p++T.drop (p+1+(((x.fdiv 3).fdiv 2).fmod 3).toNat));exact fj (fj (rest _ _ (by have h1:=EJ p T;have h2:=ET (p+1+(((x.fdiv 3).fdiv 2).fmod 3).toNat) T;simp only[aP];exact bA (m:=28) (fu 0xf11211c0921a0f020010e800f hT h1 h2) (by decide)) hq I3 hk3))
  ·rw[aL (bu hb)]at hq;refine fe (gM (d:=iD ((T.drop p).take 3++T)) (fy (sL (gH (ji (gH (fc I2.text)) (iU (fc hpp2)) (iU (i:=((p+3:Nat):Int)) (fy (f7 (fc hpp2) ft) (by congr 1))) iW (by decide) ?_)) (gH (fc I2.text)) ?_) ?_) (.inl rfl) ?_);·rw[aB];exact fk 0xf111100f11388290e800f hT hsl
   ·rw[jZ];have h1:=EJ (p+3-p) ((T.map PyData.int).drop p);have h2:=ET p (T.map PyData.int);simp only[aB]at h2|-;exact gK 0xf40e40e40e81e40e102a0f03032011388290e800f hT hsl h1 h2
   ·rw[jZ,bI];show _=PyData.list (List.map PyData.int (_++_));rw[ag,eF,eE]
   ·obtain⟨hk3,I3⟩:=bnd ((T.drop p).take 3++T);exact fj (fj (rest _ _ (by simp only[aP,bC,bR];exact fk 0xf100118f100108f640903a0fe800f2383101 hT) hq I3 hk3))
theorem uY(F:LG X){L f:Addr}{a b c:Value}{ns:List Int}(hN:ns.length<=80):iP X (k+2) (ya a b c L f) [("numbers",.val (iD ns))] (fm Fc) fun fl _=>fl=.ret (.list ((uw ns ns.length).map iD)):=by
 have hsl:5000<=sizeLine:=by decide
 refine fe (gM (d:=iD T0) (nQ (jN (jN (jN (jN (jN tj))))) (by simp only[aB,aM,aZ];exact f5 0xf110181818181808aaaaa0f01388290f hsl)) (.inl rfl) ?_)
 refine fe (hY (ds:=[iD T0]) (iu (fg (fc hs) fq) (by simp only[aM,aZ];exact f5 0xf1101808a0f01388290f hsl)) (.inl rfl) ?_)
 have I0:XI ns (uD ns 0) (uw ns 0) (put (put [("numbers",.val (iD ns))] "text" (.val (iD T0))) "texts" (.own [iD T0])):=⟨by k_mem,by k_mem,hs⟩
 generalize put (put [("numbers",.val (iD ns))] "text" (.val (iD T0))) "texts" (.own [iD T0])=ρ0 at I0|-
 refine fe (ip (items:=gO 0 1 ns.length) (iq (i9 (n:=(ns.length:Int)) F.df.range rfl (kW F.df.len rfl I0.numbers (f5 0xf113e81900f500900f hN)) (f5 0xf11f1f10000000000990c30c1000000000099e37f500900f hN)) (by rw[aq])) (fun i ρ=>XI ns (uD ns i) (uw ns i) ρ) I0 ?_ ?_)
 ·intro i d ρ1 hd I Q1 H1;have hj:i<ns.length:=by have:=(List.getElem?_eq_some_iff.mp hd).1;rwa [fx]at this
  rw[hH hj]at hd;cases hd;have hx:ns[i]?=some ns[i]:=aK hj;rw[show(0:Int)+(i:Int)*1=(i:Int)by exact f5 0xf1f1f0c0c01f08a5ff];refine⟨_,fo (.inl rfl),vH F (I.pt rfl) hs hx (f5 0xf11640900f500900f hN) (sd ns i).len (by have h1:=sU ns i hj;exact bA (m:=27) (fu 0xfa110131b0920f318a22011500900f3812 hN hj h1) (by decide)) fun ρ' I'=>H1.next ?_⟩;rw[<-yO hx,<-pe]at I';exact I'
 ·intro ρ1 I;rw[fx]at I;exact fe (lL I.texts rfl)
end
noncomputable abbrev ue(t:T3):PyData:=u0 (k4 t)
section
variable{X:Cx}{k:Nat}
noncomputable abbrev CU:Stmt:=fh g7 8
noncomputable abbrev ot(a b c:Value)(L f:Addr):Env:=callEnvC (iy 8 "_law_edit" a b c) L f
noncomputable abbrev Fj:List Stmt:=iQ (fh (fm CU) 1)
noncomputable abbrev Fr:List Stmt:=iQ (fh Fj 0)
noncomputable abbrev F3:List Stmt:=iQ (fh Fr 0)
structure EI(as bs:List Int)(ρ:List (Str×B)):Prop where
 a:fn ρ "a" (.val (iD as))
 b:fn ρ "b" (.val (iD bs))
theorem EI.pt{as bs:List Int}{ρ:List (Str×B)}(I:EI as bs ρ){z:Str}{b:B}(h:(j6 "a" z&&j6 "b" z)=true):EI as bs (put ρ z b):=by
 simp only[ad]at h
 exact⟨hn I.a h.1,hn I.b h.2⟩
theorem DA(F:LG X){L f:Addr}{a b c:Value}{as bs:List Int}{i j m:Nat}{R:List T3}{ρ:List (Str×B)}{Q:Fl->List (Str×B)->Prop}(I:EI as bs ρ)(hi:fn ρ "i" (.val (.int i)))(hj:fn ρ "j" (.val (.int j)))(hN:fn ρ "n" (.val (.int ((m+1:Nat):Int))))(hR:fn ρ "runs" (.own (R.map ue)))(ha:as.length<=14)(hb:bs.length<=14)(hz:R.length<=4000)(hq:∀ρ',EI as bs ρ'->fn ρ' "i" (.val (.int i))->fn ρ' "j" (.val (.int j))->fn ρ' "runs" (.own ((R++oZ as bs i j m).map ue))->Q .next ρ'):iP X (k+2) (ot a b c L f) ρ F3 Q:=by
 have hsl:5000<=sizeLine:=by decide
 have sA:∀{q1 q2 q3 q4 q5 q6 q7:Pos},Ev X (k+2) (ot a b c L f) ρ (.Subscript (.Name "a" q1) (.Slice (some (.Name "i" q2)) (some (.BinOp (.Name "i" q3) .Add (.Name "n" q4) q5)) none q6) q7) (iD ((as.drop i).take (m+1))):=by intro q1 q2 q3 q4 q5 q6 q7;refine fy (ji (hi:=some ((i+(m+1):Nat):Int)) (gH (fc I.a)) (iU (fc hi)) (iU (fy (f7 (fc hi) (fc hN)) (by congr 1))) iW (by decide) (by rw[aB];exact fk 0xf111100f11388290e800f ha hsl)) ?_;rw[jZ,bI,<-eE,<-eF]
 have sB:∀{q1 q2 q3 q4 q5 q6 q7:Pos},Ev X (k+2) (ot a b c L f) ρ (.Subscript (.Name "b" q1) (.Slice (some (.Name "j" q2)) (some (.BinOp (.Name "j" q3) .Add (.Name "n" q4) q5)) none q6) q7) (iD ((bs.drop j).take (m+1))):=by intro q1 q2 q3 q4 q5 q6 q7;refine fy (ji (hi:=some ((j+(m+1):Nat):Int)) (gH (fc I.b)) (iU (fc hj)) (iU (fy (f7 (fc hj) (fc hN)) (by congr 1))) iW (by decide) (by rw[aB];exact fk 0xf111100f11388290e800f hb hsl)) ?_;rw[jZ,bI,<-eE,<-eF]
 delta oZ at hq
 refine fe (gu (gd (my sA sB (oN _) (oN _) (cV _)) (AQ _ _)) (fun hc=>?_) fun hc=>?_)
 ·rw[aN (of_decide_eq_true hc)]at hq;refine fe (gw (ds:=R.map ue) (d:=ue (i,j,m+1)) hR (gV (fg (ml (fc hN)) (fg (fc hi) (fg (fc hj) (fg (fc hN) fq)))) (by show 4<=sizeLine;exact f5 0xf110480f01388290f hsl)) (by rw[aB];exact fk 0xf111100f11388290fa01900f hz hsl) (fj (fj (hq _ (I.pt rfl) (hn hi rfl) (hn hj rfl) ?_))));rw[ag];exact hs
 ·rw[aL (bu hc),ar]at hq;exact fj (fj (hq _ I hi hj hR))
theorem A7{a b i j:Nat}(ha:a<=14)(hi:i<=a)(hj:j<=b):-(2:Int)^40<=min ((a:Int)-i) ((b:Int)-j)+1/\min ((a:Int)-i) ((b:Int)-j)+1<=(2:Int)^40:=by
 have h1:(0:Int)<=min ((a:Int)-i) ((b:Int)-j):=Int.le_min.mpr ⟨bN (Int.ofNat_le.mpr hi),bN (Int.ofNat_le.mpr hj)⟩
 have h2:min ((a:Int)-i) ((b:Int)-j)<=14:=Int.le_trans (Int.min_le_left _ _) (Int.le_trans (Int.sub_le_self _ (Int.natCast_nonneg i)) (Int.ofNat_le.mpr ha))
 exact⟨Int.le_trans (by decide) (Int.add_le_add_right h1 1),Int.le_trans (Int.add_le_add_right h2 1) (by decide)⟩
theorem A4(a b i j:Nat):(min ((a:Int)-i) ((b:Int)-j)+1-1).toNat=min (a-i) (b-j):=by
 rw[Int.add_sub_cancel,<-Int.toNat_sub a i,<-Int.toNat_sub b j]
 rcases Int.le_total ((a:Int)-i) ((b:Int)-j)with h|h
 ·rw[Int.min_eq_left h,cN (Int.toNat_le_toNat h)]
 ·rw[Int.min_eq_right h,d6 (Int.toNat_le_toNat h)]
theorem DM(F:LG X){L f:Addr}{a b c:Value}{as bs:List Int}{i j:Nat}{R:List T3}{ρ:List (Str×B)}{Q:Fl->List (Str×B)->Prop}(I:EI as bs ρ)(hi:fn ρ "i" (.val (.int i)))(hj:fn ρ "j" (.val (.int j)))(hR:fn ρ "runs" (.own (R.map ue)))(ha:as.length<=14)(hb:bs.length<=14)(hil:i<=as.length)(hjl:j<=bs.length)(hz:R.length<=3900)(hq:∀ρ',EI as bs ρ'->fn ρ' "i" (.val (.int i))->fn ρ' "runs" (.own ((R++pS as bs i j).map ue))->Q .next ρ'):iP X (k+2) (ot a b c L f) ρ Fr Q:=by
 have hsl:5000<=sizeLine:=by decide
 refine fe (ip (items:=gO 1 1 (min (as.length-i) (bs.length-j))) (iq (lI (b:=min ((as.length:Int)-i) ((bs.length:Int)-j)+1) F.df.range rfl ft (f7 (BB F.min rfl (jO (kW F.df.len rfl I.a (f5 0xf113e81900fe800f ha)) (fc hi)) (jO (kW F.df.len rfl I.b (f5 0xf113e81900fe800f hb)) (fc hj))) ft) (iz [] [] 0xf1f1f1000000000099183181000000000099e37ff) (A7 ha hil hjl)) (by rw[A4])) (fun m ρ=>EI as bs ρ/\fn ρ "i" (.val (.int i))/\fn ρ "j" (.val (.int j))/\fn ρ "runs" (.own ((R++(List.range m).flatMap (oZ as bs i j)).map ue))) ⟨I,hi,hj,by rw[List.range_zero,List.flatMap_nil,ar];exact hR⟩ ?_ ?_)
 ·rintro m d ρ1 hd ⟨I,hi,hj,hR⟩Q1 H1;have hm:m<min (as.length-i) (bs.length-j):=by have:=(List.getElem?_eq_some_iff.mp hd).1;rwa [fx]at this
  rw[hH hm]at hd;cases hd;rw[show(1:Int)+(m:Int)*1=((m+1:Nat):Int)by exact f5 0xf1f1f180ac0c01f18a5ff];have hfl:=ik (l:=List.range m) (f:=oZ as bs i j) (c:=1) fun x _=>by delta oZ;split<;>simp
  rw[bB]at hfl;refine⟨_,fo (.inr ⟨rfl,_,rfl⟩),DA F (m:=m) (I.pt rfl) (hn hi rfl) (hn hj rfl) hs (hn hR rfl) ha hb (by rw[aP];exact uH 0xf11110100108f11110100118ffa01961a0f201f602721f3c1910e800f17073501431 hb hz hm hfl) fun ρ' I' hi' hj' hR'=>H1.next ⟨I',hi',hj',?_⟩⟩;rw[dG,cL,cp,<-av];exact hR'
 ·rintro ρ1 ⟨I,hi,hj,hR⟩;rw[fx]at hR;exact fj (hq _ I hi hR)
theorem yu{as bs:List Int}{i j:Nat}(ha:as.length<=14):(pS as bs i j).length<=14:=by
 have:=ik (l:=List.range (min (as.length-i) (bs.length-j))) (f:=oZ as bs i j) (c:=1) fun x _=>by delta oZ;split<;>simp
 rw[bB]at this
 delta pS;exact i8 0xf110001118f110001108fe810f0701f10e800f653431201 ha this
theorem tE{as bs:List Int}{i:Nat}(ha:as.length<=14)(hb:bs.length<=14)(n:Nat)(hn:n<=bs.length):((List.range n).flatMap (pS as bs i)).length<=196:=by
 have:=ik (l:=List.range n) (f:=pS as bs i) (c:=14) fun x _=>yu ha
 rw[bB]at this;exact fu 0xf10ee0ee1c40920f10ef20010e800f hb hn this
theorem Cs(F:LG X){L f:Addr}{a b c:Value}{as bs:List Int}{i:Nat}{R:List T3}{ρ:List (Str×B)}{Q:Fl->List (Str×B)->Prop}(I:EI as bs ρ)(hi:fn ρ "i" (.val (.int i)))(hR:fn ρ "runs" (.own (R.map ue)))(ha:as.length<=14)(hb:bs.length<=14)(hil:i<=as.length)(hz:R.length<=3600)(hq:∀ρ',EI as bs ρ'->fn ρ' "runs" (.own ((R++sz as bs i).map ue))->Q .next ρ'):iP X (k+2) (ot a b c L f) ρ Fj Q:=by
 refine fe (ip (items:=gO 0 1 bs.length) (iq (i9 (n:=(bs.length:Int)) F.df.range rfl (kW F.df.len rfl I.b (f5 0xf113e81900fe800f hb)) (f5 0xf11f1f10000000000990c30c1000000000099e37fe800f hb)) (by rw[aq])) (fun j ρ=>EI as bs ρ/\fn ρ "i" (.val (.int i))/\fn ρ "runs" (.own ((R++(List.range j).flatMap (pS as bs i)).map ue))) ⟨I,hi,by rw[List.range_zero,List.flatMap_nil,ar];exact hR⟩ ?_ ?_)
 ·rintro j d ρ1 hd ⟨I,hi,hR⟩Q1 H1;have hj:j<bs.length:=by have:=(List.getElem?_eq_some_iff.mp hd).1;rwa [fx]at this
  rw[hH hj]at hd;cases hd;rw[show(0:Int)+(j:Int)*1=(j:Int)by exact f5 0xf1f1f0c0c01f08a5ff];have hfl:=tE (bs:=bs) (i:=i) ha hb j (fk 0xf11100f101f hj);refine⟨_,fo (.inr ⟨rfl,_,rfl⟩),DM F (I.pt rfl) (hn hi rfl) hs (hn hR rfl) ha hb hil (fk 0xf11100f101f hj) (by rw[aP];exact fk 0xf111f3c1910a0fc40910e101900f hz hfl) fun ρ' I' hi' hR'=>H1.next ⟨I',hi',?_⟩⟩;rw[dG,cL,cp,<-av];exact hR'
 ·rintro ρ1 ⟨I,hi,hR⟩;rw[fx]at hR;exact fj (hq _ I hR)
theorem yN(F:LG X){L f:Addr}{a b c:Value}{as bs:List Int}{Q:Fl->List (Str×B)->Prop}(ha:as.length<=14)(hb:bs.length<=14)(hq:∀ρ',EI as bs ρ'->fn ρ' "runs" (.own ((uI as bs).map ue))->iP X (k+2) (ot a b c L f) ρ' ((fm CU).drop 2) Q):iP X (k+2) (ot a b c L f) [("a",.val (iD as)),("b",.val (iD bs))] (fm CU) Q:=by
 refine fe (hY (ds:=[]) (iu fq (aV _)) (.inl rfl) ?_)
 have I0:EI as bs (put [("a",.val (iD as)),("b",.val (iD bs))] "runs" (.own [])):=⟨by k_mem,by k_mem⟩
 have hR0:fn (put [("a",.val (iD as)),("b",.val (iD bs))] "runs" (.own [])) "runs" (.own []):=hs
 generalize put [("a",.val (iD as)),("b",.val (iD bs))] "runs" (.own [])=ρ0 at I0 hR0|-
 refine fe (ip (items:=gO 0 1 as.length) (iq (i9 (n:=(as.length:Int)) F.df.range rfl (kW F.df.len rfl I0.a (f5 0xf113e81900fe800f ha)) (f5 0xf11f1f10000000000990c30c1000000000099e37fe800f ha)) (by rw[aq])) (fun i ρ=>EI as bs ρ/\fn ρ "runs" (.own (((List.range i).flatMap (sz as bs)).map ue))) ⟨I0,hR0⟩ ?_ ?_)
 ·rintro i d ρ1 hd ⟨I,hR⟩Q1 H1;have hi:i<as.length:=by have:=(List.getElem?_eq_some_iff.mp hd).1;rwa [fx]at this
  rw[hH hi]at hd;cases hd;rw[show(0:Int)+(i:Int)*1=(i:Int)by exact f5 0xf1f1f0c0c01f08a5ff];have hfl:=ik (l:=List.range i) (f:=sz as bs) (c:=196) fun x _=>tE ha hb bs.length (aH _);rw[bB]at hfl;refine⟨_,fo (.inr ⟨rfl,_,rfl⟩),Cs F (I.pt rfl) hs (hn hR rfl) ha hb (fk 0xf11100f101f hi) (bA (m:=2744) (bA hfl (Nat.mul_le_mul_right 196 (bA (cS hi) ha))) (by decide)) fun ρ' I' hR'=>H1.next ⟨I',?_⟩⟩;rw[dG,cL,cp];exact hR'
 ·rintro ρ1 ⟨I,hR⟩;rw[fx]at hR;exact hq _ I hR
end
noncomputable def gA(t:T3):PyData->List PyData
 |.tuple [.int a,.int b,.int c]=>if iB t (a.toNat,b.toNat,c.toNat)=true then[.tuple [.int a,.int b,.int c]]else[]
 |_=>[]
theorem vG(t c:T3):gA t (iA c)=if iB t c=true then[iA c]else[]:=by
 obtain⟨x,y,z⟩:=c
 show(if iB t ((x:Int).toNat,(y:Int).toNat,(z:Int).toNat)=true then _ else _)=_
 rw[aq,aq,aq];rfl
theorem wN(t:T3)(l:List T3):(l.map iA).flatMap (gA t)=(l.filter (iB t)).map iA:=by
 induction l with
 |nil=>rfl
 |cons c l ih=>
  rw[bJ,dp,vG,ih];by_cases h:iB t c=true;·rw[aN h,List.filter_cons_of_pos h];rfl
  ·rw[aL h,List.filter_cons_of_neg h];rfl
theorem xW(kept:List T3)(t:T3):(kA kept t).length<=kept.length+1:=by
 delta kA
 split
 ·rw[aP];exact aH _
 ·exact f5 0xf1180a00ff
theorem rW:∀(l kept:List T3),(l.foldl kA kept).length<=kept.length+l.length
 |[],kept=>aH _
 |t::l,kept=>by have h1:=rW l (kA kept t);have h2:=xW kept t;rw[eG,aM];exact gK 0xf111182a3a00f183a1021a00f h1 h2
theorem Au(as bs:List Int):∀c∈lP (srt as bs),c.2.1+c.2.2<=bs.length:=fun c hc=>by
 have g:=(jX as bs).good'
 exact(g.all c (((wE (jX as bs) g.pw).1 c).mp hc)).2.2.2.2.2
section
variable{X:Cx}{k:Nat}
noncomputable abbrev Fv:List Stmt:=iQ (fh (fm CU) 3)
theorem nr{env:Env}{ρ:List (Str×B)}{u:T3}(m:Nat)(v:Nat){p1 p2 p3:Pos}{nn:Nat}(h:fn ρ "one" (.val (iA u)))(hm:m<3)(hv:([PyData.int u.1,.int u.2.1,.int u.2.2]:List PyData)[m]?=some (.int v)):Ev X k env ρ (.Subscript (.Name "one" p1) (.Constant (.int (m:Int)) nn p2) p3) (.int v):=by
 have hsl:5000<=sizeLine:=by decide
 exact zX (ds:=[.int _,.int _,.int _]) (n:=(m:Int)) (fc (d:=iA u) h) ft (f5 0xf10c083ff) (by show(m:Int)<3;exact f5 0xf11380c4f3801f hm) (by show 3<=sizeLine;exact f5 0xf110380f01388290f hsl) (by rw[aq];exact hv)
theorem xO(F:LG X){L f:Addr}{a b c:Value}{as bs:List Int}{t:T3}{K:List T3}{ρ:List (Str×B)}{Q:Fl->List (Str×B)->Prop}(I:EI as bs ρ)(hi:fn ρ "i" (.val (.int t.1)))(hj:fn ρ "j" (.val (.int t.2.1)))(hN:fn ρ "n" (.val (.int t.2.2)))(hK:fn ρ "kept" (.own (K.map iA)))(hz:K.length<=4000)(hq:∀ρ',EI as bs ρ'->fn ρ' "kept" (.own ((kA K t).map iA))->Q .next ρ'):iP X (k+2) (ot a b c L f) ρ Fv Q:=by
 have hsl:5000<=sizeLine:=by decide
 have hfl:(K.filter (iB t)).length<=K.length:=di _ _
 refine fe (me (ρc:=[("i",.val (.int t.1)),("n",.val (.int t.2.2)),("j",.val (.int t.2.1))]) (items:=K.map iA) (gA t) (zm (jy hK)) ⟨rfl,by decide,rfl,by decide,sK.sub ⟨rfl,rfl,rfl,trivial⟩,sD.cap ⟨⟨fun h=>h,hi,rfl,rfl,_,rfl⟩,⟨fun h=>h,hN,rfl,rfl,_,rfl⟩,⟨fun h=>h,hj,rfl,rfl,_,rfl⟩,trivial⟩⟩ ?hb (by rw[wN,aB];exact fu 0xf1111120f02011388290fa01900f hz hsl hfl) (.inl rfl) ?_)
 case hb=>
  intro C d hd;refine gR (List.mem_map.mp hd) ?_;rintro u hu rfl;refine⟨_,_,j7 rfl,fun y b e=>?_,zf (nq (gL (f0 (f7 (fc (d:=.int t.1) (by k_mem)) (fc (d:=.int t.2.2) (by k_mem))) (nr 0 u.1 hs (by decide) rfl) rfl) fun _=>gL (f0 (f7 (fc (d:=.int t.2.1) (by k_mem)) (fc (d:=.int t.2.2) (by k_mem))) (nr 1 u.2.1 hs (by decide) rfl) rfl) fun _=>iw) fun _=>nq (gL (f0 (f7 (nr 0 u.1 hs (by decide) rfl) (nr 2 u.2.2 hs (by decide) rfl)) (fc (d:=.int t.1) (by k_mem)) rfl) fun _=>gL (f0 (f7 (nr 1 u.2.1 hs (by decide) rfl) (nr 2 u.2.2 hs (by decide) rfl)) (fc (d:=.int t.2.1) (by k_mem)) rfl) fun _=>iw) fun _=>rh),fun hb=>?_,fun hb=>?_⟩
  ·by_cases hy:y="one";·subst hy;cases e
   ·rw[m5 _ hy];exact e
  ·have hap:iB t u=true:=by delta iB;simp only[ct,cU,ch,ad,aQ]at hb|-;exact jr 0xf110f1010ff101f1010fff110f1001ff101f1001fff354a0052a07413a0210a078f3c5c4ca30c5c2ca374c1c3ca32c1c0ca378f hb
   rw[vG,aN hap];exact j9 (fc hs)
  ·have hap:¬iB t u=true:=fun h=>by delta iB at h;simp only[ch,ad,aQ]at h;simp only[ct,cU,Bool.or_eq_false_iff,dj,az]at hb;exact jr 0xf1001f101ff1001f101fff101f11ff9f3c5c4ca360c5c2ca3684c1c3ca362c1c0ca368354a0052a07413a0210a078f h hb.1 hb.2
   rw[vG,aL hap]
 rw[wN]
 have I1:=I.pt (z:="apart") (b:=.own ((K.filter (iB t)).map iA)) rfl
 have hi1:fn (put ρ "apart" (.own ((K.filter (iB t)).map iA))) "i" (.val (.int t.1)):=hn hi rfl
 have hj1:fn (put ρ "apart" (.own ((K.filter (iB t)).map iA))) "j" (.val (.int t.2.1)):=hn hj rfl
 have hN1:fn (put ρ "apart" (.own ((K.filter (iB t)).map iA))) "n" (.val (.int t.2.2)):=hn hN rfl
 have hK1:fn (put ρ "apart" (.own ((K.filter (iB t)).map iA))) "kept" (.own (K.map iA)):=hn hK rfl
 have hA1:fn (put ρ "apart" (.own ((K.filter (iB t)).map iA))) "apart" (.own ((K.filter (iB t)).map iA)):=hs
 generalize put ρ "apart" (.own ((K.filter (iB t)).map iA))=ρ1 at I1 hi1 hj1 hN1 hK1 hA1|-
 delta kA at hq
 refine fe (gu (gd (b':=decide ((K.filter (iB t)).length=K.length)) (my (i7 F.df.len rfl (jy hA1) (by rw[aB];exact fu 0xf1111120f02011388290fa01900f hz hsl hfl)) (i7 F.df.len rfl (jy hK1) (by rw[aB];exact fk 0xf111100f11388290fa01900f hz hsl)) rfl rfl (cV _)) ?_) (fun hc=>?_) fun hc=>?_)
 ·rw[mP,aB,aB];exact decide_eq_decide.mpr (⟨fk 0xf11f81f1021c0c5aff,fk 0xf11f81f1c0c5102aff⟩)
 ·rw[aN (of_decide_eq_true hc)]at hq;refine fe (gw (ds:=K.map iA) (d:=iA t) hK1 (gV (fg (fc hi1) (fg (fc hj1) (fg (fc hN1) fq))) (by show 3<=sizeLine;exact f5 0xf110380f01388290f hsl)) (by rw[aB];exact fk 0xf111100f11388290fa01900f hz hsl) (fj (fj (hq _ (I1.pt rfl) ?_))));rw[ag];exact hs
 ·rw[aL (bu hc)]at hq;exact fj (fj (hq _ I1 hK1))
theorem yE(F:LG X){L f:Addr}{a b c:Value}{as bs:List Int}{ρ:List (Str×B)}{Q:Fl->List (Str×B)->Prop}(ha:as.length<=14)(hb:bs.length<=14)(I:EI as bs ρ)(hR:fn ρ "runs" (.own ((uI as bs).map ue)))(hq:∀ρ',EI as bs ρ'->fn ρ' "kept" (.val (.list ((lP (srt as bs)).map iA)))->iP X (k+2) (ot a b c L f) ρ' ((fm CU).drop 4) Q):iP X (k+2) (ot a b c L f) ρ ((fm CU).drop 2) Q:=by
 have hsl:5000<=sizeLine:=by decide
 have hl:=Bs ha hb
 have hls:(srt as bs).length<=2744:=by rw[(pP as bs).length_eq];exact hl
 refine fe (hY (ds:=[]) (iu fq (aV _)) (.inl rfl) ?_)
 have I0:=I.pt (z:="kept") (b:=.own []) rfl
 have hR0:fn (put ρ "kept" (.own [])) "runs" (.own ((uI as bs).map ue)):=hn hR rfl
 have hK0:fn (put ρ "kept" (.own [])) "kept" (.own []):=hs
 generalize put ρ "kept" (.own [])=ρ0 at I0 hR0 hK0|-
 rw[show(uI as bs).map ue=((uI as bs).map k4).map u0 by rw[cK];rfl]at hR0
 refine fe (ip (items:=((srt as bs).map k4).map u0) (jK (w8 (c:=3) F.sorted rfl (jy hR0) (by rw[aB];exact f5 0xf1113882900fab81900f hl) (fun r hr=>by refine gR (List.mem_map.mp hr) ?_;rintro t _ rfl;rfl) ((pP as bs).map k4) (List.pairwise_map.mpr (qM as bs)))) (fun q ρ=>EI as bs ρ/\fn ρ "kept" (.own ((((srt as bs).take q).foldl kA []).map iA))) ⟨I0,hK0⟩ ?_ ?_)
 ·rintro q d ρ1 hd ⟨I,hK⟩Q1 H1;rw[aS,aS]at hd;refine gR (Option.map_eq_some_iff.mp hd) ?_;rintro u hu rfl;refine gR (Option.map_eq_some_iff.mp hu) ?_;rintro t ht rfl;have hkl:=rW ((srt as bs).take q) [];have htl:((srt as bs).take q).length<=2744:=by rw[bC];exact fk 0xf1108f1118fab81920fab81900f013 hls
  have htk:((srt as bs).take (q+1)).foldl kA []=kA (((srt as bs).take q).foldl kA []) t:=by rw[cI,ht,dq];rfl
  rw[htk]at H1;refine⟨_,kt (ds:=[.int _,.int _,.int _,.int _]) (f9 (fo (.inl rfl)) (f9 (fo (.inr ⟨rfl,_,rfl⟩)) (f9 (fo (.inr ⟨rfl,_,rfl⟩)) (f9 (fo (.inr ⟨rfl,_,rfl⟩)) jg)))) rfl rfl,?_⟩;refine xO F (t:=t) (K:=((srt as bs).take q).foldl kA []) ?_ (by k_mem) (by k_mem) (by k_mem) ?_ (by rw[aZ]at hkl;exact fk 0xf111fa01900fab81910108a00f hkl htl) fun ρ' I' hK'=>H1.next ⟨I',hK'⟩;·exact(((I.pt rfl).pt rfl).pt rfl).pt rfl
  ·exact hn (hn (hn (hn hK rfl) rfl) rfl) rfl
 ·rintro ρ1 ⟨I,hK⟩;rw[aB,aB,d8]at hK;exact jA (x:="kept") hK (hq _ (I.pt rfl) hs)
theorem xN(F:LG X){L f:Addr}{a b c:Value}{as bs:List Int}{ρ:List (Str×B)}{K:List T3}(hb:bs.length<=14)(I:EI as bs ρ)(hK:fn ρ "kept" (.val (.list (K.map iA))))(hin:∀c∈K,c.2.1+c.2.2<=bs.length):iP X (k+2) (ot a b c L f) ρ ((fm CU).drop 4) fun fl _=>fl=.ret (iD (sG bs.length K)):=by
 have hsl:5000<=sizeLine:=by decide
 have hg:(bs.map PyData.int).flatMap (fun _=>[PyData.int (-1)])=(List.replicate bs.length (-1)).map PyData.int:=by clear hb I hin;induction bs with|nil=>rfl|cons v bs ih=>rw[bJ,dp,ih];rfl
 refine fe (me (ρc:=[]) (items:=bs.map .int) (fun _=>[.int (-1)]) (jK (fc I.b)).weak ⟨rfl,by decide,rfl,by decide,sK.sub trivial,sD.cap trivial⟩ (fun C d hd=>o8 rfl rfl (j9 (ml ft))) (by rw[hg,aB,dk];exact fk 0xf111100f11388290e800f hb hsl) (.inl rfl) ?_)
 rw[hg]
 have hK0:fn (put ρ "edit" (.own ((List.replicate bs.length (-1)).map .int))) "kept" (.val (.list (K.map iA))):=hn hK rfl
 have hE0:fn (put ρ "edit" (.own ((List.replicate bs.length (-1)).map .int))) "edit" (.own ((List.replicate bs.length (-1)).map .int)):=hs
 generalize put ρ "edit" (.own ((List.replicate bs.length (-1)).map .int))=ρ0 at hK0 hE0|-
 have hlen:∀(l:List T3) (e:List Int),(l.foldl (fun e c=>l7 e c c.2.2) e).length=e.length:=fun l=>by induction l with|nil=>intro e;rfl|cons c l ih=>intro e;rw[eG,ih,lX]
 refine fe (ip (items:=K.map iA) (jK (fc hK0)) (fun q ρ=>fn ρ "edit" (.own (((K.take q).foldl (fun e c=>l7 e c c.2.2) (List.replicate bs.length (-1))).map .int))) hE0 ?_ ?_)
 ·intro q d ρ1 hd hE Q1 H1;rw[aS]at hd;refine gR (Option.map_eq_some_iff.mp hd) ?_;rintro t ht rfl;have htk:(K.take (q+1)).foldl (fun e c=>l7 e c c.2.2) (List.replicate bs.length (-1))=l7 ((K.take q).foldl (fun e c=>l7 e c c.2.2) (List.replicate bs.length (-1))) t t.2.2:=by rw[cI,ht,dq];rfl
  rw[htk]at H1;have hE':=hlen (K.take q) (List.replicate bs.length (-1));rw[dk]at hE';have hti:=hin t (ay ht);generalize(K.take q).foldl (fun e c=>l7 e c c.2.2) (List.replicate bs.length (-1))=ED at hE hE' H1;refine⟨_,kt (ds:=[.int _,.int _,.int _]) (f9 (fo (.inr ⟨rfl,_,rfl⟩)) (f9 (fo (.inr ⟨rfl,_,rfl⟩)) (f9 (fo (.inr ⟨rfl,_,rfl⟩)) jg))) rfl rfl,?_⟩;have hE1:fn (put (put (put ρ1 "i" (.val (.int t.1))) "j" (.val (.int t.2.1))) "n" (.val (.int t.2.2))) "edit" (.own (ED.map .int)):=hn (hn (hn hE rfl) rfl) rfl;have hi1:fn (put (put (put ρ1 "i" (.val (.int t.1))) "j" (.val (.int t.2.1))) "n" (.val (.int t.2.2))) "i" (.val (.int t.1)):=by k_mem
  have hj1:fn (put (put (put ρ1 "i" (.val (.int t.1))) "j" (.val (.int t.2.1))) "n" (.val (.int t.2.2))) "j" (.val (.int t.2.1)):=by k_mem
  have hn1:fn (put (put (put ρ1 "i" (.val (.int t.1))) "j" (.val (.int t.2.1))) "n" (.val (.int t.2.2))) "n" (.val (.int t.2.2)):=by k_mem
  show iP X (k+2) _ (put (put (put ρ1 "i" (.val (.int t.1))) "j" (.val (.int t.2.1))) "n" (.val (.int t.2.2))) _ _;generalize put (put (put ρ1 "i" (.val (.int t.1))) "j" (.val (.int t.2.1))) "n" (.val (.int t.2.2))=ρ2 at hE1 hi1 hj1 hn1|-;refine fe (ip (items:=gO 0 1 t.2.2) (iq (i9 (n:=(t.2.2:Int)) F.df.range rfl (fc hn1) (fu 0xf111f1f10000000000992c32c1000000000099e37f021a0e800f hb hti)) (by rw[aq])) (fun d ρ=>fn ρ "i" (.val (.int t.1))/\fn ρ "j" (.val (.int t.2.1))/\fn ρ "edit" (.own ((l7 ED t d).map .int))) ⟨hi1,hj1,hE1⟩ ?_ ?_)
  ·rintro d x ρ3 hx ⟨hi,hj,hE⟩Q2 H2;have hd:d<t.2.2:=by have:=(List.getElem?_eq_some_iff.mp hx).1;rwa [fx]at this
   rw[hH hd]at hx;cases hx;rw[show(0:Int)+(d:Int)*1=(d:Int)by exact f5 0xf1f1f0c0c01f08a5ff];have hsl2:(l7 ED t d).length=bs.length:=by rw[lX];exact hE'
   refine⟨_,fo (.inl rfl),fe (vK (j:=t.2.1+d) (d:=.int ((t.1+d:Nat):Int)) (hn hE rfl) (fy (f7 (fc (hn hj rfl)) (fc hs)) (by congr 1)) (fy (f7 (fc (hn hi rfl)) (fc hs)) (by congr 1)) (by rw[aB];exact i8 0xf1111430a1f242131210a0f hti hd hsl2) (by rw[aB];exact fu 0xf8111120f02211388290e800f hb hsl hsl2) (fj (H2.next ⟨hn (hn hi rfl) rfl,hn (hn hj rfl) rfl,?_⟩)))⟩;rw[nv,List.map_set];exact hs
  ·rintro ρ3 ⟨_,_,hE⟩;rw[fx]at hE;exact fj (H1.next hE)
 ·intro ρ1 hE;rw[aB,d8]at hE;exact fe (lL hE rfl)
theorem w6(F:LG X){L f:Addr}{a b c:Value}{as bs:List Int}(ha:as.length<=14)(hb:bs.length<=14):iP X (k+2) (ot a b c L f) [("a",.val (iD as)),("b",.val (iD bs))] (fm CU) fun fl _=>fl=.ret (iD (Ey as bs)):=
 yN F ha hb fun ρ1 I1 hR=>yE F ha hb I1 hR fun ρ2 I2 hK=>xN F hb I2 hK (Au as bs)
end
theorem vQ{X:Cx}{k:Nat}(F:DF X){A:Around}{bad:Addr->Prop}{s:Shared}{x dx:Addr}{m:Str->Option Value}{N:Nat}{d:PyData}{vo:Value}(R:gG (k+6) A)(a:At X s)(hX:X.h₀.get? dx=none)(hb:¬bad dx)(low:∀a,bad a->∃o,s.heap.get? a=some o)(I:ir s.heap 242 x dx m N)(hop:m "opcodes"=some vo)(hvo:vo≠.none)(hh:handedIn vo=true)(ro:gF bad s.heap d vo):codeAny (model X.prog X.w) A (.call (.ref 210) ⟨[.ref x],[]⟩) (fun r s'=>∃v,r=.ok (.ret v)/\iF dx s s'/\gF bad s'.heap d v/\∃o',s'.heap.get? dx=some o'/\gr o' m N) s:=by
 obtain⟨cd,hC⟩:=F.cls
 refine gR I.nsb.aobj fun o ho hao=>?_
 obtain⟨_,_,z,D⟩:=F.codes
 have kb:=kg a hX
 have hx:(s.heap.hide dx).get? x=some (instObj 242 dx):=by rw[ax _ I.xne];exact I.obj
 refine au (jG (bad:=bad) (Dt:=fun d' v=>d'=d/\v=vo) (bs:=[.raw (.ref x)]) (P:=fun fl ρ'=>fl=.ret d/\∃o',fn ρ' "#d" (.at dx o')/\gr o' m N) D R a ho hao.noseq hX hb low ?dat (.cons (.raw _) .nil) rfl fun L=>?body) fun res s' h=>?post
 case dat=>rintro d' v ⟨rfl,rfl⟩;exact ro.hide ho hao.noseq
 case body=>refine fe (ju ?_);refine fe (gu (b:=true) (gd (kn (v:=vo) (gX (key:="#d") (m:=m) (N:=N) (by k_mem) ⟨hx,.inl ⟨o,by k_mem,hao⟩⟩ hC (F.own "opcodes" (by decide)).1 hop hh) jH) (by cases vo<;>first|exact absurd rfl hvo|rfl)) (fun _=>?_) fun e=>by cases e);exact fe (jb (lg (gX (key:="#d") (m:=m) (N:=N) (by k_mem) ⟨hx,.inl ⟨o,by k_mem,hao⟩⟩ hC (F.own "opcodes" (by decide)).1 hop hh) ⟨rfl,rfl⟩) ⟨⟨rfl,o,by k_mem,hao⟩,⟨o,by k_mem⟩,.inr ⟨_,rfl⟩⟩)
 case post=>refine Cy h ?_;rintro v fl ρ' O' L rfl⟨rfl,o',h1,h2⟩rv kp r';exact⟨v,rfl,kp,rv,o',(r'.pt _ _ _ h1).2,h2⟩
section
variable{X:Cx}{k:Nat}{env:Env}{ρ:List (Str×B)}{Q:Fl->List (Str×B)->Prop}
theorem tU{l r:Expr}{pos:Pos}{a:Addr}(hl:qQ X k env ρ l (.ref a))(hr:qQ X k env ρ r (.ref a))(hm:autoParam (behindInMarks .Is r=false) aW):mM X k env ρ (.Compare l [.Is] [r] pos) true:=fun A bad O s R q=>
 bY (hl.use R q fun s1 x1 r1=>hr.use R r1 fun s2 x2 r2=>wpAny_is_ref_self (bV ⟨x1.trans x2,rfl⟩)) hm
theorem mW{pos:Pos}(hq:Q (.ret .none) ρ):jz X k env ρ (.Return none pos) Q:=fun A bad O s R r=>
 wpAny_Return_none ⟨.ret .none,ρ,O,hq,⟨_,rfl,.none⟩,f8.refl _ _ _,r⟩
end
theorem xE{X:Cx}{k:Nat}(F:DF X){A:Around}{s:Shared}{x dx:Addr}{m:Str->Option Value}{N:Nat}{l:Addr}(R:gG (k+1) A)(a:At X s)(I:ir s.heap 242 x dx m N)(hX:X.h₀.get? dx=none)(hm:m "a"=some (.ref l)):codeAny (model X.prog X.w) A (.call (.ref 174) ⟨[.ref x,.ref l],[]⟩) (fun r s'=>r=.ok (.ret .none)/\iF dx s s'/\ir s'.heap 242 x dx m N) s:=by
 obtain⟨cd,hC⟩:=F.cls
 refine gR I.nsb.aobj fun o ho hao=>?_
 obtain⟨_,_,z,D⟩:=F.seq1
 have hx:(s.heap.hide dx).get? x=some (instObj 242 dx):=by rw[ax _ I.xne];exact I.obj
 refine au (jG (bad:=fun _=>False) (Dt:=fun _ _=>False) (bs:=[.raw (.ref x),.raw (.ref l)]) (P:=fun fl ρ'=>fl=.ret .none/\∃o',fn ρ' "#d" (.at dx o')/\gr o' m N) D R a ho hao.noseq hX (fun h=>h) m7 (fun _ _ e=>e.elim) (.cons (.raw _) (.cons (.raw _) .nil)) rfl fun L=>?_) fun r s' h=>?_
 ·refine fe (ju ?_);refine fe (gu (b:=true) (tU (gN (by k_mem)) (gX (key:="#d") (m:=m) (N:=N) (by k_mem) ⟨hx,.inl ⟨o,by k_mem,hao⟩⟩ hC (F.own "a" (by decide)).1 hm)) (fun _=>?_) fun e=>by cases e);exact fe (mW ⟨⟨rfl,o,by k_mem,hao⟩,⟨o,by k_mem⟩,.inr ⟨_,rfl⟩⟩)
 ·refine Cy h ?_;rintro v fl ρ' O' L rfl⟨rfl,o',ho',ha'⟩hv kb r';cases hv;exact⟨rfl,kb,kb.keep _ _ I.xne I.obj,ha'.nsb (r'.pt _ _ _ ho').2⟩
theorem xd{X:Cx}{k:Nat}(F:DF X){A:Around}{s:Shared}{x dx:Addr}{m:Str->Option Value}{N:Nat}{l:Addr}(R:gG (k+1) A)(a:At X s)(I:ir s.heap 242 x dx m N)(hX:X.h₀.get? dx=none)(hm:m "b"=some (.ref l)):codeAny (model X.prog X.w) A (.call (.ref 181) ⟨[.ref x,.ref l],[]⟩) (fun r s'=>r=.ok (.ret .none)/\iF dx s s'/\ir s'.heap 242 x dx m N) s:=by
 obtain⟨cd,hC⟩:=F.cls
 refine gR I.nsb.aobj fun o ho hao=>?_
 obtain⟨_,_,z,D⟩:=F.seq2
 have hx:(s.heap.hide dx).get? x=some (instObj 242 dx):=by rw[ax _ I.xne];exact I.obj
 refine au (jG (bad:=fun _=>False) (Dt:=fun _ _=>False) (bs:=[.raw (.ref x),.raw (.ref l)]) (P:=fun fl ρ'=>fl=.ret .none/\∃o',fn ρ' "#d" (.at dx o')/\gr o' m N) D R a ho hao.noseq hX (fun h=>h) m7 (fun _ _ e=>e.elim) (.cons (.raw _) (.cons (.raw _) .nil)) rfl fun L=>?_) fun r s' h=>?_
 ·refine fe (ju ?_);refine fe (gu (b:=true) (tU (gN (by k_mem)) (gX (key:="#d") (m:=m) (N:=N) (by k_mem) ⟨hx,.inl ⟨o,by k_mem,hao⟩⟩ hC (F.own "b" (by decide)).1 hm)) (fun _=>?_) fun e=>by cases e);exact fe (mW ⟨⟨rfl,o,by k_mem,hao⟩,⟨o,by k_mem⟩,.inr ⟨_,rfl⟩⟩)
 ·refine Cy h ?_;rintro v fl ρ' O' L rfl⟨rfl,o',ho',ha'⟩hv kb r';cases hv;exact⟨rfl,kb,kb.keep _ _ I.xne I.obj,ha'.nsb (r'.pt _ _ _ ho').2⟩
section
variable{X:Cx}{k:Nat}{env:Env}{ρ:List (Str×B)}{P:SP}{Q:Fl->List (Str×B)->SP}
theorem rT.from{bad:Addr->Prop}{O O':Str->Option Addr}{s s' s'':Shared}{fl:Flow}(a:f8 env O O' s s')(p:rT X env bad O' s' Q fl s''):rT X env bad O s Q fl s'':=
 qY p fun f ρ' O'' q i b r=>⟨f,ρ',O'',q,i,a.trans b,r⟩
theorem zD(h:∀bad O s,P bad O s->Q .next ρ bad O s):l6 X k env ρ P [] Q:=fun A bad O s R r p=>cf ⟨.next,ρ,O,h _ _ _ p,rfl,f8.refl _ _ _,r⟩
def Fa(X:Cx)(k:Nat)(env:Env)(ss:List Stmt)(Q:Fl->List (Str×B)->SP)(f:Fl)(ρ':List (Str×B)):SP:=fun bad O s=>match f with
 |.next=>∃P',l6 X k env ρ' P' ss Q/\P' bad O s
 |f=>Q f ρ' bad O s
theorem jY{st:Stmt}{ss:List Stmt}(h:sh X k env ρ P st (Fa X k env ss Q)):l6 X k env ρ P (st::ss) Q:=fun A bad O s R r p=>
 cP (aF (h A bad O s R r p) (fun fl s' h'=>by obtain⟨f,ρ',O',q,i,b,r'⟩:=h';cases f with|next=>cases i;obtain⟨P',hP,p'⟩:=q;exact aF (hP A bad O' s' R r' p') (fun _ _ h=>h.from b) fun _ _ x=>x|brk=>cases i;exact⟨.brk,ρ',O',q,rfl,b,r'⟩|cont=>cases i;exact⟨.cont,ρ',O',q,rfl,b,r'⟩|ret d=>obtain⟨v,rfl,rv⟩:=i;exact⟨.ret d,ρ',O',q,⟨v,rfl,rv⟩,b,r'⟩) fun _ _ x=>x)
theorem BH{st:Stmt}{Q0:Fl->List (Str×B)->Prop}(h:jz X k env ρ st Q0)(hP:n9 X env P)(hQ:∀f ρ',Q0 f ρ'->∀bad O s,P bad O s->Q f ρ' bad O s):sh X k env ρ P st Q:=fun A bad O s R r p=>
 aF (h A bad O s R r) (fun fl s' h'=>by obtain⟨f,ρ',O',q,i,b,r'⟩:=h';exact⟨f,ρ',O',hQ f ρ' q bad O' s' (hP _ _ _ _ _ _ r b p),i,b,r'⟩) fun _ _ x=>x
theorem CC{ss:List Stmt}{Q0:Fl->List (Str×B)->Prop}(h:iP X k env ρ ss Q0):l6 X k env ρ P ss fun f ρ' _ _ _=>Q0 f ρ':=fun A bad O s R r _=>h A bad O s R r
theorem A3{ss:List Stmt}{Q0:Fl->List (Str×B)->Prop}(h:l6 X k env ρ (fun _ _ _=>True) ss fun f ρ' _ _ _=>Q0 f ρ'):iP X k env ρ ss Q0:=fun A bad O s R r=>h A bad O s R r trivial
theorem rU{φ:Prop}{ss:List Stmt}(h:∀bad O s,P bad O s->φ)(h2:φ->l6 X k env ρ P ss Q):l6 X k env ρ P ss Q:=fun A bad O s R r p=>h2 (h _ _ _ p) A bad O s R r p
theorem As{α:Type}{P':α->SP}{ss:List Stmt}(h:∀bad O s,P bad O s->∃a,P' a bad O s)(h2:∀a,l6 X k env ρ (P' a) ss Q):l6 X k env ρ P ss Q:=fun A bad O s R r p=>(h _ _ _ p).elim fun a pa=>h2 a A bad O s R r pa
theorem l6.pre{ss:List Stmt}{P':SP}(h:l6 X k env ρ P ss Q)(hp:∀bad O s,P' bad O s->P bad O s):l6 X k env ρ P' ss Q:=fun A bad O s R r p=>h A bad O s R r (hp _ _ _ p)
theorem iJ.stable{W:Addr->Prop}:n9 X env fun _ O s=>iJ env W O s:=fun bad O O' s s' ρ r st h b w=>by
 refine yQ (h b w) fun o ho hn hp hO=>?_
 refine⟨o,st.keep b o hp hO ho,hn,hp,fun x q=>?_⟩
 rcases st.new x b q with⟨y,hy⟩|n
 ·exact hO y hy
 ·rw[ho]at n;cases n
theorem BW{target iter:Expr}{body:List Stmt}{pos:Pos}{items:List PyData}(hit:yh X k env ρ iter items)(J:Nat->List (Str×B)->(Addr->Prop)->SP)(h0:∀W bad O s s2,gQ s s2->(∀b,W b->s.heap.get? b=none)->P bad O s->J 0 ρ W bad O s2)(hst:∀i ρ W,n9 X env (J i ρ W))(hdr:∀i ρ W bad O s h' tk,J i ρ W bad O s->(∀b o,¬W b->s.heap.get? b=some o->h'.get? b=some o)->J i ρ W bad O {s with heap:=h',toks:=tk}) (turn:∀i d ρ' W,items[i]?=some d->(∃bad O s,J i ρ' W bad O s)->∃ρ₁,sk X k env ρ' target d ρ₁/\l6 X k env ρ₁ (fun bad O s=>J i ρ' W bad O s/\iJ env W O s) body (CR (fun ρ=>J (i+1) ρ W) Q)) (hend:∀ρ' W bad O s,J items.length ρ' W bad O s->Q .next ρ' bad O s) (hs:autoParam (∀x,foldedSetIterable iter env x=pure x) aI):sh X k env ρ P (.For target iter body [] pos) Q:=fun A bad O s R r p=>
 wpAny_For (aF (hit A bad O s R r) (fun v s1 h1=>aF h1 (fun it s2 h2=>by obtain⟨x2,I,fp,wr,P',St,rfl,T,Tap⟩:=h2;exact rH R r x2 (T.dr Tap) J (fun W hW=>h0 W bad O s s2 x2 hW p) hst hdr turn hend) fun _ _ x=>x) fun _ _ x=>x) hs
end
noncomputable abbrev gB(as bs:List Int):PyData:=.list (lD as.length bs.length 0 0 (ro (mm as bs) (iR as bs)))
structure D4(env:Env)(W:Addr->Prop)(hm:Heap)(O:Str->Option Addr)(s:Shared):Prop where
 keep:∀b o,hm.get? b=some o->s.heap.get? b=some o
 np:∀b o,hm.get? b=some o->¬g6 env b
 no:∀b o,hm.get? b=some o->∀x,O x≠some b
 nw:∀b o,hm.get? b=some o->¬W b
theorem D4.step{env:Env}{W:Addr->Prop}{hm:Heap}{O O':Str->Option Addr}{s s':Shared}(h:D4 env W hm O s)(st:f8 env O O' s s'):D4 env W hm O' s' where
 keep:=fun b o e=>st.keep b o (h.np b o e) (h.no b o e) (h.keep b o e)
 np:=h.np
 no:=fun b o e x q=>by
  rcases st.new x b q with⟨y,hy⟩|n;·exact h.no b o e y hy
  ·rw[h.keep b o e]at n;cases n
 nw:=h.nw
structure MP(X:Cx)(hm:Heap)(x dx:Addr)(m:Str->Option Value)(va vb:Value)(as bs:List Int)(bad:Addr->Prop):Prop where
 mat:uG X hm x dx m va vb as bs
 isj:m "isjunk"=some .none
 aj:m "autojunk"=some (.bool false)
 n1:m "_SequenceMatcher__chain_b"=none
 n2:m "set_seq1"=none
 n3:m "set_seq2"=none
 ra:gF bad hm (.list (as.map .int)) va
 rb:gF bad hm (.list (bs.map .int)) vb
 st:(m "matching_blocks"=some .none/\m "opcodes"=some .none)\/∃vo,m "opcodes"=some vo/\vo≠.none/\handedIn vo=true/\gF bad hm (gB as bs) vo
noncomputable def q0(m:Str->Option Value)(l:List (Str×Value)):Str->Option Value:=l.foldl (fun m p=>ja m p.1 p.2) m
theorem iv{n:Str}:∀(l:List (Str×Value)) {m:Str->Option Value},(l.all fun p=>j6 n p.1)=true->q0 m l n=m n
 |[],_,_=>rfl
 |p::l,m,h=>by have h:=Bool.and_eq_true_iff.mp h;refine(iv l h.2).trans ?_;exact aL (by simpa[j6]using h.1)
noncomputable def Ee:List Str:=["find_longest_match","get_matching_blocks","get_opcodes","isjunk","autojunk","_SequenceMatcher__chain_b","set_seq1","set_seq2"]
theorem MP.put{X:Cx}{hm hm':Heap}{x dx:Addr}{m:Str->Option Value}{va vb va' vb':Value}{as bs as' bs':List Int}{bad:Addr->Prop}(M:MP X hm x dx m va vb as bs bad)(l:List (Str×Value))(hl:(Ee.all fun n=>l.all fun p=>j6 n p.1)=true)(sub:∀b ob,hm.get? b=some ob->hm'.get? b=some ob)(a:q0 m l "a"=some va')(ha:handedIn va'=true)(b:q0 m l "b"=some vb')(hb:handedIn vb'=true)(rest:∃d js led,q0 m l "b2j"=some (.ref d)/\q0 m l "bjunk"=some (.ref js)/\hm'.get? js=some {cls:=.type "set",dict:=.none,data:=.set #[] 0 (.fresh 0 0 led)}/\jS X hm' bs' d) (ra:gF bad hm' (.list (as'.map .int)) va') (rb:gF bad hm' (.list (bs'.map .int)) vb') (st:(q0 m l "matching_blocks"=some .none/\q0 m l "opcodes"=some .none)\/∃vo,q0 m l "opcodes"=some vo/\vo≠.none/\handedIn vo=true/\gF bad hm' (gB as' bs') vo):MP X hm' x dx (q0 m l) va' vb' as' bs' bad:=by
 have f:∀n∈Ee,q0 m l n=m n:=fun n hn=>iv l (List.all_eq_true.mp hl n hn)
 exact⟨⟨sub _ _ M.mat.obj,a,ha,b,hb,fun n hn=>(f n (cE _ hn)).trans (M.mat.free n hn),rest⟩,(f _ (by decide)).trans M.isj,(f _ (by decide)).trans M.aj,(f _ (by decide)).trans M.n1,(f _ (by decide)).trans M.n2,(f _ (by decide)).trans M.n3,ra,rb,st⟩
def mO(X:Cx)(env:Env)(x dx:Addr)(m:Str->Option Value)(as bs:List Int)(W:Addr->Prop):SP:=fun bad O s=>∃hm va vb,D4 env W hm O s/\MP X hm x dx m va vb as bs bad/\hm.get? dx=none
theorem mO.stable{X:Cx}{env:Env}{x dx:Addr}{m:Str->Option Value}{as bs:List Int}{W:Addr->Prop}:n9 X env (mO X env x dx m as bs W):=fun bad O O' s s' ρ r st ⟨hm,va,vb,S,M⟩=>⟨hm,va,vb,S.step st,M⟩
theorem mO.draw{X:Cx}{env:Env}{x dx:Addr}{m:Str->Option Value}{as bs:List Int}{W:Addr->Prop}{bad:Addr->Prop}{O:Str->Option Addr}{s:Shared}{h':Heap}{tk:Nat}(h:mO X env x dx m as bs W bad O s)(k:∀b o,¬W b->s.heap.get? b=some o->h'.get? b=some o):mO X env x dx m as bs W bad O {s with heap:=h',toks:=tk}:=
 Cf h fun hm va vb S M=>⟨hm,va,vb,⟨fun b o e=>k b o (S.nw b o e) (S.keep b o e),S.np,S.no,S.nw⟩,M⟩
section
variable{X:Cx}{k:Nat}{env:Env}{ρ:List (Str×B)}{P:SP}
theorem ty{C x dx f:Addr}{cd:ClassData}{m:Str->Option Value}{N:Nat}{y name:Str}{yp apos pos:Pos}{pl:Sem Bool}{e:Expr}{es:List Expr}{o:Obj}{fd:FuncData}{A:Around}{bad:Addr->Prop}{O:Str->Option Addr}{s:Shared}{P:Value->Shared->Prop}{Pa:List Value->Shared->Prop}(R:gG k A)(r:gE X bad O env ρ s)(hy:ρ.lookup y=some (.raw (.ref x)))(I:ir s.heap C x dx m N)(hC:lU X.K C cd)(hf:findIn X.K (.ref C) name=some (some (.ref f)))(ht:typeIn X.K (.ref f)=some (.type "function"))(hm:m name=none)(ho:X.h₀.get? f=some o)(hdat:o.data=.func fd)(ha:wpAny (model X.prog X.w) A (spliced (backTo pos (starEach (e::es) env))) (fun vs s'=>gQ s s'/\Pa vs s') g8 s)(h:∀vs s',gQ s s'->gE X bad O env ρ s'->Pa vs s'->wpAny (model X.prog X.w) A (call (.ref f) (.ref x::vs)) P g8 s')(he:autoParam (eval (.Call (.Attribute (.Name y yp) name apos) (e::es) [] pos) env=(do
   let ov<-eval (.Name y yp) env
   standAt apos.atName let(f,first)<-holding [ov] (getMethod ov name pl)callWith pos f first (backTo pos (starEach (e::es) env)) [])) aR)(hst:autoParam (starEach (e::es) env=(false,eval e env)::starEach es env) aR)(hd:autoParam ((y==("__debug__":Str))=false) aD):wpAny (model X.prog X.w) A (eval (.Call (.Attribute (.Name y yp) name apos) (e::es) [] pos) env) P g8 s:=by
 refine MethodCall_ (bW (Lk.load r.ok.kind (r.raw y _ hy) ?_) hd) he
 refine jm (r.wf.kin.keeps r.base) I hC hf ht hm ?_
 refine cG (o:=o) (fd:=fd) ?_
 rw[hst]at ha|-
 refine cW (aF ha (fun vs s1 q=>?_) fun _ _ x=>x)
 have r1:=r.ext q.1
 exact⟨⟨r1.base _ _ ho,hdat⟩,h vs s1 q.1 r1 q.2⟩
theorem xX{C x dx f:Addr}{cd:ClassData}{m:Str->Option Value}{N:Nat}{y name:Str}{yp apos pos:Pos}{pl:Sem Bool}{o:Obj}{fd:FuncData}{A:Around}{bad:Addr->Prop}{O:Str->Option Addr}{s:Shared}{P:Value->Shared->Prop}(R:gG k A)(r:gE X bad O env ρ s)(hy:ρ.lookup y=some (.raw (.ref x)))(I:ir s.heap C x dx m N)(hC:lU X.K C cd)(hf:findIn X.K (.ref C) name=some (some (.ref f)))(ht:typeIn X.K (.ref f)=some (.type "function"))(hm:m name=none)(ho:X.h₀.get? f=some o)(hdat:o.data=.func fd)(h:wpAny (model X.prog X.w) A (call (.ref f) [.ref x]) P g8 s)(he:autoParam (eval (.Call (.Attribute (.Name y yp) name apos) [] [] pos) env=(do
   let ov<-eval (.Name y yp) env
   standAt apos.atName let(f,first)<-holding [ov] (getMethod ov name pl)callWith pos f first (backTo pos (starEach [] env)) [])) aR)(hd:autoParam ((y==("__debug__":Str))=false) aD):wpAny (model X.prog X.w) A (eval (.Call (.Attribute (.Name y yp) name apos) [] [] pos) env) P g8 s:=by
 refine MethodCall_ (bW (Lk.load r.ok.kind (r.raw y _ hy) ?_) hd) he
 refine jm (r.wf.kin.keeps r.base) I hC hf ht hm ?_
 refine cG (o:=o) (fd:=fd) ?_
 exact aC (a:=(⟨[],[]⟩:Args)) ⟨⟨r.base _ _ ho,hdat⟩,h⟩
theorem mO.inst{x dx:Addr}{m:Str->Option Value}{as bs:List Int}{W:Addr->Prop}{bad:Addr->Prop}{O:Str->Option Addr}{s:Shared}{o:Obj}{N:Nat}(h:mO X env x dx m as bs W bad O s)(r:gE X bad O env ρ s)(hd:fn ρ "#d" (.at dx o))(ha:gr o m N):ir s.heap 242 x dx m N:=
 Cf h fun hm va vb S M=>⟨S.keep _ _ M.1.mat.obj,ha.nsb (r.pt _ _ _ hd).2⟩
theorem wn{bad bad':Addr->Prop}{h:Heap}{as as':List Int}{v:Value}(q:gF bad h (.list (as.map .int)) v)(q':gF bad' h (.list (as'.map .int)) v):as=as':=by
 refine jq q.isList ?_;rintro l vs rfl hl hr
 refine q'.listE (P:=fun v=>v=.ref l->as=as') (fun a ws n _ g qs e=>?_) rfl
 cases e
 obtain⟨n',ho⟩:=hl
 have e2:=g.symm.trans ho
 cases e2
 have h1:=hr.ints
 have h2:=qs.ints
 rw[<-i6 h1,<-i6 h2]
end
section
variable{t:Nat->List Int}
theorem vA(t:Nat->List Int)(k:Nat):∃l:List Tc,gB (t k) (t (k+1))=dD l/\l.map (·.2)=ou t k/\∀p∈l,tK p:=by
 refine qe (Aa (la:=(t k).length) (lb:=(t (k+1)).length) (mZ (t k) (t (k+1))) 0 0) fun l h1 h2 h3=>?_
 exact⟨l,congrArg PyData.list h1,h2.symm,h3⟩
noncomputable def EN(t:Nat->List Int)(k:Nat):List Tc:=Classical.choose (vA t k)
noncomputable def li(t:Nat->List Int)(n:Nat):List (List Tc):=(List.range n).map (EN t)
theorem Cw(t:Nat->List Int)(n:Nat):tf t n (li t n):=by
 refine⟨by delta li;rw[aB,bB],fun k l h=>?_⟩
 unfold li at h
 rw[aS]at h
 refine gR (Option.map_eq_some_iff.mp h) ?_;rintro k' h1 rfl
 obtain⟨hk,rfl⟩:=List.getElem?_eq_some_iff.mp h1
 rw[List.getElem_range]
 refine qd (Classical.choose_spec (vA t k)) fun _ h2 h3=>?_
 exact⟨h3,h2⟩
theorem pB(t:Nat->List Int)(n:Nat):(li t n).map dD=(List.range n).map fun k=>gB (t k) (t (k+1)):=by
 delta li
 rw[cK]
 exact List.map_congr_left fun k _=>(Classical.choose_spec (vA t k)).1.symm
theorem jL(t:Nat->List Int)(n:Nat):((li t n).map dD).length=n:=by rw[pB,aB,bB]
theorem CM{t:Nat->List Int}{n k:Nat}(h:k<n):((li t n).map dD)[k]?=some (gB (t k) (t (k+1))):=by
 rw[pB,aS,ck h];rfl
theorem iO(as bs:List Int):SeqAt.shaped (gB as bs)=true:=vT _ _ _ _ _
theorem xx{A B A' B':List Int}(la:A.length=A'.length)(lb:B.length=B'.length)(h:mZ A B=mZ A' B'):gB A B=gB A' B':=by
 show PyData.list (lD A.length B.length 0 0 (mZ A B))=.list (lD A'.length B'.length 0 0 (mZ A' B'))
 rw[la,lb,h]
theorem yd{A B:List Int}(h:A.length<=14):(ro (mm A B) (iR A B)).length<64:=by
 have:=(nF A B).1;exact fk 0xf111400911f010e800f h this
theorem jI{n x y:Nat}:Kn (mU 0 n) (mU 0 n) x y↔x=y/\x<n:=by
 have g:∀{x:Nat}{v:Int},(mU 0 n)[x]?=some v->v=(x:Int)/\x<n:=fun{x v}h=>by have hx:=(List.getElem?_eq_some_iff.mp h).1;rw[gf]at hx;rw[jx hx,d7]at h;exact⟨(Option.some.inj h).symm,hx⟩
 constructor
 ·rintro⟨v,h1,h2⟩;obtain⟨rfl,h3⟩:=g h1;obtain⟨h4,h5⟩:=g h2;exact⟨by exact fk 0xf11f81f102f1c0c5f h4,h3⟩
 ·rintro⟨rfl,h⟩;exact⟨_,jx h,jx h⟩
theorem rR{n:Nat}:jv (Kn (mU 0 n) (mU 0 n)):=fun x y x' y' h h'=>by
 obtain⟨rfl,_⟩:=jI.mp h
 obtain⟨rfl,_⟩:=jI.mp h'
 exact Iff.rfl
theorem yL{n:Nat}:nC (mU 0 n) (mU 0 n)=mU 0 n:=by
 apply fS
 intro y
 by_cases h:y<n
 ·have:=(l8 (nx:=mU 0 n) (ny:=mU 0 n) (rR (n:=n)) (x:=y) (y:=y)).mpr (jI.mpr ⟨rfl,h⟩);rw[this,jx h,d7]
 ·rw[cy (by rw[td,gf];exact fk 0xf11010f1016f h),cy (by rw[gf];exact fk 0xf11010f1016f h)]
theorem xi(T:List Int):gJ (mU 0 T.length) 0 (mZ T T):=by
 have h:=yA (X:=T) (Y:=T) (nx:=mU 0 T.length) (ny:=mU 0 T.length) (gf _ _).symm (gf _ _).symm (fun x y h=>by obtain⟨rfl,hx⟩:=jI.mp h;exact i4.mpr ⟨T[x],aK hx,aK hx⟩) rR (fun x y h=>by refine gR (i4.mp h) fun v h1 h2=>?_;exact⟨⟨x,jI.mpr ⟨rfl,(List.getElem?_eq_some_iff.mp h1).1⟩⟩,⟨y,jI.mpr ⟨rfl,(List.getElem?_eq_some_iff.mp h2).1⟩⟩⟩) (fun x y z h h'=>by obtain⟨rfl,_⟩:=jI.mp h;exact(jI.mp h').1.symm) (fun x y z h h'=>by obtain⟨rfl,_⟩:=jI.mp h;exact(jI.mp h').1)
 rw[yL]at h
 exact h
theorem xL(T:List Int):gJ [] 0 (mZ T []):=by
 have h:=(nF T []).2
 have e:mZ T []=[]:=dY (Nat.le_zero.mp h)
 rw[e]
 exact fun t _ ht=>absurd ht (ew _)
structure Tx(t:Nat->List Int)(n:Nat):Prop where
 short:mS t
 lets:∀k,∀v∈t k,v=1\/v=2
 len:n<=30
theorem Tx.ltr{n:Nat}(h:Tx t n)(m:Nat):sX t m (t m):=⟨rfl,fun x x' v e e'=>by rw[e,e']⟩
theorem Tx.below{n:Nat}(h:Tx t n)(m:Nat):jR (t m) 100:=fun x v e=>by
 have:=h.lets m v (ay e);exact iz [] [_] 0xf18f18f6409c04f280518058f this
theorem Tx.true1{n:Nat}(m:Nat):jf t m (t m):=fun x v e _=>e
structure EK(t:Nat->List Int)(n:Nat)(V:List (List Int)):Prop where
 len:V.length=n+1
 adj:∀k A B,k<n->V[k]?=some A->V[k+1]?=some B->vJ t k A B
noncomputable def ie(t:Nat->List Int)(row:List Int)(m n:Nat):List (List Int):=(List.range (n+1)).map fun q=>gq t row m q
theorem pA{row:List Int}{m n k:Nat}(h:k<=n):(ie t row m n)[k]?=some (gq t row m k):=by
 delta ie
 rw[aS,ck (eX h)];rfl
theorem lZ{row:List Int}{m n:Nat}:(ie t row m n).length=n+1:=by delta ie;rw[aB,bB]
theorem Bk(hs:mS t){row:List Int}{m n:Nat}(L:sX t m row)(hb:jR row 100):EK t n (ie t row m n):=by
 refine⟨lZ,fun k A B hk hA hB=>?_⟩
 rw[pA (by lia)]at hA hB
 cases hA;cases hB
 exact l9 hs L hb k
theorem wd{α β γ:Type}{f:α×β->γ}{V:List α}{W:List β}{k:Nat}{a:α}{b:β}(h:V[k]?=some a)(h':W[k]?=some b):((V.zip W).map f)[k]?=some (f (a,b)):=by
 rw[aS,(List.getElem?_zip_eq_some (z:=(a,b))).mpr ⟨h,h'⟩];rfl
noncomputable def kG(t:Nat->List Int)(n:Nat):List (List Int):=((ie t (t 0) 0 n).zip (ie t (t n) n n)).map fun p=>(p.1.zip p.2).map fC
theorem Ay{n:Nat}(H:Tx t n):EK t n (kG t n):=by
 refine⟨by delta kG;rw[aB,dh,lZ,lZ,Nat.min_self],fun k A B hk hA hB=>?_⟩
 unfold kG at hA hB
 rw[wd (pA (by lia)) (pA (by lia))]at hA hB
 cases hA;cases hB
 exact vJ.comb (l9 H.short (H.ltr 0) (H.below 0) k) (l9 H.short (H.ltr n) (H.below n) k) (mL H.short (H.ltr 0) (H.below 0) (Tx.true1 (n:=n) 0) k) (mL H.short (H.ltr 0) (H.below 0) (Tx.true1 (n:=n) 0) (k+1)) (mL H.short (H.ltr n) (H.below n) (Tx.true1 (n:=n) n) k) (mL H.short (H.ltr n) (H.below n) (Tx.true1 (n:=n) n) (k+1))
noncomputable abbrev CY(t:Nat->List Int):List Int:=mU 0 (t 0).length
theorem uE(x y:Nat)(v:Int)(h:(CY t)[x]?=some v)(h':(CY t)[y]?=some v):x=y:=(jI.mp ⟨v,h,h'⟩).1
theorem mF{n:Nat}(H:Tx t n):jR (CY t) 100:=fun x v h=>by
 have hx:=(List.getElem?_eq_some_iff.mp h).1
 rw[gf]at hx
 rw[jx hx]at h
 have:=H.short 0
 cases h
 exact fk 0xf1116409c008ac4fe810101f hx this
theorem nW:sX t 0 (CY t):=⟨gf _ _,fun x y v h h'=>by rw[uE x y v h h']⟩
noncomputable def iL(t:Nat->List Int)(n:Nat):List (List Int):=ie t (CY t) 0 n
noncomputable def mB(t:Nat->List Int)(n:Nat):List (List Int):=(((List.range (n+1)).map t).zip (iL t n)).map fun p=>(p.1.zip p.2).map fN
theorem AC{n:Nat}(H:Tx t n):EK t n (mB t n):=by
 have ht:∀{k:Nat},k<=n->((List.range (n+1)).map t)[k]?=some (t k):=fun{k}h=>by rw[aS,ck (eX h)];rfl
 refine⟨by delta mB iL;rw[aB,dh,aB,bB,lZ,Nat.min_self],fun k A B hk hA hB=>?_⟩
 unfold mB iL at hA hB
 rw[wd (ht (by lia)) (pA (by lia))]at hA hB
 cases hA;cases hB
 exact xz (l9 H.short nW (mF H) k) (H.lets _) (H.lets _)
theorem ua{n:Nat}(H:Tx t n){A B:List Int}(hA:A∈iL t n)(hB:B∈iL t n):gJ (nC A B) 0 (mZ A B)/\A.length<=14/\B.length<=14:=by
 refine gR (List.mem_map.mp hA) ?_;rintro j _ rfl
 refine gR (List.mem_map.mp hB) ?_;rintro k _ rfl
 have e:∀q,gq t (CY t) 0 q=fw t (CY t) 0 q:=fun q=>by have:=nZ t (CY t) 0 q;rwa [d7]at this
 refine⟨?_,?_,?_⟩
 ·simp only[e];exact vM H.short (gf _ _) uE (mF H) j k
 ·have:=H.short j;rw[nD H.short nW (mF H) j];exact this
 ·have:=H.short k;rw[nD H.short nW (mF H) k];exact this
noncomputable def EC(TS:List (List Int))(k:Nat):List Int:=TS.getD k []
theorem Bc{TS:List (List Int)}{n:Nat}(h:TS.length=n+1):TS=(List.range (n+1)).map (EC TS):=by
 apply fS
 intro k
 by_cases hk:k<n+1
 ·rw[aS,ck hk];show _=some (TS.getD k []);rw[a8,aK (by exact fu 0xf111021f181a21181a02f h hk)];rfl
 ·rw[cy (by exact fu 0xf181200f181a216181a02f h hk),cy (by rw[aB,bB];exact fk 0xf110181a0f181a016f hk)]
theorem EU{TS:List (List Int)}{n:Nat}(h:∀T∈TS,B4 T)(hn:n<=30):Tx (EC TS) n:=by
 have:∀k,B4 (EC TS k):=fun k=>by delta EC;rw[a8];cases e:TS[k]? with|none=>exact⟨aV _,fun v hv=>by cases hv⟩|some T=>exact h T (ay e)
 exact⟨fun k=>(this k).len,fun k=>(this k).let',hn⟩
end
theorem rY{bad:Addr->Prop}{h:Heap}:∀{ns:List Int}{vs:List Value},IntsAre vs ns->RepL bad h (ns.map .int) vs
 |_,_,.nil=>.nil
 |_,_,.cons n t hs=>.cons (.int _ _) (rY hs)
theorem lE{bad bad':Addr->Prop}{h h':Heap}{ns:List Int}{l:Addr}(q:gF bad h (.list (ns.map .int)) (.ref l))(hb:¬bad' l)(k:∀o,h.get? l=some o->h'.get? l=some o):gF bad' h' (.list (ns.map .int)) (.ref l):=by
 refine q.listE (P:=fun v=>v=.ref l->gF bad' h' (.list (ns.map .int)) v) (fun a ws n _ g qs e=>?_) rfl
 cases e
 exact .list hb (k _ g) (rY qs.ints)
section
variable{X:Cx}{k:Nat}{env:Env}{ρ:List (Str×B)}{Q:Fl->List (Str×B)->SP}
theorem iJ.no{W:Addr->Prop}{O:Str->Option Addr}{s:Shared}(h:iJ env W O s){l:Addr}{o:Obj}{vs:Array Value}{n:Nat}{s1:Shared}(x:gQ s s1)(g:s1.heap.get? l=some o)(ed:o.data=.seq vs n):¬W l:=fun w=>by
 refine qe (h l w) fun o' ho hn _=>?_
 rw[x.keep _ _ ho]at g;cases g
 exact hn _ _ ed
theorem zB(F:DF X){x dx:Addr}{m:Str->Option Value}{N:Nat}{o:Obj}{as bs as':List Int}{W:Addr->Prop}{y:Str}{yp apos cpos pos:Pos}{pl:Sem Bool}{e:Expr}(hy:fn ρ y (.raw (.ref x)))(hd:fn ρ "#d" (.at dx o))(hao:gr o m N)(hN:N+3<1000)(he:Ev X (k+1) env ρ e (.list (as'.map .int)))(hq:∀o' m' N',N'<=N+3->gr o' m' N'->∀bad O s,mO X env x dx m' as' bs W bad O s->iJ env W O s->Q .next (put ρ "#d" (.at dx o')) bad O s)(hev:autoParam (eval (.Call (.Attribute (.Name y yp) "set_seq1" apos) [e] [] cpos) env=(do
   let ov<-eval (.Name y yp) env
   standAt apos.atName let(f,first)<-holding [ov] (getMethod ov "set_seq1" pl)callWith cpos f first (backTo cpos (starEach [e] env)) [])) aR)(hst:autoParam (starEach [e] env=[(false,eval e env)]) aR)(hdb:autoParam ((y==("__debug__":Str))=false) aD)(hi:autoParam (interactive env=false) aR)(hs:autoParam (swapsWith (.Call (.Attribute (.Name y yp) "set_seq1" apos) [e] [] cpos) none pos.line env=pure false) aR):sh X (k+1) env ρ (fun bad O s=>mO X env x dx m as bs W bad O s/\iJ env W O s) (.Expr (.Call (.Attribute (.Name y yp) "set_seq1" apos) [e] [] cpos) pos) Q:=fun A bad O s R r ⟨p,al⟩=>by
 obtain⟨cd,hC⟩:=F.cls
 obtain⟨hf,ht,z,D⟩:=F.seq1
 refine gR D.obj fun of hof hdf=>?_
 have n2:m "set_seq1"=none:=Cf p fun _ _ _ _ M=>M.1.n2
 refine cg (ty (Pa:=fun us s'=>RepL (fv bad O) s'.heap [.list (as'.map .int)] us) R r hy (p.inst r hd hao) hC hf ht n2 hof hdf (fg he fq hst A bad O s R r) (fun us s1 x1 r1 qs=>?_) hev hst hdb) hi hs
 refine qs.oneE fun va' qa=>?_
 have p1:=mO.stable _ _ _ _ _ _ r (f8.of_ext x1) p
 have I1:=p1.inst r1 hd hao
 have hX:=r1.dxNone hd
 obtain⟨hm,va,vb,S,M,hdx⟩:=p1
 refine jq M.ra.isList ?_;rintro l0 ls0 rfl _ _
 have ra1:gF bad s1.heap (.list (as.map .int)) (.ref l0):=M.ra.keep fun b ob _ _ _ e _=>S.keep b ob e
 obtain⟨l',vs',n',rfl,hb',g'⟩:∃l' vs' n',va'=.ref l'/\¬fv bad O l'/\s1.heap.get? l'=some {cls:=.type "list",data:=.seq vs' n'}:=qa.listE (P:=fun v=>∃l' vs' n',v=.ref l'/\¬fv bad O l'/\s1.heap.get? l'=some {cls:=.type "list",data:=.seq vs' n'}) fun a vs n hb g q=>⟨a,vs,n,rfl,hb,g⟩
 refine bO ?_
 by_cases hl:l'=l0
 ·subst hl;obtain rfl:as=as':=wn ra1 qa;refine au (xE F R r1.at I1 hX M.mat.a) fun res s2 h=>?_;refine qd h ?_;rintro rfl kb I2;refine gR I2.nsb.aobj fun o' ho' hao'=>?_;obtain⟨st,r2⟩:=r1.at_change (s':=s2) hd kb.keep ho' kb.gens kb.os;exact⟨.next,_,O,hq o' m N (f5 0xf1380a00ff) hao' bad O s2 ⟨hm,_,vb,S.step st,M,hdx⟩ (iJ.stable _ _ _ _ _ _ r ((f8.of_ext x1).trans st) al),rfl,(f8.of_ext x1).trans st,r2⟩
 ·have gdx:=(r1.pt _ _ _ hd).2;have hlx:l'≠dx:=fun z=>by rw[z,gdx]at g';cases g';exact hao.noseq _ _ rfl
  obtain⟨o0,g0,c0⟩:∃o0,s1.heap.get? l0=some o0/\o0.cls=.type "list":=ra1.listE (P:=fun v=>v=.ref l0->∃o0,s1.heap.get? l0=some o0/\o0.cls=.type "list") (fun a ws n _ g _ e=>by cases e;exact⟨_,g,rfl⟩) rfl;obtain⟨ob0,hb0⟩:∃ob,hm.get? l0=some ob:=M.ra.listE (P:=fun v=>v=.ref l0->∃ob,hm.get? l0=some ob) (fun a ws n _ g _ e=>by cases e;exact⟨_,g⟩) rfl;have h0x:l0≠dx:=fun z=>by rw[z,hdx]at hb0;cases hb0
  have hns:nN (s1.heap.hide dx) (.ref l') (.ref l0):=.inr ⟨l',l0,_,_,rfl,rfl,hl,by rw[ax _ hlx];exact g',by rw[ax _ h0x];exact g0,by show(Value.type "list")≠_;decide⟩;refine au (mX F R r1.at I1 hX M.mat.a hns M.mat.ha hN) fun res s2 h=>?_;refine qd h ?_;rintro rfl kb I2;refine gR I2.nsb.aobj fun o' ho' hao'=>?_;obtain⟨st,r2⟩:=r1.at_change (s':=s2) hd kb.keep ho' kb.gens kb.os;refine gR (kT s2.heap fun b=>(∃ob,hm.get? b=some ob)\/b=l') fun hm' p1 p2=>?_;have S2:=S.step st;have sub:∀b ob,hm.get? b=some ob->hm'.get? b=some ob:=fun b ob e=>p2 b ob (.inl ⟨ob,e⟩) (S2.keep b ob e);have Sn:D4 env W hm' O s2:=⟨fun b ob e=>(p1 b ob e).1,fun b ob e=>by
    rcases(p1 b ob e).2 with⟨_,h⟩|rfl;·exact S.np b _ h
    ·exact iE r1.frm g' rfl,fun b ob e=>by
    rcases(p1 b ob e).2 with⟨_,h⟩|rfl;·exact S.no b _ h
    ·exact fun x hx=>hb' (.inr ⟨x,hx⟩),fun b ob e=>by
    rcases(p1 b ob e).2 with⟨_,h⟩|rfl;·exact S.nw b _ h
    ·exact al.no x1 g' rfl⟩;refine qY M.mat.rest fun d js led e1 e2 e3 e4=>?_;have Mn:=M.put (as':=as') (bs':=bs) [("a",.ref l'),("matching_blocks",.none),("opcodes",.none)] rfl sub rfl rfl ((iv _ rfl).trans M.mat.b) M.mat.hb ⟨d,js,led,(iv _ rfl).trans e1,(iv _ rfl).trans e2,sub _ _ e3,e4.keeps sub⟩ (lE qa (fun h=>hb' (.inl h)) fun ob e=>p2 _ ob (.inr rfl) (kb.keep _ ob hlx e)) (M.rb.keep fun b ob _ _ _ e _=>sub b ob e) (.inl ⟨rfl,rfl⟩);refine⟨.next,_,O,hq o' _ (N+3) (aH _) hao' bad O s2 ⟨hm',_,vb,Sn,Mn,?_⟩ (iJ.stable _ _ _ _ _ _ r ((f8.of_ext x1).trans st) al),rfl,(f8.of_ext x1).trans st,r2⟩;cases e:hm'.get? dx with
  |none=>rfl|some ob=>
   rcases(p1 _ _ e).2 with⟨_,h⟩|h;·rw[hdx]at h;cases h
   ·exact absurd h.symm hlx
end
section
variable{X:Cx}{k:Nat}{env:Env}{ρ:List (Str×B)}{Q:Fl->List (Str×B)->SP}
theorem zL(F:DF X){x dx:Addr}{m:Str->Option Value}{N:Nat}{o:Obj}{as bs bs':List Int}{W:Addr->Prop}{y:Str}{yp apos cpos pos:Pos}{pl:Sem Bool}{e:Expr}(hy:fn ρ y (.raw (.ref x)))(hd:fn ρ "#d" (.at dx o))(hao:gr o m N)(hN:N+7<1000)(hz:bs'.length<=sizeLine)(he:Ev X (k+2) env ρ e (.list (bs'.map .int)))(hq:∀o' m' N',N'<=N+7->gr o' m' N'->∀bad O s,mO X env x dx m' as bs' W bad O s->iJ env W O s->Q .next (put ρ "#d" (.at dx o')) bad O s)(hev:autoParam (eval (.Call (.Attribute (.Name y yp) "set_seq2" apos) [e] [] cpos) env=(do
   let ov<-eval (.Name y yp) env
   standAt apos.atName let(f,first)<-holding [ov] (getMethod ov "set_seq2" pl)callWith cpos f first (backTo cpos (starEach [e] env)) [])) aR)(hst:autoParam (starEach [e] env=[(false,eval e env)]) aR)(hdb:autoParam ((y==("__debug__":Str))=false) aD)(hi:autoParam (interactive env=false) aR)(hs:autoParam (swapsWith (.Call (.Attribute (.Name y yp) "set_seq2" apos) [e] [] cpos) none pos.line env=pure false) aR):sh X (k+2) env ρ (fun bad O s=>mO X env x dx m as bs W bad O s/\iJ env W O s) (.Expr (.Call (.Attribute (.Name y yp) "set_seq2" apos) [e] [] cpos) pos) Q:=fun A bad O s R r ⟨p,al⟩=>by
 obtain⟨cd,hC⟩:=F.cls
 obtain⟨hf,ht,z,D⟩:=F.seq2
 refine gR D.obj fun of hof hdf=>?_
 have n2:m "set_seq2"=none:=let⟨_,_,_,_,M,_⟩:=p;M.n3
 refine cg (ty (Pa:=fun us s'=>RepL (fv bad O) s'.heap [.list (bs'.map .int)] us) R r hy (p.inst r hd hao) hC hf ht n2 hof hdf (fg he fq hst A bad O s R r) (fun us s1 x1 r1 qs=>?_) hev hst hdb) hi hs
 refine qs.oneE fun va' qa=>?_
 have p1:=mO.stable _ _ _ _ _ _ r (f8.of_ext x1) p
 have I1:=p1.inst r1 hd hao
 have hX:=r1.dxNone hd
 obtain⟨hm,va,vb,S,M,hdx⟩:=p1
 refine jq M.rb.isList ?_;rintro l0 ls0 rfl _ _
 have ra1:gF bad s1.heap (.list (bs.map .int)) (.ref l0):=M.rb.keep fun b ob _ _ _ e _=>S.keep b ob e
 obtain⟨l',vs',n',rfl,hb',g'⟩:∃l' vs' n',va'=.ref l'/\¬fv bad O l'/\s1.heap.get? l'=some {cls:=.type "list",data:=.seq vs' n'}:=qa.listE (P:=fun v=>∃l' vs' n',v=.ref l'/\¬fv bad O l'/\s1.heap.get? l'=some {cls:=.type "list",data:=.seq vs' n'}) fun a vs n hb g q=>⟨a,vs,n,rfl,hb,g⟩
 refine bO ?_
 by_cases hl:l'=l0
 ·subst hl;obtain rfl:bs=bs':=wn ra1 qa;refine au (xd (k:=k+1) F R r1.at I1 hX M.mat.b) fun res s2 h=>?_;refine qd h ?_;rintro rfl kb I2;refine gR I2.nsb.aobj fun o' ho' hao'=>?_;obtain⟨st,r2⟩:=r1.at_change (s':=s2) hd kb.keep ho' kb.gens kb.os;exact⟨.next,_,O,hq o' m N (f5 0xf1780a00ff) hao' bad O s2 ⟨hm,va,_,S.step st,M,hdx⟩ (iJ.stable _ _ _ _ _ _ r ((f8.of_ext x1).trans st) al),rfl,(f8.of_ext x1).trans st,r2⟩
 ·have gdx:=(r1.pt _ _ _ hd).2;have hlx:l'≠dx:=fun z=>by rw[z,gdx]at g';cases g';exact hao.noseq _ _ rfl
  obtain⟨o0,g0,c0⟩:∃o0,s1.heap.get? l0=some o0/\o0.cls=.type "list":=ra1.listE (P:=fun v=>v=.ref l0->∃o0,s1.heap.get? l0=some o0/\o0.cls=.type "list") (fun a ws n _ g _ e=>by cases e;exact⟨_,g,rfl⟩) rfl;obtain⟨ob0,hb0⟩:∃ob,hm.get? l0=some ob:=M.rb.listE (P:=fun v=>v=.ref l0->∃ob,hm.get? l0=some ob) (fun a ws n _ g _ e=>by cases e;exact⟨_,g⟩) rfl;have h0x:l0≠dx:=fun z=>by rw[z,hdx]at hb0;cases hb0
  have hns:nN (s1.heap.hide dx) (.ref l') (.ref l0):=.inr ⟨l',l0,_,_,rfl,rfl,hl,by rw[ax _ hlx];exact g',by rw[ax _ h0x];exact g0,by show(Value.type "list")≠_;decide⟩;refine au (mC F R r1.at I1 hX M.mat.b hns M.mat.hb (qa.imp fun _ _ _ h=>h.elim) M.isj M.aj M.n1 hN hz) fun res s2 h=>?_;refine yQ h ?_;rintro v rfl kb rfl⟨d,js,ps,⟨I2,_,led,hem⟩,⟨kvs,⟨od,es,ep,hod,hdr⟩,c2,c3,c4,c5⟩,hjn⟩;refine gR I2.nsb.aobj fun o' ho' hao'=>?_;obtain⟨st,r2⟩:=r1.at_change (s':=s2) hd kb.keep ho' kb.gens kb.os;refine gR (kT s2.heap fun b=>(∃ob,hm.get? b=some ob)\/b=l'\/s1.heap.get? b=none) fun hm' p1 p2=>?_;have S2:=S.step st;have sub:∀b ob,hm.get? b=some ob->hm'.get? b=some ob:=fun b ob e=>p2 b ob (.inl ⟨ob,e⟩) (S2.keep b ob e);have Sn:D4 env W hm' O s2:={
   keep:=fun b ob e=>(p1 b ob e).1
   np:=fun b ob e=>by
    rcases(p1 b ob e).2 with⟨_,h⟩|rfl|h;·exact S.np b _ h
    ·exact iE r1.frm g' rfl
    ·intro hp;obtain⟨oo,ho⟩:=iM r1.frm hp;rw[h]at ho;cases ho
   no:=fun b ob e=>by
    rcases(p1 b ob e).2 with⟨_,h⟩|rfl|h;·exact S.no b _ h
    ·exact fun x hx=>hb' (.inr ⟨x,hx⟩)
    ·intro x hx;obtain⟨oo,ho⟩:=gZ r1 b (.inr ⟨x,hx⟩);rw[h]at ho;cases ho
   nw:=fun b ob e=>by
    rcases(p1 b ob e).2 with⟨_,h⟩|rfl|h;·exact S.nw b _ h
    ·exact al.no x1 g' rfl
    ·intro w;refine gR (al b w) fun oo ho _=>?_;rw[x1.keep _ _ ho]at h;cases h};have Mn:=M.put (as':=as) (bs':=bs') [("b",.ref l'),("matching_blocks",.none),("opcodes",.none),("fullbcount",.none),("b2j",.ref d),("bjunk",.ref js),("bpopular",.ref ps)] rfl sub ((iv _ rfl).trans M.mat.a) M.mat.ha rfl rfl ⟨d,js,led,rfl,rfl,p2 _ _ (.inr (.inr hjn)) hem,kvs,⟨od,es,ep,p2 _ _ (.inr (.inr c4)) hod,hdr⟩,c2,c3,fun y=>by
   rcases c5 y with⟨v,l,ol,e1,e2,e3,e4,e5⟩|e;·exact .inl ⟨v,l,ol,e1,e2,p2 _ _ (.inr (.inr e5)) e3,e4⟩
   ·exact .inr e⟩ (M.ra.keep fun b ob _ _ _ e _=>sub b ob e) (lE qa (fun h=>hb' (.inl h)) fun ob e=>p2 _ ob (.inr (.inl rfl)) (kb.keep _ ob hlx e)) (.inl ⟨rfl,rfl⟩);refine⟨.next,_,O,hq o' _ (N+7) (aH _) hao' bad O s2 ⟨hm',va,_,Sn,Mn,?_⟩ (iJ.stable _ _ _ _ _ _ r ((f8.of_ext x1).trans st) al),rfl,(f8.of_ext x1).trans st,r2⟩;cases e:hm'.get? dx with
  |none=>rfl|some ob=>
   rcases(p1 _ _ e).2 with⟨_,h⟩|h|h;·rw[hdx]at h;cases h
   ·exact absurd h.symm hlx
   ·rw[gdx]at h;cases h
end
section
variable{X:Cx}{k:Nat}{env:Env}{ρ:List (Str×B)}{Q:Fl->List (Str×B)->SP}
def wq(X:Cx)(env:Env)(ρ:List (Str×B))(x dx:Addr)(N:Nat)(as bs:List Int)(W:Addr->Prop)(bad:Addr->Prop)(O:Str->Option Addr)(s:Shared)(v:Value)(s2:Shared):Prop:=
 ∃o' m' N',N'<=N+2/\gr o' m' N'/\f8 env O O s s2/\gE X bad O env (put ρ "#d" (.at dx o')) s2/\gF (fv bad O) s2.heap (gB as bs) v/\mO X env x dx m' as bs W bad O s2/\iJ env W O s2
theorem tm(F:DF X)(G:MF X)(H:MG X){x dx:Addr}{m:Str->Option Value}{N:Nat}{o:Obj}{as bs:List Int}{W:Addr->Prop}{y:Str}{yp apos pos:Pos}{pl:Sem Bool}{A:Around}{bad:Addr->Prop}{O:Str->Option Addr}{s:Shared}(R:gG (k+6) A)(r:gE X bad O env ρ s)(p:mO X env x dx m as bs W bad O s)(al:iJ env W O s)(hy:fn ρ y (.raw (.ref x)))(hd:fn ρ "#d" (.at dx o))(hao:gr o m N)(hN:N<800)(hza:as.length<=60)(hzb:bs.length<=60)(he:autoParam (eval (.Call (.Attribute (.Name y yp) "get_opcodes" apos) [] [] pos) env=(do
   let ov<-eval (.Name y yp) env
   standAt apos.atName let(f,first)<-holding [ov] (getMethod ov "get_opcodes" pl)callWith pos f first (backTo pos (starEach [] env)) [])) aR)(hdb:autoParam ((y==("__debug__":Str))=false) aD):wpAny (model X.prog X.w) A (eval (.Call (.Attribute (.Name y yp) "get_opcodes" apos) [] [] pos) env) (fun v s2=>wq X env ρ x dx N as bs W bad O s v s2) g8 s:=by
 obtain⟨cd,hC⟩:=F.cls
 obtain⟨hf,ht,z,D⟩:=F.codes
 refine gR D.obj fun of hof hdf=>?_
 have I:=p.inst r hd hao
 have hX:=r.dxNone hd
 have hOd:=(r.pt _ _ _ hd).1
 obtain⟨hm,va,vb,S,M,hdx⟩:=p
 refine xX R r hy I hC hf ht (M.mat.free _ (by decide)) hof hdf (bO ?_) he hdb
 have hbx:¬(bad dx\/∃y,y≠("#d":Str)/\O y=some dx):=fun h=>h.elim (r.good _ _ hOd).1 fun h=>h.elim fun _ q=>q.1 (r.inj _ _ _ q.2 hOd)
 have low:∀a,(bad a\/∃y,y≠("#d":Str)/\O y=some a)->∃o,s.heap.get? a=some o:=fun a h=>gZ r a (h.imp id fun h=>h.imp fun _ q=>q.2)
 have up:∀{d v},gF bad hm d v->gF (fun a=>bad a\/∃y,y≠("#d":Str)/\O y=some a) s.heap d v:=fun q=>q.map fun a ob vs n hb e _=>⟨fun h=>h.elim hb fun h=>h.elim fun y q=>S.no _ _ e y q.2,S.keep _ _ e⟩
 have fin:∀{s2:Shared}{v:Value}{o':Obj}{m':Str->Option Value}{N':Nat},iF dx s s2->gF (fun a=>bad a\/∃y,y≠("#d":Str)/\O y=some a) s2.heap (gB as bs) v->s2.heap.get? dx=some o'->gr o' m' N'->N'<=N+2->(∀hm',(∀b ob,hm.get? b=some ob->hm'.get? b=some ob)->gF bad hm' (gB as bs) v->MP X hm' x dx m' va vb as bs bad)->wq X env ρ x dx N as bs W bad O s v s2:=fun{s2 v o' m' N'}kb rv ho' hao' hN' hmp=>by
  obtain⟨st,r2⟩:=r.at_change (s':=s2) hd kb.keep ho' kb.gens kb.os;have al2:iJ env W O s2:=iJ.stable _ _ _ _ _ _ r st al;have rv2:gF (fv bad O) s2.heap (gB as bs) v:=rv.map fun a ob vs n hb e ed=>⟨fun h=>h.elim (fun h=>hb (.inl h)) fun⟨y,hy⟩=>by
   by_cases hyd:y="#d"
   ·subst hyd;rw[hOd]at hy;cases hy;rw[ho']at e;cases e;exact hao'.noseq _ _ ed
   ·exact hb (.inr ⟨y,hyd,hy⟩),e⟩;refine gR (kT s2.heap fun b=>(∃ob,hm.get? b=some ob)\/(¬fv bad O b/\∃ob vs n,s2.heap.get? b=some ob/\ob.data=.seq vs n)) fun hm' p1 p2=>?_;have S2:=S.step st;have sub:∀b ob,hm.get? b=some ob->hm'.get? b=some ob:=fun b ob e=>p2 b ob (.inl ⟨ob,e⟩) (S2.keep b ob e);refine⟨o',m',N',hN',hao',st,r2,rv2,⟨hm',va,vb,{
   keep:=fun b ob e=>(p1 b ob e).1
   np:=fun b ob e=>by
    rcases(p1 b ob e).2 with⟨_,h⟩|⟨_,ob',vs,n,h,ed⟩;·exact S.np b _ h
    ·exact iE r2.frm h ed
   no:=fun b ob e=>by
    rcases(p1 b ob e).2 with⟨_,h⟩|⟨h,_⟩;·exact S.no b _ h
    ·exact fun x hx=>h (.inr ⟨x,hx⟩)
   nw:=fun b ob e=>by
    rcases(p1 b ob e).2 with⟨_,h⟩|⟨_,ob',vs,n,h,ed⟩;·exact S.nw b _ h
    ·intro w;refine qe (al2 b w) fun oo ho hns _=>?_;rw[h]at ho;cases ho;exact hns _ _ ed},hmp hm' sub (rv2.map fun a ob vs n hb e ed=>⟨fun h=>hb (.inl h),p2 a ob (.inr ⟨hb,ob,vs,n,e,ed⟩) e⟩),?_⟩,al2⟩;cases e:hm'.get? dx with|none=>rfl|some ob=>
   rcases(p1 _ _ e).2 with⟨_,h⟩|⟨h,_⟩;·rw[hdx]at h;cases h
   ·exact absurd (.inr ⟨_,hOd⟩) h
 rcases M.st with⟨hmb,hop⟩|⟨vo,hop,hvo,hh,rvo⟩
 ·have h64:=(nF as bs).1;refine au (pE F G H R r.at hX hbx low I ?_ hmb hop (up M.ra) (up M.rb) hN (f5 0xf113e81900f3c0900f hza) (f5 0xf113e81900f3c0900f hzb) (fk 0xf111400911f0103c0900f hza h64)) fun res s2 h=>?_
  ·refine qY M.mat.rest fun d js led e1 e2 e3 e4=>?_;exact⟨S.keep _ _ M.mat.obj,M.mat.a,M.mat.ha,M.mat.b,M.mat.hb,M.mat.free,d,js,led,e1,e2,S.keep _ _ e3,e4.keeps S.keep⟩
  ·refine yQ h ?_;rintro v rfl kb rv ⟨o',v2,ho',hao'⟩;refine fin kb rv ho' hao' (aH _) fun hm' sub rv'=>?_;refine jq rv'.isList fun lv _ hlv _ _=>?_;have hv1:v≠.none:=by rw[hlv];exact fun e=>by cases e
   have hv2:handedIn v=true:=by rw[hlv];rfl
   refine qY M.mat.rest fun d js led e1 e2 e3 e4=>?_;exact M.put [("opcodes",v),("matching_blocks",v2)] rfl sub ((iv _ rfl).trans M.mat.a) M.mat.ha ((iv _ rfl).trans M.mat.b) M.mat.hb ⟨d,js,led,(iv _ rfl).trans e1,(iv _ rfl).trans e2,sub _ _ e3,e4.keeps sub⟩ (M.ra.keep fun b ob _ _ _ e _=>sub b ob e) (M.rb.keep fun b ob _ _ _ e _=>sub b ob e) (.inr ⟨v,rfl,hv1,hv2,rv'⟩)
 ·refine au (vQ (d:=gB as bs) F R r.at hX hbx low I hop hvo hh (up rvo)) fun res s2 h=>?_;refine yQ h ?_;rintro v rfl kb rv ⟨o',ho',hao'⟩;refine fin kb rv ho' hao' (cQ _ _) fun hm' sub rv'=>?_;refine qY M.mat.rest fun d js led e1 e2 e3 e4=>?_;exact⟨⟨sub _ _ M.mat.obj,M.mat.a,M.mat.ha,M.mat.b,M.mat.hb,M.mat.free,d,js,led,e1,e2,sub _ _ e3,e4.keeps sub⟩,M.isj,M.aj,M.n1,M.n2,M.n3,M.ra.keep fun b ob _ _ _ e _=>sub b ob e,M.rb.keep fun b ob _ _ _ e _=>sub b ob e,.inr ⟨vo,hop,hvo,hh,rvo.keep fun b ob _ _ _ e _=>sub b ob e⟩⟩
end
section
variable{X:Cx}{k:Nat}{env:Env}{ρ:List (Str×B)}{Q:Fl->List (Str×B)->SP}
theorem om(F:DF X)(G:MF X)(H:MG X){x dx:Addr}{m:Str->Option Value}{N:Nat}{o:Obj}{as bs:List Int}{W:Addr->Prop}{y z:Str}{yp apos p1 zp bpos cpos pos:Pos}{pl pl2:Sem Bool}{ds:List PyData}(hy:fn ρ y (.raw (.ref x)))(hd:fn ρ "#d" (.at dx o))(hao:gr o m N)(hN:N<800)(hza:as.length<=60)(hzb:bs.length<=60)(hz:fn ρ z (.own ds))(hzd:z≠"#d")(hds:ds.length<=sizeLine)(hq:∀o' m' N',N'<=N+2->gr o' m' N'->∀bad O s,mO X env x dx m' as bs W bad O s->iJ env W O s->Q .next (put (put ρ "#d" (.at dx o')) z (.own (ds++[gB as bs]))) bad O s)(he:autoParam (eval (.Call (.Attribute (.Name y yp) "get_opcodes" apos) [] [] p1) env=(do
   let ov<-eval (.Name y yp) env
   standAt apos.atName let(f,first)<-holding [ov] (getMethod ov "get_opcodes" pl)callWith p1 f first (backTo p1 (starEach [] env)) [])) aR)(hdb:autoParam ((y==("__debug__":Str))=false) aD)(hzb':autoParam ((z==("__debug__":Str))=false) aD)(hm:autoParam (eval (.Call (.Attribute (.Name z zp) "append" bpos) [.Call (.Attribute (.Name y yp) "get_opcodes" apos) [] [] p1] [] cpos) env=(do
   let ov<-eval (.Name z zp) env
   standAt bpos.atName let(f,first)<-holding [ov] (getMethod ov "append" pl2)callWith cpos f first (backTo cpos (starEach [.Call (.Attribute (.Name y yp) "get_opcodes" apos) [] [] p1] env)) [])) aR)(hst:autoParam (starEach [.Call (.Attribute (.Name y yp) "get_opcodes" apos) [] [] p1] env=[(false,eval (.Call (.Attribute (.Name y yp) "get_opcodes" apos) [] [] p1) env)]) aR)(hi:autoParam (interactive env=false) aR)(hs:autoParam (swapsWith (.Call (.Attribute (.Name z zp) "append" bpos) [.Call (.Attribute (.Name y yp) "get_opcodes" apos) [] [] p1] [] cpos) none pos.line env=pure false) aR):sh X (k+6) env ρ (fun bad O s=>mO X env x dx m as bs W bad O s/\iJ env W O s) (.Expr (.Call (.Attribute (.Name z zp) "append" bpos) [.Call (.Attribute (.Name y yp) "get_opcodes" apos) [] [] p1] [] cpos) pos) Q:=fun A bad O s R r ⟨p,al⟩=>by
 refine qY (oB r hz) fun l vs n ho lk g q=>?_
 refine cg (MethodCall_ (bW (Lk.load r.ok.kind lk ?_) hzb') hm) hi hs
 refine cY dM dN ⟨_,g,rfl,_,rfl⟩ ⟨_,g,rfl⟩ (bT (af (aF (tm F G H R r p al hy hd hao hN hza hzb he hdb) (fun v s2 h=>a0 ?_) fun _ _ x=>x) hst) hst)
 obtain⟨o',m',N',hN',hao',st,r2,rv,p2,al2⟩:=h
 have hz2:fn (put ρ "#d" (.at dx o')) z (.own ds):=by show List.lookup _ _=_;rw[m5 _ hzd];exact hz
 refine qY (oB r2 hz2) fun l2 vs2 n2 ho2 lk2 g2 q2=>?_
 obtain rfl:l2=l:=Option.some.inj (ho2.symm.trans ho)
 have hl:vs2.size=ds.length:=by rw[<-aE,q2.length]
 refine cZ ⟨n2,g2⟩ (fun h' hp hs'=>?_) (by rw[hl];exact hds)
 obtain⟨n',g'⟩:=hp
 obtain⟨st3,r3⟩:=r2.turn (t:=s2.toks) (h':=h') hz2 ho2 hs' g' (ds':=ds++[gB as bs]) (q2.push rv)
 exact⟨.next,_,O,hq o' m' N' hN' hao' bad O _ (mO.stable _ _ _ _ _ _ r2 st3 p2) (iJ.stable _ _ _ _ _ _ r2 st3 al2),rfl,st.trans st3,r3⟩
theorem uA(F:DF X)(G:MF X)(H:MG X){x dx:Addr}{m:Str->Option Value}{N:Nat}{o:Obj}{as bs:List Int}{W:Addr->Prop}{y:Str}{yp apos p1 p3 pos:Pos}{pl:Sem Bool}{r':Expr}{body:List Stmt}{d:PyData}(hy:fn ρ y (.raw (.ref x)))(hd:fn ρ "#d" (.at dx o))(hao:gr o m N)(hN:N<800)(hza:as.length<=60)(hzb:bs.length<=60)(hr:∀o',Ev X (k+6) env (put ρ "#d" (.at dx o')) r' d)(hdd:d=gB as bs)(sa:SeqAt.shaped (gB as bs)=true)(hq:∀o' m' N',N'<=N+2->gr o' m' N'->∀bad O s,mO X env x dx m' as bs W bad O s->iJ env W O s->Q .next (put ρ "#d" (.at dx o')) bad O s)(he:autoParam (eval (.Call (.Attribute (.Name y yp) "get_opcodes" apos) [] [] p1) env=(do
   let ov<-eval (.Name y yp) env
   standAt apos.atName let(f,first)<-holding [ov] (getMethod ov "get_opcodes" pl)callWith p1 f first (backTo p1 (starEach [] env)) [])) aR)(hdb:autoParam ((y==("__debug__":Str))=false) aD)(hm:autoParam (behindInMarks .NotEq r'=false) aW):sh X (k+6) env ρ (fun bad O s=>mO X env x dx m as bs W bad O s/\iJ env W O s) (.If (.Compare (.Call (.Attribute (.Name y yp) "get_opcodes" apos) [] [] p1) [.NotEq] [r'] p3) body [] pos) Q:=fun A bad O s R r ⟨p,al⟩=>by
 subst hdd
 refine wpAny_If (bY (aF (tm F G H R r p al hy hd hao hN hza hzb he hdb) (fun v s2 h=>?_) fun _ _ x=>x) hm)
 obtain⟨o',m',N',hN',hao',st,r2,rv,p2,al2⟩:=h
 refine(hr o').use R r2 fun u s3 x3 r3 qu=>?_
 obtain⟨_,ra⟩:=(rv.ext x3).reads (bM sa)
 obtain⟨_,rb⟩:=qu.reads (bM sa)
 refine SeqAt.compareNe_shaped ra rb sa sa (by have:=R.units;show A.units+64<9900;exact fk 0xf1126ac2940090a1f232829681a64b0a0f this) (bV ?_)
 rw[SeqAt.eqv_refl _ (bM sa)]
 have st2:=st.trans (f8.of_ext x3)
 exact cf ⟨.next,_,O,hq o' m' N' hN' hao' bad O s3 (mO.stable _ _ _ _ _ _ r2 (f8.of_ext x3) p2) (iJ.stable _ _ _ _ _ _ r2 (f8.of_ext x3) al2),rfl,st2,r3⟩
end
section
variable{X:Cx}{k:Nat}{env:Env}{ρ:List (Str×B)}{Q:Fl->List (Str×B)->SP}
theorem tM(F:DF X)(hsm:X.gl ("SequenceMatcher":Str)=some (.ref 242))(hkp:keepIn X.K (.ref 242)=true)(hmk:makesIn X.K 242=true){y:Str}{p0 p p2 q1 q2 q3 q4 pos:Pos}{n1 n4:Nat}(hk:env.kindOf ("SequenceMatcher":Str)=some .globalImplicit)(hy:sO env y)(hyd:y≠"#d")(hq:∀x dx o m,gr o m 14->∀bad O s,mO X env x dx m [] [] (fun _=>False) bad O s->Q .next (put (put ρ "#d" (.at dx o)) y (.raw (.ref x))) bad O s)(hs:autoParam (swapsWithSole [.Name y p0] (.Call (.Name "SequenceMatcher" p) [.Constant .none n1 q1,.List [] q2,.List [] q3,.Constant (.bool false) n4 q4] [] p2) pos.line env=pure false) aR)(hw:autoParam (swappedStores [.Name y p0] (.Call (.Name "SequenceMatcher" p) [.Constant .none n1 q1,.List [] q2,.List [] q3,.Constant (.bool false) n4 q4] [] p2) env=pure none) aR)(hm:autoParam ((assignEach [.Name y p0] env).map (·.2)=[assign (.Name y p0) env]) aR)(hst:autoParam (starEach [.Constant .none n1 q1,.List [] q2,.List [] q3,.Constant (.bool false) n4 q4] env=[(false,eval (.Constant .none n1 q1) env),(false,eval (.List [] q2) env),(false,eval (.List [] q3) env),(false,eval (.Constant (.bool false) n4 q4) env)]) aR)(hst2:autoParam (starEach [.List [] q2,.List [] q3,.Constant (.bool false) n4 q4] env=[(false,eval (.List [] q2) env),(false,eval (.List [] q3) env),(false,eval (.Constant (.bool false) n4 q4) env)]) aR)(hst3:autoParam (starEach [.List [] q3,.Constant (.bool false) n4 q4] env=[(false,eval (.List [] q3) env),(false,eval (.Constant (.bool false) n4 q4) env)]) aR)(hst4:autoParam (starEach [.Constant (.bool false) n4 q4] env=[(false,eval (.Constant (.bool false) n4 q4) env)]) aR):sh X (k+6) env ρ (fun _ _ _=>True) (.Assign [.Name y p0] (.Call (.Name "SequenceMatcher" p) [.Constant .none n1 q1,.List [] q2,.List [] q3,.Constant (.bool false) n4 q4] [] p2) pos) Q:=fun A bad O s R r _=>by
 have hsl:5000<=sizeLine:=by decide
 refine cM (bE (g9 r hsm hk ?_)) hs hw
 have e0:∀q:Pos,Ev X (k+6) env ρ (.List [] q) (.list (([]:List Int).map .int)):=fun q=>nQ fq (aV _)
 have hargs:qy X (k+6) env ρ p2 [.Constant .none n1 q1,.List [] q2,.List [] q3,.Constant (.bool false) n4 q4] [.none,.list (([]:List Int).map .int),.list (([]:List Int).map .int),.bool false]:=fg wg (fg (e0 q2) (fg (e0 q3) (fg sS fq hst4) (by rw[hst3,hst4])) (by rw[hst2,hst3])) (by rw[hst,hst2])
 refine callWith_K (r.wf.kin.keeps r.base) hkp (aF (hargs A bad O s R r) (fun us s1 q=>?_) fun _ _ x=>x) (by rw[hst,hst2]) (by rw[hst2];rfl)
 obtain⟨x1,q⟩:=q
 have r1:=r.ext x1
 refine⟨r1.wf.kin.keeps r1.base,?_⟩
 refine jq q.inv ?_;rintro _ _ rfl u1 q
 refine jq q.inv ?_;rintro va _ rfl ra q
 refine jq q.inv ?_;rintro vb _ rfl rb q
 refine jq q.inv ?_;rintro _ _ rfl u4 q
 obtain rfl:=q.inv0
 obtain rfl:=u1.invN
 obtain rfl:=u4.invB
 obtain⟨la,vs,na,rfl,hba,ga⟩:∃l vs n,va=.ref l/\¬fv bad O l/\s1.heap.get? l=some {cls:=.type "list",data:=.seq vs n}:=ra.listE (P:=fun v=>∃l vs n,v=.ref l/\¬fv bad O l/\s1.heap.get? l=some {cls:=.type "list",data:=.seq vs n}) fun a vs n hb g q=>⟨a,vs,n,rfl,hb,g⟩
 obtain⟨lb,ws,nb,rfl,hbb,gb⟩:∃l vs n,vb=.ref l/\¬fv bad O l/\s1.heap.get? l=some {cls:=.type "list",data:=.seq vs n}:=rb.listE (P:=fun v=>∃l vs n,v=.ref l/\¬fv bad O l/\s1.heap.get? l=some {cls:=.type "list",data:=.seq vs n}) fun a vs n hb g q=>⟨a,vs,n,rfl,hb,g⟩
 refine pN F hmk (k:=k+1) (A:=A) (s:=s1) (va:=.ref la) (vb:=.ref lb) (bs:=[]) R r1.at (fun e=>by cases e) (rb.imp fun _ _ _ h=>h.elim) (aV _) fun x dx d js ps s2 x2 hx hdx P2 hN=>?_
 refine yQ hN ?_;rintro h1 k1 ⟨_,hd1⟩hc hj
 refine gR P2.inst.nsb.aobj fun o' ho' hao'=>?_
 obtain⟨led,hjs⟩:=P2.junk
 obtain⟨st,r2⟩:=r1.at_new "#d" x2 hdx ho'
 rw[hm]
 refine cJ (mK r2 hy fun s3 st3 r3 _=>?_)
 have st13:=st.trans st3
 refine⟨.next,_,_,hq x dx o' _ hao' bad _ s3 ?_,rfl,(f8.of_ext x1).trans st13,r3⟩
 refine gR (kT s2.heap fun b=>b≠dx/\(b=la\/b=lb\/s1.heap.get? b=none)) fun hm' p1 p2=>?_
 have hXl:∀{l:Addr}{ob:Obj},s1.heap.get? l=some ob->l≠dx:=fun e z=>by rw[z,hdx]at e;cases e
 have hxd:x≠dx:=P2.inst.xne
 obtain⟨kvs,⟨od,es,ep,hod,hdr⟩,c2,c3,c4,c5⟩:=hc
 have np:∀b ob,hm'.get? b=some ob->¬g6 env b:=fun b ob e=>by
  rcases(p1 b ob e).2.2 with rfl|rfl|h;·exact iE r1.frm ga rfl
  ·exact iE r1.frm gb rfl
  ·intro hp;obtain⟨oo,ho⟩:=iM r1.frm hp;rw[h]at ho;cases ho
 have no1:∀b ob,hm'.get? b=some ob->∀z,qX O "#d" dx z≠some b:=fun b ob e z hz=>by
  rcases iK hz with⟨_,h⟩|⟨_,h⟩;·exact(p1 b ob e).2.1 h
  ·rcases(p1 b ob e).2.2 with rfl|rfl|h';·exact hba (.inr ⟨z,h⟩)
   ·exact hbb (.inr ⟨z,h⟩)
   ·obtain⟨oo,ho⟩:=gZ r1 b (.inr ⟨z,h⟩);rw[h']at ho;cases ho
 have new:∀b ob,b≠dx->s1.heap.get? b=none->s2.heap.get? b=some ob->hm'.get? b=some ob:=fun b ob h1 h2 h3=>p2 b ob ⟨h1,.inr (.inr h2)⟩ h3
 have ndx:∀{b:Addr}{ob:Obj},s2.heap.get? b=some ob->(∀es ep,ob.data=.dict es ep->False)->b≠dx:=fun{b ob}e h z=>by subst z;rw[ho']at e;cases e;obtain⟨es,ep,hd,_⟩:=hao';exact h es ep hd
 refine⟨hm',.ref la,.ref lb,⟨fun b ob e=>st3.keep b ob (np b ob e) (no1 b ob e) (p1 b ob e).1,np,fun b ob e z hz=>no1 b ob e z (by delta lC at hz;split at hz;cases hz;exact hz),fun _ _ _ h=>h⟩,?_,?_⟩
 ·have nw1:∀b,h1.get? b=none->b≠dx/\s1.heap.get? b=none:=fun b e=>by
   refine⟨fun z=>?_,?_⟩;·rw[z,hd1]at e;cases e
   ·cases e':s1.heap.get? b with|none=>rfl|some ob=>rw[k1 _ _ e']at e;cases e
  have nn:∀b ob,h1.get? b=none->s2.heap.get? b=some ob->hm'.get? b=some ob:=fun b ob e e'=>new b ob (nw1 b e).1 (nw1 b e).2 e';exact⟨⟨new _ _ hxd hx P2.inst.obj,rfl,rfl,rfl,rfl,fun f hf=>by
    have hne:f="find_longest_match"\/f="get_matching_blocks"\/f="get_opcodes":=by simpa using hf
    rcases hne with rfl|rfl|rfl<;>rfl,d,js,led,rfl,rfl,nn _ _ hj hjs,kvs,⟨od,es,ep,nn _ _ c4 hod,hdr⟩,c2,c3,fun y=>by
    rcases c5 y with⟨v,l,ol,e1,e2,e3,e4,e5⟩|e;·exact .inl ⟨v,l,ol,e1,e2,nn _ _ e5 e3,e4⟩
    ·exact .inr e⟩,rfl,rfl,rfl,rfl,rfl,lE ra (fun h=>hba (.inl h)) fun ob e=>p2 _ ob ⟨hXl e,.inl rfl⟩ (x2.keep _ _ e),lE rb (fun h=>hbb (.inl h)) fun ob e=>p2 _ ob ⟨hXl e,.inr (.inl rfl)⟩ (x2.keep _ _ e),.inl ⟨rfl,rfl⟩⟩
 ·cases e:hm'.get? dx with|none=>rfl|some ob=>exact absurd rfl (p1 _ _ e).2.1
end
section
variable{X:Cx}{k:Nat}{env:Env}{ρ ρc:List (Str×B)}
noncomputable abbrev sH(as bs:List PyData):List PyData:=(as.zip bs).map fun p=>.tuple [p.1,p.2]
theorem Bp{bad:Addr->Prop}{O:Str->Option Addr}{A:Around}{s0 s s2:Shared}{elts:List Expr}{tk0:Nat}{tpos:Pos}{as bs:List PyData}{z TI TO i1 i2 l1 l2:Addr}{us vs:Array Value}{n1 n2:Nat}(R:gG k A)(x0:gQ s0 s)(x2:gQ s s2)(D:ZipApart z TI TO i1 i2 l1 l2)(g1:s.heap.get? l1=some {cls:=.type "list",data:=.seq us n1}) (q1:RepL (fv bad O) s.heap as us.toList) (g2:s.heap.get? l2=some {cls:=.type "list",data:=.seq vs n2}) (q2:RepL (fv bad O) s.heap bs vs.toList) (hz:IsZip s2.heap z TI TO .none) (hTI:IsPair s2.heap TI (.ref i1) (.ref i2)) (hTO:∃a b,IsPair s2.heap TO a b) (h1:s2.heap.IsListIter i1 l1 0) (h2:s2.heap.IsListIter i2 l2 0) (fz:∀b∈[z,TO,i1,i2],s.heap.get? b=none):Es X A bad O s0 s2 (.Tuple elts tk0 tpos) (sH as bs) z [z,TI,TO,i1,i2,l1,l2] [z,TO,i1,i2] (fun b=>b=TO) (fun i h=>IsZip h z TI TO .none/\IsPair h TI (.ref i1) (.ref i2)/\(∃a b,IsPair h TO a b)/\h.IsListIter i1 l1 i/\h.IsListIter i2 l2 i/\h.IsList l1 us/\h.IsList l2 vs):=by
 have W:=WalksT.zip2 (prog:=X.prog) (w:=X.w) R.handled z TI TO i1 i2 l1 l2 D us vs
 have e1:us.size=as.length:=by rw[<-aE,q1.length]
 have e2:vs.size=bs.length:=by rw[<-aE,q2.length]
 have up:∀{d v},gF (fv bad O) s.heap d v->gF (fun a=>fv bad O a\/a=TO) s2.heap d v:=fun q=>(q.imp fun a o e h=>h.elim id fun z=>by rw[z,fz TO (by simp)]at e;cases e).ext x2
 exact{
  sub:=W.sub
  frame:=W.frame
  start:=⟨hz,hTI,hTO,h1,h2,⟨_,x2.keep _ _ g1,rfl,_,rfl⟩,⟨_,x2.keep _ _ g2,rfl,_,rfl⟩⟩
  new:=fun b hb=>x0.none (fz b hb)
  bw:=fun _ hb=>hb▸.tail _ (.head _)
  live:=fun i h st=>mc ⟨_,st.1⟩ (mc ⟨_,st.2.1⟩ (mc (st.2.2.1.elim fun _ e=>e.elim fun _ e=>⟨_,e⟩) (mc (st.2.2.2.1.elim fun o e=>⟨o,e.1⟩) (mc (st.2.2.2.2.1.elim fun o e=>⟨o,e.1⟩) (mc (st.2.2.2.2.2.1.elim fun o e=>⟨o,e.1⟩) (m1 (st.2.2.2.2.2.2.elim fun o e=>⟨o,e.1⟩)))))))
  noseq:=fun i h st=>mc (fun _=>pQ st.1 rfl fun _ _=>nofun) (mc (fun hn=>absurd rfl hn) (mc (fun _=>st.2.2.2.1.elim fun _ e=>pQ e.1 e.2.2 fun _ _=>nofun) (m1 fun _=>st.2.2.2.2.1.elim fun _ e=>pQ e.1 e.2.2 fun _ _=>nofun)))
  item:=fun i d s' N K E E' hd hSt hK=>by rw[aS]at hd;refine gR (Option.map_eq_some_iff.mp hd) ?_;rintro⟨x,y⟩hp rfl;obtain⟨hx,hy⟩:=List.getElem?_zip_eq_some.mp hp;refine gR (q1.get hx) fun u hu qu=>?_;refine gR (q2.get hy) fun v hv qv=>?_;rw[ab]at hu hv;refine Fz hSt ?_;rintro a1 a2 ⟨_,_,a3⟩a4 a5 a6 a7;refine wpAny_pyNext_zip_item D a1 a2 a3 a4 a5 a6 a7 hu hv fun h' b1 b2 b3 b4 b5 b6 hk=>wpAny_letOwnedTupleGo_zip (s:={s' with heap:=h'}) b1 fun h2 hz' hs'=>?_;have hT0:=iG s'.heap;have ne:∀{c o},s'.heap.get? c=some o->s'.heap.objs.size≠c:=fun e=>cm (am e);have hTz:=ne a1;generalize s'.heap.objs.size=T at*;have kk:∀c o,c∉[z,TO,i1,i2]->s'.heap.get? c=some o->h2.get? c=some o:=fun c o hc e=>hs'.extBut _ _ (fun q=>hc (q▸.head _)) (hk c o (fun q=>hc (q▸.head _)) (fun q=>hc (q▸.tail _ (.head _))) (fun q=>hc (q▸.tail _ (.tail _ (.head _)))) (fun q=>hc (q▸.tail _ (.tail _ (.tail _ (.head _))))) e);refine hK (.ref T) h2 s'.toks ⟨hz',hs'.extBut _ _ D.TIz (hk _ _ D.TIz D.TITO D.TIi1 D.TIi2 a2),⟨_,_,hs'.extBut _ _ D.TOz b2⟩,b3.extBut hs'.extBut D.i1z,b4.extBut hs'.extBut D.i2z,a6.at fun o e=>kk _ o (Am D.l1z (Am D.l1TO (Am D.l1i1 (Am D.l1i2 dW)))) e,a7.at fun o e=>kk _ o (Am D.l2z (Am D.l2TO (Am D.l2i1 (Am D.l2i2 dW)))) e⟩ kk fun bd fr tr=>?_;exact .tuple (fr T hT0) (hs'.extBut _ _ hTz b5) (.cons (tr _ _ (up qu)) (.cons (tr _ _ (up qv)) .nil))
  done:=fun s' Q E hSt hk=>W.done s' Q E (by rw[aB,dh]at hSt;rw[e1,e2];exact hSt) hk
  self:=W.self}
theorem wR{elts:List Expr}{tk0:Nat}{tpos p ipos:Pos}{e e':Expr}{as bs:List PyData}(hx:X.gl ("zip":Str)=some (.type "zip"))(hk:env.kindOf ("zip":Str)=some .globalImplicit)(he:Ev X k env ρ e (.list as))(he':Ev X k env ρ e' (.list bs))(hst:autoParam (starEach [e,e'] env=[(false,eval e env),(false,eval e' env)]) aR)(hst2:autoParam (starEach [e'] env=[(false,eval e' env)]) aR):FF X k env ρ (.Call (.Name "zip" p) [e,e'] [] ipos) (.Tuple elts tk0 tpos) (sH as bs):=fun A bad O s R r=>by
 refine kD R r hx hk (fg he (fg he' fq hst2) (by rw[hst,hst2])) (fun vs s1 x1 r1 q1=>?_) (by decide) (by rw[hst,hst2]) (by rw[hst];rfl)
 refine q1.twoE fun v w qa qb=>?_
 refine qa.listE fun l us n hb g qs=>?_
 refine qb.listE fun l' us' n' hb' g' qs'=>?_
 have lt:∀{b:Addr}{o:Obj},s1.heap.get? b=some o->b<s1.heap.objs.size:=fun e=>am e
 have l1:=lt g
 have l2:=lt g'
 have fz:∀b∈[s1.heap.objs.size+4,s1.heap.objs.size+3,s1.heap.objs.size,s1.heap.objs.size+1],s1.heap.get? b=none:=fun b hb=>by cases e:s1.heap.get? b with
  |none=>rfl|some o=>
   have:=lt e;simp only[ak,dW,or_false]at hb;have:s1.heap.objs.size<=b:=by rcases hb with rfl|rfl|rfl|rfl<;>first|exact aH _|exact cQ _ _
   exact absurd this (Nat.not_le.mpr (lt e))
 exact call_zip_2 ⟨_,g,rfl,_,rfl⟩ ⟨_,g',rfl,_,rfl⟩ fun h' hz hTI hTO h1 h2 hsz hkeep=>wpAny_pyIter_zip (s:={s1 with heap:=h'}) hz ⟨x1.trans ⟨hkeep,rfl,rfl⟩,_,_,_,_,_,rfl,Bp (s2:={s1 with heap:=h'}) R x1 ⟨hkeep,rfl,rfl⟩ (zipApart_new l1 l2) g qs g' qs' hz hTI ⟨_,_,hTO⟩ h1 h2 fz⟩
end
noncomputable def kU:List Int:=[2,10,12,34,9,14]
section
variable{X:Cx}{k:Nat}
noncomputable abbrev jE(z1 z2 z3:Value)(L f:Addr):Env:=callEnvC (iy 12 "law" z1 z2 z3) L f
noncomputable abbrev jQ:List Stmt:=fm (fh g7 12)
structure LW(t:Nat->List Int)(n:Nat)(ρ:List (Str×B)):Prop where
 texts:fn ρ "texts" (.val (.list (((List.range (n+1)).map t).map iD)))
 due:fn ρ "due" (.val (.list ((li t n).map dD)))
theorem LW.pt{t:Nat->List Int}{n:Nat}{ρ:List (Str×B)}(I:LW t n ρ){z:Str}{b:B}(h:(j6 "texts" z&&j6 "due" z)=true):LW t n (put ρ z b):=by
 simp only[ad]at h
 exact⟨hn I.texts h.1,hn I.due h.2⟩
theorem kP(t:Nat->List Int)(n:Nat):(((List.range (n+1)).map t).map iD).length=n+1:=by rw[aB,aB,bB]
theorem DR{t:Nat->List Int}{n k:Nat}(h:k<=n):(((List.range (n+1)).map t).map iD)[k]?=some (iD (t k)):=by
 rw[aS,aS,ck (eX h)];rfl
theorem lH{env:Env}{ρ:List (Str×B)}{t:Nat->List Int}{n i:Nat}{idx:Expr}{p p1:Pos}(H:Tx t n)(h:fn ρ "texts" (.val (.list (((List.range (n+1)).map t).map iD))))(hi:Ev X k env ρ idx (.int i))(hin:i<=n)(hs:autoParam (∀a u,subscripted idx false (.ref a) (.int (i:Int) u)=operate [.ref a,.int (i:Int) u] (getItem (.ref a) (.int (i:Int) u))) aJ):Ev X k env ρ (.Subscript (.Name "texts" p) idx p1) (iD (t i)):=by
 have hsl:5000<=sizeLine:=by decide
 have:=H.len
 exact jM (n:=(i:Int)) (gH (fc h)) hi (fk 0xf11c0ce3ff) (by rw[kP];exact fk 0xf11181ac0c4f100f hin) (by rw[kP];exact fk 0xf1110181a0f1e091001388290f hsl this) (by rw[jW];exact DR hin) hs
noncomputable def gD(t:Nat->List Int):PyData->List PyData
 |.int i=>[gB (t (i.toNat-1)) (t i.toNat)]
 |_=>[]
theorem wC(t:Nat->List Int)(n:Nat):(gO 1 1 n).flatMap (gD t)=(li t n).map dD:=by
 rw[pB]
 delta gO
 rw[d9,dQ]
 refine ij fun k _=>?_
 show[gB (t ((1+(k:Int)*1).toNat-1)) (t (1+(k:Int)*1).toNat)]=_
 rw[show(1+(k:Int)*1).toNat=k+1 by exact f5 0xf10f11ff10f18ff180a12ff080c01f18a5,cO]
theorem rp(F:LG X){L f:Addr}{a b c:Value}{la:Nat}{ed:List Int}{A B:List Int}(hl:ed.length=B.length)(hla:la=A.length)(he:gJ ed 0 (mZ A B))(hA:A.length<=14)(hB:B.length<=14):iP X k (callEnvC (iy 9 "_law_told" a b c) L f) [("size",.val (.int la)),("edit",.val (iD ed))] (fm (fh g7 9)) fun fl _=>fl=.ret (gB A B):=by
 have hsl:5000<=sizeLine:=by decide
 subst hla
 have hw:=xU (X:=X) (k:=k) (L:=L) (f:=f) (a:=a) (b:=b) (c:=c) F.df.len (la:=A.length) (ed:=ed) (bs:=mZ A B) (by rw[hl];exact(jX A B).good') he (fu 0xf1181200f21388290e810102f hl hB hsl) (by have:=wb (la:=A.length) (lb:=ed.length) (mZ A B) 0 0;have:=rI (bs:=B) hA;exact fu 0xf81e40e40e40e010fe82018202ba1001388290f hsl (by assumption) this)
 rw[hl]at hw
 exact hw
theorem y4(F:LG X){L f sa:Addr}{z1 z2 z3:Value}{vs:Array Value}{ns:List Int}{Q:Fl->List (Str×B)->Prop}(ha:X.h₀.IsList sa vs)(hv:IntsAre vs.toList ns)(hn:ns.length<=63)(hrest:∀ρ t n,Tx t n->LW t n ρ->iP X (k+10) (jE z1 z2 z3 L f) ρ (jQ.drop 2) Q):iP X (k+10) (jE z1 z2 z3 L f) [("script",.raw (.ref sa))] jQ Q:=by
 have hsl:5000<=sizeLine:=by decide
 have hnl:(ns++kU).length<=80:=by rw[aP];simp[kU];exact f5 0xf114a0900f3f0900f hn
 refine fe (gM (d:=.list ((uw (ns++kU) (ns++kU).length).map iD)) (kB (k:=k+9) (ds:=[iD (ns++kU)]) F.texts rfl (fg (fy (BF (by k_mem) ha hv (gH (nQ (show qy _ _ _ _ _ _ (kU.map .int)from jN (jN (jN (jN (jN (jN tj)))))) ?_)) ?_) ?_) fq) rfl fun L a b c=>uY (k:=k+7) F hnl) (.inr ⟨rfl,_,rfl⟩) ?_)
 ·rw[aB];show 6<=sizeLine;exact f5 0xf110680f01388290f hsl
 ·rw[aB];show ns.length+6<=sizeLine;exact fk 0xf1111680a0f113882903f0900f hn hsl
 ·show _=PyData.list ((ns++kU).map .int);rw[ag]
 have hT:=CN (ns++kU) (ns++kU).length
 have hTl:=tG (ns++kU)
 obtain⟨n,hTn⟩:∃n,(uw (ns++kU) (ns++kU).length).length=n+1:=⟨_,rfl⟩
 generalize uw (ns++kU) (ns++kU).length=TS at*
 have H:=EU (n:=n) hT (fu 0xf3310131e0920f182a12328a10500900f3802 hnl hTl hTn)
 have e:=Bc hTn
 rw[e]
 generalize EC TS=t at H
 have h1:fn (put [("script",B.raw (.ref sa))] "texts" (.val (.list (((List.range (n+1)).map t).map iD)))) "texts" (.val (.list (((List.range (n+1)).map t).map iD))):=Mine.hs
 generalize put [("script",B.raw (.ref sa))] "texts" (.val (.list (((List.range (n+1)).map t).map iD)))=ρ1 at h1|-
 have hlen:=H.len
 refine fe (hY (tX (ρc:=[("texts",.val (.list (((List.range (n+1)).map t).map iD)))]) (items:=gO 1 1 n) (gD t) (iq (lI F.df.range rfl ft (i7 F.df.len rfl (gH (fc h1)) (by rw[kP];exact fk 0xf1110181a0f1e091001388290f hsl hlen)) (by decide) (by rw[kP];exact fu 0xf331013f1f1000000000099182ac3182ac1000000000099e37f182a12328a10500900f3802 hnl hTl hTn)) (by rw[kP];congr 1;exact f5 0xf110f11ff108f18ff012ff0818180acd5)).weak ⟨rfl,by decide,rfl,by decide,sK.sub ⟨rfl,trivial⟩,sD.cap ⟨⟨fun h=>h,h1,rfl,rfl,_,rfl⟩,trivial⟩⟩ ?hb (by rw[wC,jL];exact fk 0xf111010f1e091001388290f hsl hlen)) (.inr ⟨rfl,_,rfl⟩) ?_)
 case hb=>
  intro C d hd;refine gR (tl hd) ?_;rintro i hi rfl;rw[show(1:Int)+(i:Int)*1=((i+1:Nat):Int)by exact f5 0xf1f1f180ac0c01f18a5ff];have t1:fn (put [("texts",B.val (.list (((List.range (n+1)).map t).map iD)))] "k" (.val (.int ((i+1:Nat):Int)))) "texts" (.val (.list (((List.range (n+1)).map t).map iD))):=by k_mem
  have k1:fn (put [("texts",B.val (.list (((List.range (n+1)).map t).map iD)))] "k" (.val (.int ((i+1:Nat):Int)))) "k" (.val (.int ((i+1:Nat):Int))):=Mine.hs;refine o8 rfl rfl (j9 ?_);show Ev X (k+10) _ _ _ (gB (t (((i+1:Nat):Int).toNat-1)) (t ((i+1:Nat):Int).toNat));rw[aq,cO];have sA:=H.short i;have sB:=H.short (i+1);have prev:∀{env:Env}{q1 q2 q3 q4 q5:Pos}{n1:Nat},Ev X (k+10) env (put [("texts",B.val (.list (((List.range (n+1)).map t).map iD)))] "k" (.val (.int ((i+1:Nat):Int)))) (.Subscript (.Name "texts" q1) (.BinOp (.Name "k" q2) .Sub (.Constant (.int 1) n1 q3) q4) q5) (iD (t i)):=lH H t1 (fy (jO (fc k1) ft) (by congr 1;exact f5 0xf1f1f0c18180acd5ff)) (fk 0xf11100f101f hi);exact kB (k:=k+9) (ds:=[.int ((t i).length:Nat),iD (Ey (t i) (t (i+1)))]) F.told rfl (fg (fy (i7 F.df.len rfl (gH prev) (by rw[aB];exact fk 0xf111010fe81001388290f hsl sA)) (by rw[aB])) (fg (kB (k:=k+9) (ds:=[iD (t i),iD (t (i+1))]) F.edit rfl (fg prev (fg (lH H t1 (fc k1) (fk 0xf111180a0f101f hi)) fq)) rfl fun L a b c=>w6 (k:=k+7) F sA sB) fq)) rfl fun L a b c=>rp F (CB _ _) rfl (zl _ _) sA sB
 rw[wC]
 refine jA (x:="due") Mine.hs ?_
 exact hrest _ t n H ⟨by k_mem,Mine.hs⟩
end
noncomputable def FG(t:Nat->List Int)(k:Nat):List Int:=if k=0 then[]else t (k-1)
noncomputable def yR(t:Nat->List Int)(k:Nat):List Int:=if k=0 then[]else t k
theorem Ap{t:Nat->List Int}{n:Nat}(H:Tx t n)(k:Nat):(yR t k).length<=14:=by
 delta yR
 split
 ·exact aV _
 ·exact H.short k
theorem zK(t:Nat->List Int)(k:Nat):gJ (mU 0 (yR t k).length) 0 (mZ (t k) (yR t k)):=by
 delta yR
 split
 ·exact xL _
 ·exact xi _
noncomputable abbrev t5(t:Nat->List Int)(k:Nat):List PyData:=(List.range k).map fun q=>gB (t q) (t (q+1))
theorem y3(t:Nat->List Int)(k:Nat):t5 t k++[gB (t k) (t (k+1))]=t5 t (k+1):=by
 delta t5
 rw[dG,ag];rfl
theorem BU(t:Nat->List Int)(k:Nat):(t5 t k).length=k:=by delta t5;rw[aB,bB]
structure LM(t:Nat->List Int)(n:Nat)(x dx:Addr)(o:Obj)(i:Nat)(ρ:List (Str×B)):Prop where
 I:LW t n ρ
 m:fn ρ "matcher" (.raw (.ref x))
 d:fn ρ "#d" (.at dx o)
 told:fn ρ "told" (.own (t5 t i))
theorem LM.k{t:Nat->List Int}{n i:Nat}{x dx:Addr}{o:Obj}{ρ:List (Str×B)}(M:LM t n x dx o i ρ){b:B}:LM t n x dx o i (put ρ "k" b):=⟨M.I.pt rfl,hn M.m rfl,hn M.d rfl,hn M.told rfl⟩
theorem LM.dd{t:Nat->List Int}{n i:Nat}{x dx:Addr}{o o':Obj}{ρ:List (Str×B)}(M:LM t n x dx o i ρ):LM t n x dx o' i (put ρ "#d" (.at dx o')):=⟨M.I.pt rfl,hn M.m rfl,hs,hn M.told rfl⟩
section
variable{X:Cx}{k:Nat}
theorem vg{env:Env}{ρ':List (Str×B)}{ss:List Stmt}{Q:Fl->List (Str×B)->SP}{x dx:Addr}{m:Str->Option Value}{as bs:List Int}{W:Addr->Prop}{bad:Addr->Prop}{O:Str->Option Addr}{s:Shared}(h:l6 X k env ρ' (fun bad O s=>mO X env x dx m as bs W bad O s/\iJ env W O s) ss Q)(p:mO X env x dx m as bs W bad O s)(q:iJ env W O s):Fa X k env ss Q .next ρ' bad O s:=⟨_,h,p,q⟩
def JL(X:Cx)(env:Env)(t:Nat->List Int)(n:Nat)(x dx:Addr)(i:Nat)(ρ:List (Str×B))(W:Addr->Prop):SP:=fun bad O s=>∃a:Obj×(Str->Option Value)×Nat,(a.2.2<=14+14*i/\gr a.1 a.2.1 a.2.2/\LM t n x dx a.1 i ρ)/\mO X env x dx a.2.1 (FG t i) (yR t i) W bad O s
theorem JL.stable{env:Env}{t:Nat->List Int}{n:Nat}{x dx:Addr}{i:Nat}{ρ:List (Str×B)}{W:Addr->Prop}:n9 X env (JL X env t n x dx i ρ W):=fun bad O O' s s' ρ' r st ⟨a,h,p⟩=>⟨a,h,mO.stable _ _ _ _ _ _ r st p⟩
noncomputable abbrev EO:List Stmt:=iQ (fh jQ 4)
theorem xR(F:LG X){L f:Addr}{z1 z2 z3:Value}{t:Nat->List Int}{n i:Nat}{x dx:Addr}{o:Obj}{m:Str->Option Value}{N:Nat}{ρ:List (Str×B)}{W:Addr->Prop}{Q:Fl->List (Str×B)->SP}(H:Tx t n)(hi:i<n)(hN:N<=14+14*i)(hao:gr o m N)(M:LM t n x dx o i ρ)(hk:fn ρ "k" (.val (.int i)))(hq:∀ρ' bad O s,JL X (jE z1 z2 z3 L f) t n x dx (i+1) ρ' W bad O s->Q .next ρ' bad O s):l6 X (k+10) (jE z1 z2 z3 L f) ρ (fun bad O s=>mO X (jE z1 z2 z3 L f) x dx m (FG t i) (yR t i) W bad O s/\iJ (jE z1 z2 z3 L f) W O s) EO Q:=by
 have hsl:5000<=sizeLine:=by decide
 have hz:=H.len
 refine jY (zB (as':=t i) F.df M.m M.d hao (Nat.lt_of_lt_of_le (m:=424) (fu 0xf0ee10ee11a819382a1f1e091000ebe8a20101f hi hN hz) (by decide)) (lH H M.I.texts (fc hk) (fk 0xf11100f101f hi)) ?_)
 intro o1 m1 N1 hN1 hao1 bad O s p al
 refine vg ?_ p al
 replace hk:fn (put ρ "#d" (.at dx o1)) "k" (.val (.int i)):=hn hk rfl
 have M:=M.dd (o':=o1)
 generalize put ρ "#d" (.at dx o1)=ρ1 at M hk|-
 clear p al s O bad
 have txt:∀{ρ:List (Str×B)}{q1 q2 q3:Pos},LW t n ρ->fn ρ "k" (.val (.int i))->Ev X (k+10) (jE z1 z2 z3 L f) ρ (.Subscript (.Name "texts" q1) (.Name "k" q2) q3) (iD (t i)):=fun I hk=>lH H I.texts (fc hk) (fk 0xf11100f101f hi)
 have len:∀{ρ:List (Str×B)}{q1 q2 q3 q4 q5:Pos},LW t n ρ->fn ρ "k" (.val (.int i))->Ev X (k+10) (jE z1 z2 z3 L f) ρ (.Call (.Name "len" q4) [.Subscript (.Name "texts" q1) (.Name "k" q2) q3] [] q5) (.int (t i).length):=fun I hk=>fy (i7 F.df.len rfl (gH (txt I hk)) (by rw[aB];have:=H.short i;exact fk 0xf111010fe81001388290f hsl this)) (by rw[aB])
 have sA:=H.short i
 have sB:=Ap H i
 refine jY (uA (d:=gB (t i) (yR t i)) F.df F.mf F.mg M.m M.d hao1 (Nat.lt_of_lt_of_le (m:=424) (gK 0xf10ee10ee11a81931f382a301e091000ebe8a20101f hi hN hz hN1) (by decide)) (f5 0xf113c0900fe800f sA) (f5 0xf113c0900fe800f sB) (fun o'=>?_) rfl (iO _ _) ?_)
 ·have M':=M.dd (o':=o');have hk':fn (put ρ1 "#d" (.at dx o')) "k" (.val (.int i)):=hn hk rfl;generalize put ρ1 "#d" (.at dx o')=ρ' at M' hk';refine kB (k:=k+9) (ds:=[.int ((t i).length:Nat),iD (mU 0 (yR t i).length)]) F.told rfl (fg (len M'.I hk') (fg (vr.ev (rP F.df.list rfl (oA (pk (n:=((yR t i).length:Nat)) F.df.range rfl (fy (oM (b:=decide (0<(i:Int))) (f0 (fc hk') ft rfl) (fun _=>len M'.I hk') (fun _=>ft)) ?_) (f5 0xf11f1f10000000000990c30c1000000000099e37fe800f sB)) ?_) ?_)) fq)) rfl fun L a b c=>rp F (gf _ _) rfl (zK t i) sA sB
  ·delta yR;by_cases h:i=0;·subst h;rfl
   ·rw[aL h,aN (by simp;exact f5 0xf1f11f0081f08026f h)]
  ·rw[aq];exact qR 0 _
  ·rw[aB,gf];exact f5 0xf11100003900fe800f sB
 intro o2 m2 N2 hN2 hao2 bad O s p al
 refine vg ?_ p al
 replace hk:fn (put ρ1 "#d" (.at dx o2)) "k" (.val (.int i)):=hn hk rfl
 have M:=M.dd (o':=o2)
 generalize put ρ1 "#d" (.at dx o2)=ρ2 at M hk|-
 clear p al s O bad
 have sC:=H.short (i+1)
 refine jY (zL (bs':=t (i+1)) F.df M.m M.d hao2 (Nat.lt_of_lt_of_le (m:=433) (i8 0xf110ee10ee11b119784a1f283a40382a301e091000ebe8a20101f hi hN hz hN1 hN2) (by decide)) (fk 0xf111010fe81001388290f hsl sC) (lH H M.I.texts (fy (f7 (fc hk) ft) (by congr 1)) (fk 0xf111180a0f101f hi)) ?_)
 intro o3 m3 N3 hN3 hao3 bad O s p al
 refine vg ?_ p al
 have M:=M.dd (o':=o3)
 generalize put ρ2 "#d" (.at dx o3)=ρ3 at M|-
 clear p al s O bad
 refine jY (om F.df F.mf F.mg M.m M.d hao3 (jr 0xf0fe0fe0fed4e0fed4e0fe3201951f784a50283a40382a301e091000ebe8a20101f hi hN hz hN1 hN2 hN3) (f5 0xf113c0900fe800f sA) (f5 0xf113c0900fe800f sC) M.told (by decide) (by rw[BU];exact fu 0xf1111200f1e091021388290101f hi hsl hz) ?_)
 intro o4 m4 N4 hN4 hao4 bad O s p al
 refine vg (zD fun bad O s p=>hq _ bad O s ⟨(o4,m4,N4),⟨?_,hao4,(M.dd (o':=o4)).I.pt rfl,hn (M.dd (o':=o4)).m rfl,hn (M.dd (o':=o4)).d rfl,?_⟩,p.1⟩) p al
 ·show N4<=14+14*(i+1);exact jr 0xf111111181a0ebe8a50f284a50783a40282a30380a2010ebe8a00f hN hN1 hN2 hN3 hN4
 ·rw[<-y3];exact Mine.hs
end
section
variable{X:Cx}{k:Nat}
theorem mO.into{env:Env}{x dx:Addr}{m:Str->Option Value}{as bs:List Int}{W:Addr->Prop}{bad:Addr->Prop}{O:Str->Option Addr}{s:Shared}(h:mO X env x dx m as bs (fun _=>False) bad O s)(hW:∀b,W b->s.heap.get? b=none):mO X env x dx m as bs W bad O s:=
 Cf h fun hm va vb S M=>⟨hm,va,vb,⟨S.keep,S.np,S.no,fun b o e w=>by have:=S.keep b o e;rw[hW b w]at this;cases this⟩,M⟩
theorem zh(F:LG X){L f:Addr}{z1 z2 z3:Value}{t:Nat->List Int}{n:Nat}{ρ:List (Str×B)}{Q:Fl->List (Str×B)->Prop}(H:Tx t n)(I:LW t n ρ)(hrest:∀ρ',LW t n ρ'->fn ρ' "told" (.val (.list (t5 t n)))->iP X (k+10) (jE z1 z2 z3 L f) ρ' (jQ.drop 5) Q):iP X (k+10) (jE z1 z2 z3 L f) ρ (jQ.drop 2) Q:=by
 have hsl:5000<=sizeLine:=by decide
 have hz:=H.len
 refine A3 (jY (tM F.df F.sm F.kp F.made rfl (.inl rfl) (by decide) ?_))
 intro x dx o m hao bad O s p
 refine⟨fun bad O s=>mO X (jE z1 z2 z3 L f) x dx m [] [] (fun _=>False) bad O s,?_,p⟩
 clear p s O bad
 have I1:LW t n (put (put ρ "#d" (.at dx o)) "matcher" (.raw (.ref x))):=(I.pt rfl).pt rfl
 have m1:fn (put (put ρ "#d" (.at dx o)) "matcher" (.raw (.ref x))) "matcher" (.raw (.ref x)):=Mine.hs
 have d1:fn (put (put ρ "#d" (.at dx o)) "matcher" (.raw (.ref x))) "#d" (.at dx o):=by k_mem
 generalize put (put ρ "#d" (.at dx o)) "matcher" (.raw (.ref x))=ρ1 at I1 m1 d1|-
 refine jY (BH (Q0:=fun fl ρ'=>fl=.next/\ρ'=put ρ1 "told" (.own [])) (hY (iu fq (aV _)) (.inl rfl) ⟨rfl,rfl⟩) mO.stable ?_)
 rintro _ _ ⟨rfl,rfl⟩bad O s p
 refine⟨fun bad O s=>mO X (jE z1 z2 z3 L f) x dx m [] [] (fun _=>False) bad O s,?_,p⟩
 clear p s O bad
 have M0:LM t n x dx o 0 (put ρ1 "told" (.own [])):=⟨I1.pt rfl,hn m1 rfl,hn d1 rfl,Mine.hs⟩
 generalize put ρ1 "told" (.own [])=ρ2 at M0|-
 refine jY (BW (items:=gO 0 1 n) (iq (i9 F.df.range rfl (i7 F.df.len rfl (gH (fc M0.I.due)) (by rw[jL];exact fk 0xf111010f1e091001388290f hsl hz)) (by rw[jL];exact f5 0xf11f1f10000000000990c30c1000000000099e37f1e0900f hz)) (by rw[jL,aq])) (fun i ρ W=>JL X (jE z1 z2 z3 L f) t n x dx i ρ W) ?_ (fun i ρ W=>JL.stable) ?_ ?_ ?_)
 ·intro W bad O s s2 x2 hW p;obtain⟨hm,va,vb,S,M⟩:=p.into hW;exact⟨(o,m,14),⟨aH _,hao,M0⟩,hm,va,vb,S.step (f8.of_ext x2),M⟩
 ·rintro i ρ' W bad O s h' tk ⟨a,h,p⟩kp;exact⟨a,h,p.draw kp⟩
 ·intro i d ρ' W hd _;have hj:i<n:=by have:=(List.getElem?_eq_some_iff.mp hd).1;rwa [fx]at this
  rw[hH hj]at hd;cases hd;rw[show(0:Int)+(i:Int)*1=(i:Int)by exact f5 0xf1f1f0c0c01f08a5ff];refine⟨_,fo (.inl rfl),?_⟩;refine As (P':=fun(a:Obj×(Str->Option Value)×Nat)bad O s=>(a.2.2<=14+14*i/\gr a.1 a.2.1 a.2.2/\LM t n x dx a.1 i ρ')/\mO X (jE z1 z2 z3 L f) x dx a.2.1 (FG t i) (yR t i) W bad O s/\iJ (jE z1 z2 z3 L f) W O s) (fun bad O s p=>let⟨⟨a,h,q⟩,al⟩:=p;⟨a,h,q,al⟩) ?_;rintro⟨o',m',N⟩;refine rU (fun bad O s p=>p.1) fun h=>?_;refine qd h fun h1 h2 M=>?_;exact l6.pre (xR F H hj h1 h2 M.k Mine.hs fun ρ' bad O s p=>p) fun bad O s p=>p.2
 ·intro ρ' W bad O s p;rw[fx]at p;refine⟨JL X (jE z1 z2 z3 L f) t n x dx n ρ' W,?_,p⟩;refine rU (φ:=∃o',LM t n x dx o' n ρ') (fun bad O s p=>let⟨a,h,_⟩:=p;⟨_,h.2.2⟩) fun h=>?_;obtain⟨o',M⟩:=h;exact CC (jA M.told (hrest _ (M.I.pt rfl) Mine.hs))
end
noncomputable abbrev jP(V:List (List Int)):PyData:=.list (V.map iD)
noncomputable def gS(t:Nat->List Int)(n:Nat):PyData->List PyData
 |.int m=>[jP (ie t (t m.toNat) m.toNat n)]
 |_=>[]
noncomputable def oy(t:Nat->List Int)(n:Nat):List (List (List Int)):=(List.range (n+1)).map fun m=>ie t (t m) m n
theorem wx(t:Nat->List Int)(n:Nat):(gO 0 1 (n+1)).flatMap (gS t n)=(oy t n).map jP:=by
 delta gO oy
 rw[d9,cK,dQ]
 refine ij fun m _=>?_
 show[jP (ie t (t (0+(m:Int)*1).toNat) (0+(m:Int)*1).toNat n)]=_
 rw[show(0+(m:Int)*1).toNat=m by exact f5 0xf110f11ff108f18ff012ff080c01f08a5];rfl
theorem o6(t:Nat->List Int)(n:Nat):((oy t n).map jP).length=n+1:=by delta oy;rw[aB,aB,bB]
theorem AB{t:Nat->List Int}{n m:Nat}(h:m<=n):((oy t n).map jP)[m]?=some (jP (ie t (t m) m n)):=by
 delta oy
 rw[aS,aS,ck (eX h)];rfl
noncomputable def gP(f:Int×Int->Int):PyData->List PyData
 |.tuple [.int x,.int y]=>[.int (f (x,y))]
 |_=>[]
noncomputable def Fe(f:Int×Int->Int):PyData->List PyData
 |.tuple [.list as,.list bs]=>[.list ((sH as bs).flatMap (gP f))]
 |_=>[]
theorem wt(f:Int×Int->Int)(A B:List Int):(sH (A.map .int) (B.map .int)).flatMap (gP f)=((A.zip B).map f).map .int:=by
 delta sH
 rw[List.zip_map,cK,cK,d9,dQ]
 exact ij fun p _=>rfl
theorem t7(f:Int×Int->Int)(V W:List (List Int)):(sH (V.map iD) (W.map iD)).flatMap (Fe f)=((V.zip W).map fun p=>(p.1.zip p.2).map f).map iD:=by
 delta sH
 rw[List.zip_map,cK,cK,d9,dQ]
 refine ij fun p _=>?_
 show[PyData.list ((sH (p.1.map .int) (p.2.map .int)).flatMap (gP f))]=_
 rw[wt];rfl
theorem tR{as bs:List PyData}{x:PyData}(h:x∈sH as bs):∃a b,a∈as/\b∈bs/\x=.tuple [a,b]:=by
 refine gR (List.mem_map.mp h) ?_;rintro⟨a,b⟩hp rfl
 exact⟨a,b,(dF hp).1,(dF hp).2,rfl⟩
def sx(V:List (List Int)):Prop:=V.length<=31/\∀A∈V,A.length<=14
section
variable{X:Cx}{k:Nat}
theorem v8(F:LG X){env:Env}{ρ:List (Str×B)}{u v x y:Str}{e e' elt:Expr}{sc sc2:Scope}{p p1 p2 p3 p4 p5 p6 p7 p8 p9 p10 p11 p12 p13:Pos}{n1 n2:Nat}{f:Int×Int->Int}{V W:List (List Int)}(he:Ev X k env ρ e (jP V))(he':Ev X k env ρ e' (jP W))(hV:sx V)(hW:sx W)(hz:env.kindOf ("zip":Str)=some .globalImplicit)(hst:starEach [e,e'] env=[(false,eval e env),(false,eval e' env)])(hst2:starEach [e'] env=[(false,eval e' env)])(hc:pW env ρ [] sc [])(hin:∀C A B,pW (compEnvC sc [] C env) (put (put [] u (.val (iD A))) v (.val (iD B))) [] sc2 [])(hzi:∀C,(compEnvC sc [] C env).kindOf ("zip":Str)=some .globalImplicit)(hu:∀C,(compEnvC sc [] C env).kindOf u=some .local)(hv:∀C,(compEnvC sc [] C env).kindOf v=some .local)(hx:∀C C2,(compEnvC sc2 [] C2 (compEnvC sc [] C env)).kindOf x=some .local)(hy:∀C C2,(compEnvC sc2 [] C2 (compEnvC sc [] C env)).kindOf y=some .local)(huv:j6 u v=true)(hud:(u==("__debug__":Str))=false)(hvd:(v==("__debug__":Str))=false)(helt:∀C C2 a b,Ev X k (compEnvC sc2 [] C2 (compEnvC sc [] C env)) (put (put [] x (.val (.int a))) y (.val (.int b))) elt (.int (f (a,b)))):Ev X k env ρ (.ListComp (.ListComp elt [⟨.Tuple [.Name x p1,.Name y p2] n1 p3,.Call (.Name "zip" p4) [.Name u p5,.Name v p6] [] p7,[],0⟩] sc2 p8) [⟨.Tuple [.Name u p9,.Name v p10] n2 p11,.Call (.Name "zip" p12) [e,e'] [] p,[],0⟩] sc p13) (jP ((V.zip W).map fun p=>(p.1.zip p.2).map f)):=by
 have hsl:5000<=sizeLine:=by decide
 refine fy (vr.ev (oF (tree:=fun env=>kE _ env) (Fe f) (wR F.zip hz he he' hst hst2) hc (fun C=>nI rfl rfl) ?_ ?_)) (congrArg PyData.list (t7 f V W))
 ·intro C d hd;refine jq (tR hd) ?_;rintro _ _ ha hb rfl;refine gR (List.mem_map.mp ha) ?_;rintro A hA rfl;refine gR (List.mem_map.mp hb) ?_;rintro B hB rfl;refine⟨_,true,pz (lR (j7 (hu C)) (lR (j7 (hv C)) rF)) rfl rfl,(fun y c e=>by cases e),pg,fun _=>j9 (vr.ev (oF (tree:=fun env=>kE _ env) (gP f) (wR F.zip (hzi C) (fc (d:=iD A) (hn Mine.hs huv) hud) (fc (d:=iD B) Mine.hs hvd)) (hin C A B) (fun C2=>nI rfl rfl) ?_ ?_)),fun hb=>by cases hb⟩
  ·intro C2 d hd;refine jq (tR hd) ?_;rintro _ _ ha hb rfl;refine gR (List.mem_map.mp ha) ?_;rintro a _ rfl;refine gR (List.mem_map.mp hb) ?_;rintro b _ rfl;exact⟨_,true,pz (lR (j7 (hx C C2)) (lR (j7 (hy C C2)) rF)) rfl rfl,(fun y c e=>by cases e),pg,fun _=>j9 (helt C C2 a b),fun hb=>by cases hb⟩
  ·have:=hV.2 A hA;rw[wt,aB,aB,dh];exact fu 0xf11118f11108f030fe81001388290f213 hsl this
 ·have:=hV.1;rw[t7,aB,aB,dh];exact fu 0xf11118f11108f030f1f091001388290f213 hsl this
end
theorem mw{t:Nat->List Int}{n m:Nat}{row:List Int}(H:Tx t n)(L:sX t m row)(hb:jR row 100):sx (ie t row m n):=by
 refine⟨by rw[lZ];have:=H.len;exact f5 0xf111f09180a0f1e0900f this,fun A hA=>?_⟩
 refine gR (List.mem_map.mp hA) ?_;rintro q _ rfl
 rw[nD H.short L hb q]
 exact H.short q
theorem xb{t:Nat->List Int}{n:Nat}(H:Tx t n):sx ((List.range (n+1)).map t):=by
 refine⟨by rw[aB,bB];have:=H.len;exact f5 0xf111f09180a0f1e0900f this,fun A hA=>?_⟩
 refine gR (List.mem_map.mp hA) ?_;rintro q _ rfl
 exact H.short q
noncomputable def yK(t:Nat->List Int)(n:Nat):List (List (List Int)):=oy t n++[kG t n]++[mB t n]
theorem CL{t:Nat->List Int}{n:Nat}(H:Tx t n):∀V∈yK t n,EK t n V:=by
 intro V hV
 delta yK at hV
 rcases aY.mp hV with hV|hV
 ·rcases aY.mp hV with hV|hV
  ·refine gR (List.mem_map.mp hV) ?_;rintro m _ rfl;exact Bk H.short (H.ltr m) (H.below m)
  ·rw[aa.mp hV];exact Ay H
 ·rw[aa.mp hV];exact AC H
structure LV(t:Nat->List Int)(n:Nat)(ρ:List (Str×B)):Prop where
 due:fn ρ "due" (.val (.list ((li t n).map dD)))
 views:fn ρ "views" (.val (.list ((yK t n).map jP)))
 names:fn ρ "names" (.val (jP (iL t n)))
 told:fn ρ "told" (.val (.list (t5 t n)))
section
variable{X:Cx}{k:Nat}
theorem vd(F:LG X){env:Env}{ρ:List (Str×B)}{t:Nat->List Int}{n m:Nat}{row:List Int}{p p1 pd:Pos}{e em:Expr}(H:Tx t n)(hk:env.kindOf ("_law_seen":Str)=some .globalImplicit)(hm:m<=n)(L:sX t m row)(hb:jR row 100)(h:Ev X (k+10) env ρ e (iD row))(h':Ev X (k+10) env ρ em (.int m))(hd:fn ρ "due" (.val (.list ((li t n).map dD))))(hst:autoParam (starEach [e,em,.Name "due" pd] env=[(false,eval e env),(false,eval em env),(false,eval (.Name "due" pd) env)]) aR)(hst2:autoParam (starEach [em,.Name "due" pd] env=[(false,eval em env),(false,eval (.Name "due" pd) env)]) aR):Ev X (k+10) env ρ (.Call (.Name "_law_seen" p) [e,em,.Name "due" pd] [] p1) (jP (ie t row m n)):=
 kB (k:=k+9) (ds:=[iD row,.int m,.list ((li t n).map dD)]) F.seen hk (fg h (fg h' (fg (fc hd) fq rfl) (by rw[hst2];rfl)) (by rw[hst,hst2])) rfl (he:=by rw[hst,hst2]) fun L' a b c=>by
  have hw:=xl (X:=X) (k:=k+7) (L:=L') (f:=279) (a:=a) (b:=b) (c:=c) F (Cw t n) H.short H.len hm (row:=row) fun q=>by rw[nD H.short L hb q];exact H.short q
  have e:jP (ie t row m n)=.list ((List.range (n+1)).map fun q=>iD (gq t row m q)):=by delta ie;rw[jP,cK];rfl
  rw[e];exact hw
theorem F5(F:LG X){L f:Addr}{z1 z2 z3:Value}{t:Nat->List Int}{n:Nat}{ρ:List (Str×B)}{Q:Fl->List (Str×B)->Prop}(H:Tx t n)(I:LW t n ρ)(hq:Q .next (put ρ "views" (.own ((oy t n).map jP)))):jz X (k+10) (jE z1 z2 z3 L f) ρ (fh jQ 5) Q:=by
 have hsl:5000<=sizeLine:=by decide
 have hz:=H.len
 rw[<-wx]at hq
 refine me (ρc:=[("texts",.val (.list (((List.range (n+1)).map t).map iD))),("due",.val (.list ((li t n).map dD)))]) (items:=gO 0 1 (n+1)) (gS t n) (iq (i9 F.df.range rfl (i7 F.df.len rfl (gH (fc I.texts)) (by rw[kP];exact fk 0xf1110181a0f1e091001388290f hsl hz)) (by rw[kP];exact f5 0xf11f1f1000000000099180ac3180ac1000000000099e37f1e0900f hz)) (by rw[kP,aq])).weak ⟨rfl,by decide,rfl,by decide,sK.sub ⟨rfl,rfl,trivial⟩,sD.cap ⟨⟨fun h=>h,I.texts,rfl,rfl,_,rfl⟩,⟨fun h=>h,I.due,rfl,rfl,_,rfl⟩,trivial⟩⟩ ?hb (by rw[wx,o6];exact fk 0xf1110181a0f1e091001388290f hsl hz) (.inl rfl) hq
 case hb=>
  intro C d hd;refine gR (tl hd) ?_;rintro i hi rfl;rw[show(0:Int)+(i:Int)*1=(i:Int)by exact f5 0xf1f1f0c0c01f08a5ff];have t1:fn (put [("texts",B.val (.list (((List.range (n+1)).map t).map iD))),("due",.val (.list ((li t n).map dD)))] "m" (.val (.int (i:Int)))) "texts" (.val (.list (((List.range (n+1)).map t).map iD))):=by k_mem
  have d1:fn (put [("texts",B.val (.list (((List.range (n+1)).map t).map iD))),("due",.val (.list ((li t n).map dD)))] "m" (.val (.int (i:Int)))) "due" (.val (.list ((li t n).map dD))):=by k_mem
  have k1:fn (put [("texts",B.val (.list (((List.range (n+1)).map t).map iD))),("due",.val (.list ((li t n).map dD)))] "m" (.val (.int (i:Int)))) "m" (.val (.int (i:Int))):=by k_mem
  refine o8 rfl rfl (j9 ?_);show Ev X (k+10) _ _ _ (jP (ie t (t (i:Int).toNat) (i:Int).toNat n));rw[aq];exact vd F H rfl (fk 0xf11100f181a01f hi) (H.ltr i) (H.below i) (lH H t1 (fc k1) (fk 0xf11100f181a01f hi)) (fc k1) d1
end
section
variable{X:Cx}{k:Nat}
theorem ER(F:LG X){L f:Addr}{z1 z2 z3:Value}{t:Nat->List Int}{n:Nat}{ρ:List (Str×B)}(H:Tx t n)(v1:fn ρ "views" (.own ((oy t n).map jP))):Ev X (k+10) (jE z1 z2 z3 L f) ρ (wK (v7 (fh jQ 6)) 0) (jP (kG t n)):=by
 have hsl:5000<=sizeLine:=by decide
 have hz:=H.len
 have vl:=o6 t n
 have s0:=mw (m:=0) H (H.ltr 0) (H.below 0)
 have sn:=mw (m:=n) H (H.ltr n) (H.below n)
 refine v8 F (f:=fC) (jM (n:=((0:Nat):Int)) (jy v1) ft (f5 0xf108c0ce3ff) (fk 0xf110c08c4f181a02f vl) (fu 0xf8111020f181a221e091001388290f hsl hz vl) (by rw[jW];exact AB (aV _))) (jM (n:=-1) (jy v1) (ml ft) (fk 0xf1118e0ce3f181a02f vl) (f5 0xf10c18e4ff) (fu 0xf8111020f181a221e091001388290f hsl hz vl) (by rw[pY (by exact fk 0xf110081f181a02f vl),vl];exact AB (aH _))) s0 sn rfl rfl rfl ⟨rfl,by decide,rfl,by decide,(fun n c e=>by cases e),(fun y b e=>by cases e)⟩ (fun C A B=>⟨rfl,by decide,rfl,by decide,(fun n c e=>by cases e),(fun y b e=>by cases e)⟩) (fun C=>rfl) (fun C=>rfl) (fun C=>rfl) (fun C C2=>rfl) (fun C C2=>rfl) rfl (by decide) (by decide) fun C C2 a b=>?_
 refine fy (oM (b:=decide (a<100)) (f0 (fc (by k_mem)) ft rfl) (fun _=>fc (d:=.int a) (by k_mem)) (fun _=>fc (d:=.int b) (by k_mem))) ?_
 delta fC
 by_cases h:a<100
 ·rw[aN h,aN (bH h)]
 ·rw[aL h,aL (by simpa using h)]
theorem F2(F:LG X){L f:Addr}{z1 z2 z3:Value}{t:Nat->List Int}{n:Nat}{ρ:List (Str×B)}{Q:Fl->List (Str×B)->Prop}(H:Tx t n)(v1:fn ρ "views" (.own ((oy t n).map jP)))(hq:Q .next (put ρ "views" (.own ((oy t n).map jP++[jP (kG t n)])))):jz X (k+10) (jE z1 z2 z3 L f) ρ (fh jQ 6) Q:=by
 have hsl:5000<=sizeLine:=by decide
 have hz:=H.len
 exact gw v1 (ER F H v1) (by rw[o6];exact fk 0xf1110181a0f1e091001388290f hsl hz) hq
theorem Ef(F:LG X){L f:Addr}{z1 z2 z3:Value}{t:Nat->List Int}{n:Nat}{ρ:List (Str×B)}(H:Tx t n)(I:LW t n ρ):Ev X (k+10) (jE z1 z2 z3 L f) ρ (uy (fh jQ 7)) (jP (iL t n)):=by
 have hsl:5000<=sizeLine:=by decide
 have hz:=H.len
 refine vd (m:=0) F H rfl (aV _) nW (mF H) (vr.ev (rP F.df.list rfl (oA (pk (n:=((t 0).length:Nat)) F.df.range rfl (fy (i7 F.df.len rfl (gH (lH (i:=0) H I.texts ft (aV _))) ?_) ?_) ?_) ?_) ?_)) ft I.due
 ·have:=H.short 0;rw[aB];exact fk 0xf111010fe81001388290f hsl this
 ·rw[aB]
 ·have:=H.short 0;exact f5 0xf11f1f10000000000990c30c1000000000099e37fe800f this
 ·rw[aq];exact qR 0 _
 ·have:=H.short 0;rw[aB,gf];exact f5 0xf11100003900fe800f this
theorem EY(F:LG X){L f:Addr}{z1 z2 z3:Value}{t:Nat->List Int}{n:Nat}{ρ:List (Str×B)}(H:Tx t n)(I:LW t n ρ)(hnm:fn ρ "names" (.val (jP (iL t n)))):Ev X (k+10) (jE z1 z2 z3 L f) ρ (wK (v7 (fh jQ 8)) 0) (jP (mB t n)):=by
 have hsl:5000<=sizeLine:=by decide
 have hz:=H.len
 have sn:sx (iL t n):=mw H nW (mF H)
 have d1:∀y:Int,Builtin.divisionGoesByPylong y 100=false:=fun y=>dZ (by decide)
 refine v8 F (f:=fN) (fc I.texts) (fc hnm) (xb H) sn rfl rfl rfl ⟨rfl,by decide,rfl,by decide,(fun n c e=>by cases e),(fun y b e=>by cases e)⟩ (fun C A B=>⟨rfl,by decide,rfl,by decide,(fun n c e=>by cases e),(fun y b e=>by cases e)⟩) (fun C=>rfl) (fun C=>rfl) (fun C=>rfl) (fun C C2=>rfl) (fun C C2=>rfl) rfl (by decide) (by decide) fun C C2 a b=>?_
 exact f7 (fc (by k_mem)) (yY ft (mE (qV (fc (by k_mem)) ft (by decide) (d1 _)) ft (by decide)) (.of_left (by decide)))
theorem Fx(F:LG X){L f:Addr}{z1 z2 z3:Value}{t:Nat->List Int}{n:Nat}{ρ:List (Str×B)}{Q:Fl->List (Str×B)->Prop}(H:Tx t n)(I:LW t n ρ)(hnm:fn ρ "names" (.val (jP (iL t n)))){ds:List PyData}(hz:ds.length<=1000)(v1:fn ρ "views" (.own ds))(hq:Q .next (put ρ "views" (.own (ds++[jP (mB t n)])))):jz X (k+10) (jE z1 z2 z3 L f) ρ (fh jQ 8) Q:=by
 have hsl:5000<=sizeLine:=by decide
 exact gw v1 (EY F H I hnm) (fk 0xf111100f113882903e81900f hz hsl) hq
end
theorem LV.pt{t:Nat->List Int}{n:Nat}{ρ:List (Str×B)}(I:LV t n ρ){z:Str}{b:B}(h:(j6 "due" z&&(j6 "views" z&&(j6 "names" z&&j6 "told" z)))=true):LV t n (put ρ z b):=by
 simp only[ad]at h
 exact⟨hn I.due h.1,hn I.views h.2.1,hn I.names h.2.2.1,hn I.told h.2.2.2⟩
section
variable{X:Cx}{k:Nat}
theorem xT(F:LG X){L f:Addr}{z1 z2 z3:Value}{t:Nat->List Int}{n:Nat}{ρ:List (Str×B)}{Q:Fl->List (Str×B)->Prop}(H:Tx t n)(I:LW t n ρ)(ht:fn ρ "told" (.val (.list (t5 t n))))(hrest:∀ρ',LV t n ρ'->iP X (k+10) (jE z1 z2 z3 L f) ρ' (jQ.drop 9) Q):iP X (k+10) (jE z1 z2 z3 L f) ρ (jQ.drop 5) Q:=by
 have hz:=H.len
 have vl:=o6 t n
 refine fe (F5 F H I ?_)
 have I1:LW t n (put ρ "views" (.own ((oy t n).map jP))):=I.pt rfl
 have v1:fn (put ρ "views" (.own ((oy t n).map jP))) "views" (.own ((oy t n).map jP)):=Mine.hs
 replace ht:fn (put ρ "views" (.own ((oy t n).map jP))) "told" (.val (.list (t5 t n))):=hn ht rfl
 generalize put ρ "views" (.own ((oy t n).map jP))=ρ1 at I1 v1 ht|-
 refine fe (F2 F H v1 ?_)
 have e1:(oy t n).map jP++[jP (kG t n)]=(oy t n++[kG t n]).map jP:=by rw[ag];rfl
 rw[e1]
 replace I1:LW t n (put ρ1 "views" (.own ((oy t n++[kG t n]).map jP))):=I1.pt rfl
 replace v1:fn (put ρ1 "views" (.own ((oy t n++[kG t n]).map jP))) "views" (.own ((oy t n++[kG t n]).map jP)):=Mine.hs
 replace ht:fn (put ρ1 "views" (.own ((oy t n++[kG t n]).map jP))) "told" (.val (.list (t5 t n))):=hn ht rfl
 generalize put ρ1 "views" (.own ((oy t n++[kG t n]).map jP))=ρ2 at I1 v1 ht|-
 refine fe (gM (Ef F H I1) (.inl rfl) ?_)
 replace I1:LW t n (put ρ2 "names" (.val (jP (iL t n)))):=I1.pt rfl
 replace v1:fn (put ρ2 "names" (.val (jP (iL t n)))) "views" (.own ((oy t n++[kG t n]).map jP)):=hn v1 rfl
 replace ht:fn (put ρ2 "names" (.val (jP (iL t n)))) "told" (.val (.list (t5 t n))):=hn ht rfl
 have n1:fn (put ρ2 "names" (.val (jP (iL t n)))) "names" (.val (jP (iL t n))):=Mine.hs
 generalize put ρ2 "names" (.val (jP (iL t n)))=ρ3 at I1 v1 ht n1|-
 refine fe (Fx F H I1 n1 (by rw[ag,aP,vl,aB];show n+1+1<=1000;exact f5 0xf113e81918180aa0f1e0900f hz) v1 ?_)
 have e2:(oy t n++[kG t n]).map jP++[jP (mB t n)]=(yK t n).map jP:=by delta yK;rw[ag (l₂:=[mB t n])];rfl
 rw[e2]
 refine jA (x:="views") Mine.hs ?_
 exact hrest _ ⟨by have:=I1.due;k_mem,Mine.hs,by k_mem,by k_mem⟩
noncomputable abbrev EV:List Stmt:=iQ (fh jQ 9)
noncomputable abbrev Dn:List Stmt:=iQ (fh EV 0)
theorem zn{env:Env}{ρ:List (Str×B)}{x:Str}{V:List (List Int)}{A:List Int}{i:Nat}{idx:Expr}{p p1:Pos}(h:fn ρ x (.val (jP V)))(hd:(x==("__debug__":Str))=false)(hi:Ev X k env ρ idx (.int i))(hV:V.length<=1000)(hA:V[i]?=some A)(hs:autoParam (∀a u,subscripted idx false (.ref a) (.int (i:Int) u)=operate [.ref a,.int (i:Int) u] (getItem (.ref a) (.int (i:Int) u))) aJ):Ev X k env ρ (.Subscript (.Name x p) idx p1) (iD A):=by
 have hsl:5000<=sizeLine:=by decide
 have hl:=(List.getElem?_eq_some_iff.mp hA).1
 exact jM (n:=(i:Int)) (gH (fc h hd)) hi (by exact fk 0xf11c0ce3ff) (by rw[aB];exact fk 0xf111c0c4f101f hl) (by rw[aB];exact fk 0xf111100f113882903e81900f hV hsl) (by rw[jW,aS,hA];rfl) hs
theorem xC(F:LG X){L f:Addr}{z1 z2 z3:Value}{t:Nat->List Int}{n i:Nat}{V:List (List Int)}{ρ:List (Str×B)}{Q:Fl->List (Str×B)->Prop}(H:Tx t n)(hV:EK t n V)(hi:i<n)(I:LV t n ρ)(hv:fn ρ "view" (.val (jP V)))(hk:fn ρ "k" (.val (.int i)))(hq:Q .next ρ):iP X (k+10) (jE z1 z2 z3 L f) ρ Dn Q:=by
 have hsl:5000<=sizeLine:=by decide
 have hz:=H.len
 have hl:=hV.len
 have g1:V[i]?=some V[i]:=aK (by exact fu 0xf111201f181a22101f hi hl)
 have g2:V[i+1]?=some V[i+1]:=aK (by exact fu 0xf1112180a1f181a22101f hi hl)
 have A:=hV.adj i _ _ hi g1 g2
 generalize V[i]=a at g1 A
 generalize V[i+1]=b at g2 A
 have ha:a.length<=14:=by rw[A.la];exact H.short i
 have hb:b.length<=14:=by rw[A.lb];exact H.short (i+1)
 refine fe (gu (gd (b':=false) (zV (da:=gB a b) (db:=gB (t i) (t (i+1))) (qF (k:=k+4) F.df F.mf F.mg F.sm F.kp F.made rfl (zn hv (by decide) (fc hk) (by exact fk 0xf8113e81910f180a121e0900f hz hl) g1) (zn hv (by decide) (fy (f7 (fc hk) ft) (by congr 1)) (by exact fk 0xf8113e81910f180a121e0900f hz hl) g2) (by exact f5 0xf113e81900fe800f ha) (by exact f5 0xf113e81900fe800f hb) (yd ha)) (jM (n:=(i:Int)) (gH (fc I.due)) (fc hk) (by exact fk 0xf11c0ce3ff) (by rw[jL];exact fk 0xf111c0c4f101f hi) (by rw[jL];exact fk 0xf111010f1e091001388290f hsl hz) (by rw[jW];exact CM hi)) (iO _ _) (iO _ _) (cV _)) ?_) (fun hb=>by cases hb) fun _=>fj (fj hq))
 rw[xx A.la A.lb A.sof,qI (iO _ _)];rfl
theorem zo(F:LG X){L f:Addr}{z1 z2 z3:Value}{t:Nat->List Int}{n:Nat}{ρ:List (Str×B)}{Q:Fl->List (Str×B)->Prop}(H:Tx t n)(I:LV t n ρ)(hrest:∀ρ',LV t n ρ'->Q .next ρ'):jz X (k+10) (jE z1 z2 z3 L f) ρ (fh jQ 9) Q:=by
 have hsl:5000<=sizeLine:=by decide
 have hz:=H.len
 refine ip (items:=(yK t n).map jP) (jK (fc I.views)) (fun _ ρ=>LV t n ρ) I ?_ fun ρ1 I=>hrest _ I
 intro i d ρ1 hd I Q1 H1
 rw[aS]at hd
 refine gR (Option.map_eq_some_iff.mp hd) ?_;rintro V hV rfl
 have hV:=CL H V (ay hV)
 refine⟨_,fo (.inl rfl),?_⟩
 have I1:=I.pt (z:="view") (b:=.val (jP V)) rfl
 have v1:fn (put ρ1 "view" (.val (jP V))) "view" (.val (jP V)):=Mine.hs
 generalize put ρ1 "view" (.val (jP V))=ρ2 at I1 v1|-
 refine fe (ip (items:=gO 0 1 n) (iq (i9 F.df.range rfl (i7 F.df.len rfl (gH (fc I1.due)) (by rw[jL];exact fk 0xf111010f1e091001388290f hsl hz)) (by rw[jL];exact f5 0xf11f1f10000000000990c30c1000000000099e37f1e0900f hz)) (by rw[jL,aq])) (fun _ ρ=>LV t n ρ/\fn ρ "view" (.val (jP V))) ⟨I1,v1⟩ ?_ fun ρ3 J=>fj (H1.next J.1))
 rintro j d ρ3 hd ⟨I3,v3⟩Q2 H2
 have hj:j<n:=by have:=(List.getElem?_eq_some_iff.mp hd).1;rwa [fx]at this
 rw[hH hj]at hd
 cases hd
 rw[show(0:Int)+(j:Int)*1=(j:Int)by exact f5 0xf1f1f0c0c01f08a5ff]
 exact⟨_,fo (.inl rfl),xC F H hV hj (I3.pt rfl) (hn v3 rfl) Mine.hs (H2.next ⟨I3.pt rfl,hn v3 rfl⟩)⟩
end
section
variable{X:Cx}{k:Nat}
noncomputable abbrev D8:List Stmt:=iQ (fh jQ 10)
noncomputable abbrev yj:List Stmt:=iQ (fh D8 0)
theorem By(F:LG X){L f:Addr}{z1 z2 z3:Value}{A A2:List Int}{ρ:List (Str×B)}(he:gJ (nC A A2) 0 (mZ A A2))(hA:A.length<=14)(hB:A2.length<=14)(ho:fn ρ "old" (.val (iD A)))(hw:fn ρ "new" (.val (iD A2))):Ev X (k+10) (jE z1 z2 z3 L f) ρ (uy (fh yj 0)) (gB A A2):=by
 have hsl:5000<=sizeLine:=by decide
 have hil:=td A A2
 refine kB (k:=k+9) (ds:=[.int (A.length:Nat),iD (nC A A2)]) F.told rfl (fg (kW F.df.len rfl ho (f5 0xf113e81900fe800f hA)) (fg (fy (vr.ev (tX (ρc:=[("old",.val (iD A))]) (items:=A2.map .int) (gI A) (jK (fc hw)).weak ⟨rfl,by decide,rfl,by decide,sK.sub ⟨rfl,trivial⟩,sD.cap ⟨⟨fun h=>h,ho,rfl,rfl,_,rfl⟩,trivial⟩⟩ ?_ ?_)) ?_) fq)) rfl fun L a b c=>rp F hil rfl he hA hB
 ·intro C d hd;refine gR (List.mem_map.mp hd) ?_;rintro v hv rfl;refine o8 rfl rfl (j9 (fy (oM (DZ (v:=v) (ns:=A) (fc (by k_mem)) (gH (fc (by k_mem)))) (fun hb=>yi (ns:=A) (v:=v) (gH (fc (by k_mem))) (fc (by k_mem)) (of_decide_eq_true hb) (f5 0xf111000004900fe800f hA)) (fun _=>ml ft)) ?_));by_cases hc:v∈A;·rw[aN hc,aN (bH hc)]
  ·rw[aL hc,aL (by simpa using hc)]
 ·rw[wL,aB,hil];exact fk 0xf111100f11388290e800f hB hsl
 ·rw[wL]
theorem xZ(F:LG X){L f:Addr}{z1 z2 z3:Value}{t:Nat->List Int}{n:Nat}{A A2:List Int}{ρ:List (Str×B)}{Q:Fl->List (Str×B)->Prop}(H:Tx t n)(hA:A∈iL t n)(hB:A2∈iL t n)(ho:fn ρ "old" (.val (iD A)))(hw:fn ρ "new" (.val (iD A2)))(hq:Q .next (put ρ "live" (.val (gB A A2)))):iP X (k+10) (jE z1 z2 z3 L f) ρ yj Q:=by
 have hsl:5000<=sizeLine:=by decide
 refine qd (ua H hA hB) fun he ha hb=>?_
 refine fe (gM (By F he ha hb ho hw) (.inl rfl) ?_)
 have o1:fn (put ρ "live" (.val (gB A A2))) "old" (.val (iD A)):=hn ho rfl
 have w1:fn (put ρ "live" (.val (gB A A2))) "new" (.val (iD A2)):=hn hw rfl
 have l1:fn (put ρ "live" (.val (gB A A2))) "live" (.val (gB A A2)):=Mine.hs
 generalize put ρ "live" (.val (gB A A2))=ρ1 at o1 w1 l1 hq|-
 refine fe (gu (gd (b':=false) (zV (da:=gB A A2) (db:=gB A A2) (qF (k:=k+4) F.df F.mf F.mg F.sm F.kp F.made rfl (fc o1) (fc w1) (f5 0xf113e81900fe800f ha) (f5 0xf113e81900fe800f hb) (yd ha)) (fc l1) (iO _ _) (iO _ _) (cV _)) ?_) (fun hb=>by cases hb) fun _=>fj (fj hq))
 rw[qI (iO _ _)];rfl
theorem yF(F:LG X){L f:Addr}{z1 z2 z3:Value}{t:Nat->List Int}{n:Nat}{ρ:List (Str×B)}{Q:Fl->List (Str×B)->Prop}(H:Tx t n)(I:LV t n ρ)(hrest:∀ρ',LV t n ρ'->Q .next ρ'):jz X (k+10) (jE z1 z2 z3 L f) ρ (fh jQ 10) Q:=by
 refine ip (items:=(iL t n).map iD) (jK (fc I.names)) (fun _ ρ=>LV t n ρ) I ?_ fun ρ1 I=>hrest _ I
 intro i d ρ1 hd I Q1 H1
 rw[aS]at hd
 refine gR (Option.map_eq_some_iff.mp hd) ?_;rintro A hA rfl
 have hA:=ay hA
 refine⟨_,fo (.inr ⟨rfl,_,rfl⟩),?_⟩
 have I1:=I.pt (z:="old") (b:=.val (iD A)) rfl
 have v1:fn (put ρ1 "old" (.val (iD A))) "old" (.val (iD A)):=Mine.hs
 generalize put ρ1 "old" (.val (iD A))=ρ2 at I1 v1|-
 refine fe (ip (items:=(iL t n).map iD) (jK (fc I1.names)) (fun _ ρ=>LV t n ρ/\fn ρ "old" (.val (iD A))) ⟨I1,v1⟩ ?_ fun ρ3 J=>fj (H1.next J.1))
 rintro j d ρ3 hd ⟨I3,v3⟩Q2 H2
 rw[aS]at hd
 refine gR (Option.map_eq_some_iff.mp hd) ?_;rintro B hB rfl
 have hB:=ay hB
 exact⟨_,fo (.inl rfl),xZ F H hA hB (hn v3 rfl) Mine.hs (H2.next ⟨(I3.pt rfl).pt rfl,hn (hn v3 rfl) rfl⟩)⟩
theorem kJ(t:Nat->List Int)(n:Nat):SeqAt.shaped (.list (t5 t n))=true:=by
 have h:∀{cs:List PyData},(∀x∈cs,∃as bs,x=gB as bs)->PyData.canLayAll0 cs=true/\PyData.depthAll cs<=4:=fun{cs}=>by induction cs with|nil=>intro _;simp[PyData.canLayAll0,PyData.depthAll]|cons x r ih=>intro h;obtain⟨as,bs,rfl⟩:=h _ (.head _);obtain⟨a,b⟩:=qG (cs:=lD as.length bs.length 0 0 (ro (mm as bs) (iR as bs))) fun x hx=>sJ hx;obtain⟨c,d⟩:=ih fun x hx=>h x (.tail _ hx);simp only[gB,PyData.canLayAll0,PyData.depthAll,PyData.canLay0,PyData.depth,a,c,fT];exact⟨trivial,by exact fk 0xf10108f1108f4820f48103800f1180a4 b d⟩
 obtain⟨a,b⟩:=h (cs:=t5 t n) fun x hx=>by refine gR (List.mem_map.mp hx) ?_;rintro q _ rfl;exact⟨_,_,rfl⟩
 delta SeqAt.shaped
 simp only[PyData.canLay0,PyData.depth,a,Bool.true_and];exact bH (f5 0xf114009180a0f4800f b)
theorem AO(F:LG X){L f sa:Addr}{z1 z2 z3:Value}{vs:Array Value}{ns:List Int}(ha:X.h₀.IsList sa vs)(hv:IntsAre vs.toList ns)(hn:ns.length<=63):iP X (k+10) (jE z1 z2 z3 L f) [("script",.raw (.ref sa))] jQ fun fl _=>fl=.ret (.bool true):=by
 refine y4 F ha hv hn fun ρ t n H I=>zh F H I fun ρ1 I1 h1=>xT F H I1 h1 fun ρ2 I2=>?_
 refine fe (zo F H I2 fun ρ3 I3=>?_)
 refine fe (yF F H I3 fun ρ4 I4=>?_)
 have hD:fn ρ4 "due" (.val (.list (t5 t n))):=by have h:=I4.due;rw[pB]at h;exact h
 refine fe (jb (fy (Ec (da:=.list (t5 t n)) (db:=.list (t5 t n)) (fc I4.told) (fc hD) (kJ t n) (kJ t n) (cV _)) ?_) rfl)
 rw[qI (kJ t n)]
end
universe u
noncomputable def zu{α:Type u}(p:α->Bool)(l:List α):Bool:=
 @List.rec α (fun _=>Bool) false (fun a _ ih=>@Bool.rec (fun _=>Bool) ih true (p a)) l
theorem wO{α:Type u}(p:α->Bool):∀l:List α,l.any p=zu p l
 |[]=>rfl
 |a::l=>by rw[List.any_cons,wO p l];show _=@Bool.rec (fun _=>Bool) (zu p l) true (p a);cases p a<;>rfl
noncomputable def Ed{α:Type u}(as:Array α)(p:α->Bool)(start stop:Nat):Bool:=
 @Bool.rec (fun _=>Bool) (Array.any as p start stop) (@Bool.rec (fun _=>Bool) (Array.any as p start stop) (zu p as.toList) (Nat.beq stop as.toList.length)) (Nat.beq start 0)
theorem CJ:@Array.any.{u}=@Ed.{u}:=by
 funext α as p start stop
 unfold Ed
 cases h0:Nat.beq start 0 with
 |false=>rfl
 |true=>show _=@Bool.rec (fun _=>Bool) (Array.any as p start stop) (zu p as.toList) (Nat.beq stop as.toList.length);cases h1:Nat.beq stop as.toList.length with|false=>rfl|true=>have e0:=eY h0;have e1:=eY h1;subst e0 e1;show _=zu p as.toList;rw[<-wO,Array.any_toList];rfl
noncomputable def zN(tn:Builtin)(id:String):Option Builtin:=
 @Bool.rec (fun _=>Option Builtin) (PySem.W.Fast.tw14364793385576792824 id) (some tn) (Nat.beq (PySem.W.Fast.tw13482112738370960269 id) 29827186395103491166823348853)
theorem zT:treeTable=zN PySem.W.Fast.tw4202317264376624991:=by
 rw[<-PySem.W.Fast.te4202317264376624991]
 funext id
 unfold zN
 rw[<-PySem.W.Fast.te14364793385576792824,<-PySem.W.Fast.te13482112738370960269]
 cases h:Nat.beq (PySem.code id) 29827186395103491166823348853 with
 |false=>rfl
 |true=>have e:=eY h;show entriesT.find (PySem.code id)=some _;rw[e];kernel_rfl
noncomputable def KG(f:String->Str)(tb:List Stmt)(P:Params):Frag:=
[(2,⟨.none,none,.dict [].toArray 0,#[]⟩),
 (3,⟨.type "dict",none,.dict [⟨PyData.keyHash P (f "__name__"),.str (f "__name__") 165,.str (f "law_mt0008_01") 583⟩,⟨PyData.keyHash P (f "__doc__"),.str (f "__doc__") 166,.none⟩,⟨PyData.keyHash P (f "__package__"),.str (f "__package__") 167,.none⟩,⟨PyData.keyHash P (f "__loader__"),.str (f "__loader__") 168,.builtin "__main__.__loader__#opaque"⟩,⟨PyData.keyHash P (f "__spec__"),.str (f "__spec__") 169,.none⟩,⟨PyData.keyHash P (f "__annotations__"),.str (f "__annotations__") 170,.ref 6⟩,⟨PyData.keyHash P (f "__builtins__"),.str (f "__builtins__") 171,.ref 4⟩,⟨PyData.keyHash P (f "__file__"),.str (f "__file__") 173,.str (f "/claim/cut.py") 172⟩,⟨PyData.keyHash P (f "__cached__"),.str (f "__cached__") 174,.none⟩,⟨PyData.keyHash P (f "_wall"),.str (f "_wall") 193,.ref 21⟩,⟨PyData.keyHash P (f "_tuplegetter"),.str (f "_tuplegetter") 252,.ref 60⟩,⟨PyData.keyHash P (f "Match"),.str (f "Match") 380,.ref 135⟩,⟨PyData.keyHash P (f "_calculate_ratio"),.str (f "_calculate_ratio") 388,.ref 145⟩,⟨PyData.keyHash P (f "SequenceMatcher"),.str (f "SequenceMatcher") 582,.ref 242⟩,⟨PyData.keyHash P (f "_law_texts"),.str (f "_law_texts") 596,.ref 253⟩,⟨PyData.keyHash P (f "_law_edit"),.str (f "_law_edit") 602,.ref 258⟩,⟨PyData.keyHash P (f "_law_told"),.str (f "_law_told") 616,.ref 265⟩,⟨PyData.keyHash P (f "_law_next"),.str (f "_law_next") 633,.ref 272⟩,⟨PyData.keyHash P (f "_law_seen"),.str (f "_law_seen") 644,.ref 279⟩,⟨PyData.keyHash P (f "law"),.str (f "law") 650,.ref 284⟩].toArray 20,#[]⟩),
 (81,⟨.type "code",none,.fields #[.str (f "__new__") 274,.str (f "Match.__new__") 275,.str (f "/claim/cut.py") 276,.int (29) 0,.int (4) 0,.int (0) 0,.int (0) 0,.int (3) 0,.ref 76,.bool true,.int (181) 0,.ref 77,.none,.ref 78,.ref 79,.ref 80,.int (281) 0,.int (29) 0,.str (f "/claim/cut.py") 282],#[]⟩),
 (82,⟨.type "function",none,.func (fnOf (f "__new__") (f "Match.__new__") (gg (fh (f6 (fh tb 3)) 4)) (fm (fh (f6 (fh tb 3)) 4)) (gT (fh (f6 (fh tb 3)) 4)) (.none) (.none) (pK (fm (fh (f6 (fh tb 3)) 4)) 283) (.str (f "cpy313.difflib") 194) none (.ref 81) (.none)),#[]⟩),
 (88,⟨.type "code",none,.fields #[.str (f "_make") 285,.str (f "Match._make") 286,.str (f "/claim/cut.py") 287,.int (33) 0,.int (2) 0,.int (0) 0,.int (0) 0,.int (3) 0,.ref 83,.bool true,.int (181) 0,.ref 84,.none,.ref 85,.ref 86,.ref 87,.int (291) 0,.int (33) 0,.str (f "/claim/cut.py") 292],#[]⟩),
 (89,⟨.type "function",none,.func (fnOf (f "_make") (f "Match._make") (gg (fh (f6 (fh tb 3)) 5)) (fm (fh (f6 (fh tb 3)) 5)) (gT (fh (f6 (fh tb 3)) 5)) (.none) (.none) (pK (fm (fh (f6 (fh tb 3)) 5)) 293) (.str (f "cpy313.difflib") 194) (some 92) (.ref 88) (.none)),#[]⟩),
 (91,⟨.type "classmethod",(some 90),.fields #[.ref 89,.bool false],#[]⟩),
 (134,⟨.type "dict",none,.dict [⟨PyData.keyHash P (f "__module__"),.str (f "__module__") 260,.str (f "cpy313.difflib") 194⟩,⟨PyData.keyHash P (f "__firstlineno__"),.str (f "__firstlineno__") 264,.int (23) 263⟩,⟨PyData.keyHash P (f "__doc__"),.str (f "__doc__") 266,pK (f6 (fh tb 3)) 265⟩,⟨PyData.keyHash P (f "__slots__"),.str (f "__slots__") 268,.ref 73⟩,⟨PyData.keyHash P (f "_fields"),.str (f "_fields") 272,.ref 74⟩,⟨PyData.keyHash P (f "_field_defaults"),.str (f "_field_defaults") 273,.ref 75⟩,⟨PyData.keyHash P (f "__new__"),.str (f "__new__") 284,.ref 136⟩,⟨PyData.keyHash P (f "_make"),.str (f "_make") 306,.ref 91⟩,⟨PyData.keyHash P (f "_replace"),.str (f "_replace") 317,.ref 100⟩,⟨PyData.keyHash P (f "__replace__"),.str (f "__replace__") 318,.ref 100⟩,⟨PyData.keyHash P (f "__repr__"),.str (f "__repr__") 326,.ref 107⟩,⟨PyData.keyHash P (f "_asdict"),.str (f "_asdict") 333,.ref 114⟩,⟨PyData.keyHash P (f "__getnewargs__"),.str (f "__getnewargs__") 341,.ref 121⟩,⟨PyData.keyHash P (f "__match_args__"),.str (f "__match_args__") 345,.ref 122⟩,⟨PyData.keyHash P (f "a"),.str (f "a") 355,.ref 124⟩,⟨PyData.keyHash P (f "b"),.str (f "b") 365,.ref 127⟩,⟨PyData.keyHash P (f "size"),.str (f "size") 375,.ref 130⟩,⟨PyData.keyHash P (f "__static_attributes__"),.str (f "__static_attributes__") 376,.ref 132⟩].toArray 2,#[]⟩),
 (135,⟨.type "type",none,.cls {name:=(f "Match"),bases:=[.type "tuple"],mro:=[.ref 135,.type "tuple",.type "object"],ns:=134,qualname:=(f "Match"),hasDict:=false,slotNames:=[],subclasses:=[],abstract:=false,collection:=none,hasDel:=false},#[some (.ref 65),none,some (.str (f "Match") 253),some (.str (f "Match") 261),some (.none),some (.bool false)]⟩),
 (136,⟨.type "staticmethod",none,.fields #[.ref 82],#[]⟩),
 (153,⟨.type "tuple",none,.seq #[.none,.str (f "") 404,.str (f "") 405,.bool true] 0,#[]⟩),
 (159,⟨.type "code",none,.fields #[.str (f "__init__") 406,.str (f "SequenceMatcher.__init__") 407,.str (f "/claim/cut.py") 408,.int (145) 0,.int (5) 0,.int (0) 0,.int (0) 0,.int (3) 0,.ref 154,.bool true,.int (181) 0,.ref 155,.none,.ref 156,.ref 157,.ref 158,.int (414) 0,.int (145) 0,.str (f "/claim/cut.py") 415],#[]⟩),
 (160,⟨.type "function",none,.func (fnOf (f "__init__") (f "SequenceMatcher.__init__") (gg (fh (f6 (fh tb 5)) 1)) (fm (fh (f6 (fh tb 5)) 1)) (gT (fh (f6 (fh tb 5)) 1)) (.ref 153) (.none) (pK (fm (fh (f6 (fh tb 5)) 1)) 416) (.str (f "cpy313.difflib") 194) none (.ref 159) (.none)),#[]⟩),
 (166,⟨.type "code",none,.fields #[.str (f "set_seqs") 418,.str (f "SequenceMatcher.set_seqs") 419,.str (f "/claim/cut.py") 420,.int (173) 0,.int (3) 0,.int (0) 0,.int (0) 0,.int (3) 0,.ref 161,.bool true,.int (181) 0,.ref 162,.none,.ref 163,.ref 164,.ref 165,.int (424) 0,.int (173) 0,.str (f "/claim/cut.py") 425],#[]⟩),
 (167,⟨.type "function",none,.func (fnOf (f "set_seqs") (f "SequenceMatcher.set_seqs") (gg (fh (f6 (fh tb 5)) 2)) (fm (fh (f6 (fh tb 5)) 2)) (gT (fh (f6 (fh tb 5)) 2)) (.none) (.none) (pK (fm (fh (f6 (fh tb 5)) 2)) 426) (.str (f "cpy313.difflib") 194) none (.ref 166) (.none)),#[]⟩),
 (173,⟨.type "code",none,.fields #[.str (f "set_seq1") 428,.str (f "SequenceMatcher.set_seq1") 429,.str (f "/claim/cut.py") 430,.int (184) 0,.int (2) 0,.int (0) 0,.int (0) 0,.int (3) 0,.ref 168,.bool true,.int (181) 0,.ref 169,.none,.ref 170,.ref 171,.ref 172,.int (433) 0,.int (184) 0,.str (f "/claim/cut.py") 434],#[]⟩),
 (174,⟨.type "function",none,.func (fnOf (f "set_seq1") (f "SequenceMatcher.set_seq1") (gg (fh (f6 (fh tb 5)) 3)) (fm (fh (f6 (fh tb 5)) 3)) (gT (fh (f6 (fh tb 5)) 3)) (.none) (.none) (pK (fm (fh (f6 (fh tb 5)) 3)) 435) (.str (f "cpy313.difflib") 194) none (.ref 173) (.none)),#[]⟩),
 (180,⟨.type "code",none,.fields #[.str (f "set_seq2") 437,.str (f "SequenceMatcher.set_seq2") 438,.str (f "/claim/cut.py") 439,.int (209) 0,.int (2) 0,.int (0) 0,.int (0) 0,.int (3) 0,.ref 175,.bool true,.int (181) 0,.ref 176,.none,.ref 177,.ref 178,.ref 179,.int (442) 0,.int (209) 0,.str (f "/claim/cut.py") 443],#[]⟩),
 (181,⟨.type "function",none,.func (fnOf (f "set_seq2") (f "SequenceMatcher.set_seq2") (gg (fh (f6 (fh tb 5)) 4)) (fm (fh (f6 (fh tb 5)) 4)) (gT (fh (f6 (fh tb 5)) 4)) (.none) (.none) (pK (fm (fh (f6 (fh tb 5)) 4)) 444) (.str (f "cpy313.difflib") 194) none (.ref 180) (.none)),#[]⟩),
 (187,⟨.type "code",none,.fields #[.str (f "__chain_b") 446,.str (f "SequenceMatcher.__chain_b") 447,.str (f "/claim/cut.py") 448,.int (236) 0,.int (1) 0,.int (0) 0,.int (0) 0,.int (3) 0,.ref 182,.bool true,.int (181) 0,.ref 183,.none,.ref 184,.ref 185,.ref 186,.int (461) 0,.int (236) 0,.str (f "/claim/cut.py") 462],#[]⟩),
 (188,⟨.type "function",none,.func (fnOf (f "__chain_b") (f "SequenceMatcher.__chain_b") (gg (fh (f6 (fh tb 5)) 5)) (fm (fh (f6 (fh tb 5)) 5)) (gT (fh (f6 (fh tb 5)) 5)) (.none) (.none) (.none) (.str (f "cpy313.difflib") 194) none (.ref 187) (.none)),#[]⟩),
 (189,⟨.type "tuple",none,.seq #[.int (0) 464,.none,.int (0) 465,.none] 0,#[]⟩),
 (195,⟨.type "code",none,.fields #[.str (f "find_longest_match") 466,.str (f "SequenceMatcher.find_longest_match") 467,.str (f "/claim/cut.py") 468,.int (260) 0,.int (5) 0,.int (0) 0,.int (0) 0,.int (3) 0,.ref 190,.bool true,.int (181) 0,.ref 191,.none,.ref 192,.ref 193,.ref 194,.int (488) 0,.int (260) 0,.str (f "/claim/cut.py") 489],#[]⟩),
 (196,⟨.type "function",none,.func (fnOf (f "find_longest_match") (f "SequenceMatcher.find_longest_match") (gg (fh (f6 (fh tb 5)) 6)) (fm (fh (f6 (fh tb 5)) 6)) (gT (fh (f6 (fh tb 5)) 6)) (.ref 189) (.none) (pK (fm (fh (f6 (fh tb 5)) 6)) 490) (.str (f "cpy313.difflib") 194) none (.ref 195) (.none)),#[]⟩),
 (202,⟨.type "code",none,.fields #[.str (f "get_matching_blocks") 492,.str (f "SequenceMatcher.get_matching_blocks") 493,.str (f "/claim/cut.py") 494,.int (335) 0,.int (1) 0,.int (0) 0,.int (0) 0,.int (3) 0,.ref 197,.bool true,.int (181) 0,.ref 198,.none,.ref 199,.ref 200,.ref 201,.int (515) 0,.int (335) 0,.str (f "/claim/cut.py") 516],#[]⟩),
 (203,⟨.type "function",none,.func (fnOf (f "get_matching_blocks") (f "SequenceMatcher.get_matching_blocks") (gg (fh (f6 (fh tb 5)) 7)) (fm (fh (f6 (fh tb 5)) 7)) (gT (fh (f6 (fh tb 5)) 7)) (.none) (.none) (pK (fm (fh (f6 (fh tb 5)) 7)) 517) (.str (f "cpy313.difflib") 194) none (.ref 202) (.none)),#[]⟩),
 (209,⟨.type "code",none,.fields #[.str (f "get_opcodes") 519,.str (f "SequenceMatcher.get_opcodes") 520,.str (f "/claim/cut.py") 521,.int (383) 0,.int (1) 0,.int (0) 0,.int (0) 0,.int (3) 0,.ref 204,.bool true,.int (181) 0,.ref 205,.none,.ref 206,.ref 207,.ref 208,.int (530) 0,.int (383) 0,.str (f "/claim/cut.py") 531],#[]⟩),
 (210,⟨.type "function",none,.func (fnOf (f "get_opcodes") (f "SequenceMatcher.get_opcodes") (gg (fh (f6 (fh tb 5)) 8)) (fm (fh (f6 (fh tb 5)) 8)) (gT (fh (f6 (fh tb 5)) 8)) (.none) (.none) (pK (fm (fh (f6 (fh tb 5)) 8)) 532) (.str (f "cpy313.difflib") 194) none (.ref 209) (.none)),#[]⟩),
 (241,⟨.type "dict",none,.dict [⟨PyData.keyHash P (f "__module__"),.str (f "__module__") 396,.str (f "cpy313.difflib") 194⟩,⟨PyData.keyHash P (f "__firstlineno__"),.str (f "__firstlineno__") 400,.int (70) 399⟩,⟨PyData.keyHash P (f "__doc__"),.str (f "__doc__") 402,pK (f6 (fh tb 5)) 401⟩,⟨PyData.keyHash P (f "__init__"),.str (f "__init__") 417,.ref 160⟩,⟨PyData.keyHash P (f "set_seqs"),.str (f "set_seqs") 427,.ref 167⟩,⟨PyData.keyHash P (f "set_seq1"),.str (f "set_seq1") 436,.ref 174⟩,⟨PyData.keyHash P (f "set_seq2"),.str (f "set_seq2") 445,.ref 181⟩,⟨PyData.keyHash P (f "_SequenceMatcher__chain_b"),.str (f "_SequenceMatcher__chain_b") 463,.ref 188⟩,⟨PyData.keyHash P (f "find_longest_match"),.str (f "find_longest_match") 491,.ref 196⟩,⟨PyData.keyHash P (f "get_matching_blocks"),.str (f "get_matching_blocks") 518,.ref 203⟩,⟨PyData.keyHash P (f "get_opcodes"),.str (f "get_opcodes") 533,.ref 210⟩,⟨PyData.keyHash P (f "get_grouped_opcodes"),.str (f "get_grouped_opcodes") 542,.ref 218⟩,⟨PyData.keyHash P (f "ratio"),.str (f "ratio") 551,.ref 225⟩,⟨PyData.keyHash P (f "quick_ratio"),.str (f "quick_ratio") 558,.ref 232⟩,⟨PyData.keyHash P (f "real_quick_ratio"),.str (f "real_quick_ratio") 565,.ref 239⟩,⟨PyData.keyHash P (f "__static_attributes__"),.str (f "__static_attributes__") 576,.ref 240⟩,⟨PyData.keyHash P (f "__dict__"),.str (f "__dict__") 578,.ref 243⟩,⟨PyData.keyHash P (f "__weakref__"),.str (f "__weakref__") 580,.ref 244⟩].toArray 3,#[]⟩),
 (242,⟨.type "type",none,.cls {name:=(f "SequenceMatcher"),bases:=[.type "object"],mro:=[.ref 242,.type "object"],ns:=241,qualname:=(f "SequenceMatcher"),hasDict:=true,slotNames:=[],subclasses:=[],abstract:=false,collection:=none,hasDel:=false},#[none,none,some (.str (f "SequenceMatcher") 389),some (.str (f "SequenceMatcher") 397),some (.builtin "object.__new__"),some (.bool true)]⟩),
 (253,⟨.type "function",none,.func (fnOf (f "_law_texts") (f "_law_texts") (gg (fh tb 7)) (fm (fh tb 7)) (gT (fh tb 7)) (.none) (.none) (.none) (.str (f "law_mt0008_01") 583) none (.ref 252) (.none)),#[]⟩),
 (252,⟨.type "code",none,.fields #[.str (f "_law_texts") 585,.str (f "_law_texts") 586,.str (f "/claim/cut.py") 587,.int (463) 0,.int (1) 0,.int (0) 0,.int (0) 0,.int (3) 0,.ref 247,.bool true,.int (181) 0,.ref 248,.none,.ref 249,.ref 250,.ref 251,.int (594) 0,.int (463) 0,.str (f "/claim/cut.py") 595],#[]⟩),
 (258,⟨.type "function",none,.func (fnOf (f "_law_edit") (f "_law_edit") (gg (fh tb 8)) (fm (fh tb 8)) (gT (fh tb 8)) (.none) (.none) (.none) (.str (f "law_mt0008_01") 583) none (.ref 257) (.none)),#[]⟩),
 (257,⟨.type "code",none,.fields #[.str (f "_law_edit") 597,.str (f "_law_edit") 598,.str (f "/claim/cut.py") 599,.int (479) 0,.int (2) 0,.int (0) 0,.int (0) 0,.int (3) 0,.ref 254,.bool true,.int (181) 0,.ref 255,.none,.none,.none,.ref 256,.int (600) 0,.int (479) 0,.str (f "/claim/cut.py") 601],#[]⟩),
 (265,⟨.type "function",none,.func (fnOf (f "_law_told") (f "_law_told") (gg (fh tb 9)) (fm (fh tb 9)) (gT (fh tb 9)) (.none) (.none) (.none) (.str (f "law_mt0008_01") 583) none (.ref 264) (.none)),#[]⟩),
 (264,⟨.type "code",none,.fields #[.str (f "_law_told") 603,.str (f "_law_told") 604,.str (f "/claim/cut.py") 605,.int (496) 0,.int (2) 0,.int (0) 0,.int (0) 0,.int (3) 0,.ref 259,.bool true,.int (181) 0,.ref 260,.none,.ref 261,.ref 262,.ref 263,.int (614) 0,.int (496) 0,.str (f "/claim/cut.py") 615],#[]⟩),
 (272,⟨.type "function",none,.func (fnOf (f "_law_next") (f "_law_next") (gg (fh tb 10)) (fm (fh tb 10)) (gT (fh tb 10)) (.none) (.none) (.none) (.str (f "law_mt0008_01") 583) none (.ref 271) (.none)),#[]⟩),
 (271,⟨.type "code",none,.fields #[.str (f "_law_next") 617,.str (f "_law_next") 618,.str (f "/claim/cut.py") 619,.int (514) 0,.int (4) 0,.int (0) 0,.int (0) 0,.int (3) 0,.ref 266,.bool true,.int (181) 0,.ref 267,.none,.ref 268,.ref 269,.ref 270,.int (631) 0,.int (514) 0,.str (f "/claim/cut.py") 632],#[]⟩),
 (279,⟨.type "function",none,.func (fnOf (f "_law_seen") (f "_law_seen") (gg (fh tb 11)) (fm (fh tb 11)) (gT (fh tb 11)) (.none) (.none) (.none) (.str (f "law_mt0008_01") 583) none (.ref 278) (.none)),#[]⟩),
 (278,⟨.type "code",none,.fields #[.str (f "_law_seen") 634,.str (f "_law_seen") 635,.str (f "/claim/cut.py") 636,.int (524) 0,.int (3) 0,.int (0) 0,.int (0) 0,.int (3) 0,.ref 273,.bool true,.int (181) 0,.ref 274,.none,.ref 275,.ref 276,.ref 277,.int (642) 0,.int (524) 0,.str (f "/claim/cut.py") 643],#[]⟩),
 (284,⟨.type "function",none,.func (fnOf (f "law") (f "law") (gg (fh tb 12)) (fm (fh tb 12)) (gT (fh tb 12)) (.none) (.none) (.none) (.str (f "law_mt0008_01") 583) none (.ref 283) (.none)),#[]⟩),
 (283,⟨.type "code",none,.fields #[.str (f "law") 645,.str (f "law") 646,.str (f "/claim/cut.py") 647,.int (531) 0,.int (1) 0,.int (0) 0,.int (0) 0,.int (3) 0,.ref 280,.bool true,.int (181) 0,.ref 281,.none,.none,.none,.ref 282,.int (648) 0,.int (531) 0,.str (f "/claim/cut.py") 649],#[]⟩)]
noncomputable def K(P:Params):Frag:=KG Str.ofString g7 P
noncomputable def uT:List Addr:=[2,3,81,82,88,89,91,134,135,136,153,159,160,166,167,173,174,180,181,187,188,189,195,196,202,203,209,210,241,242,253,252,258,257,265,264,272,271,279,278,284,283]
noncomputable def loose:List Str:=["_wall","_tuplegetter","Match","_calculate_ratio","SequenceMatcher","_law_texts","_law_edit","_law_told","_law_next","_law_seen"]
noncomputable def q:Program:=view pw [12]
noncomputable def rk(l:List UInt8):List Nat:=@List.rec UInt8 (fun _=>List Nat) [] (fun b _ ih=>b.toNat::ih) l
noncomputable def sE(s:String):Str:=@Bool.rec (fun _=>Str) (Str.ofString s) ⟨⟨rk (S.bytesOf s)⟩⟩ (S.allLow (S.bytesOf s))
theorem rQ:∀l,S.allLow l=true->rk l=(S.decA l).map Char.toNat
 |[],_=>rfl
 |b::l,h=>by
  rw[S.allLow_cons]at h;have h2:=(ad _ _▸h:_/\_);have e:(Char.ofNat b.toNat).toNat=b.toNat:=by have:b.toNat<=127:=Nat.le_of_ble_eq_true h2.1;have:b.toNat.isValidChar:=.inl (by exact f5 0xf11d8002901f7f0900f this);unfold Char.ofNat;rw[dif_pos this];rfl
  show b.toNat::rk l=(Char.ofNat b.toNat).toNat::(S.decA l).map Char.toNat;rw[rQ l h2.2,e]
theorem tu:Str.ofString=sE:=by
 funext s
 have e:S.toListS s=@Bool.rec (fun _=>List Char) s.toList (S.decA (S.bytesOf s)) (S.allLow (S.bytesOf s)):=rfl
 unfold sE
 cases hv:S.allLow (S.bytesOf s)with
 |false=>rfl
 |true=>rw[Str.ofString_eq_toList,S.toListS_eq,e,hv];show Str.mk ⟨(S.decA (S.bytesOf s)).map Char.toNat⟩=⟨⟨rk (S.bytesOf s)⟩⟩;rw[rQ _ hv]
noncomputable def tV(p:Program):Str:=((docOf (f6 (fh p.main.body 5))).getD Str.empty)
noncomputable def FI{a Y:Str}(_:a=Y):Str:=Y
noncomputable def EA:Str:=by
 refine' FI (a:=tV pw) ?_
 rotate_left
 have hD:tV pw=Str.ofString _:=rfl
 exact hD.trans (PySem.W.Fast.ofString_ofList _)
theorem Av:tV pw=EA:=by
 have hD:tV pw=Str.ofString _:=rfl
 exact hD.trans (PySem.W.Fast.ofString_ofList _)
noncomputable def F1{α β γ:Type}{a:α}{X:β->γ->α}{b:β}{d:γ}(_:a=X b d)(b':β)(d':γ):α:=X b' d'
noncomputable def FX(f:String->Str)(D:Str):Program:=by
 refine' F1 (a:=PySem.Challenge.pw_mt0008_01) (b:=Str.ofString) (d:=tV pw) ?_ f D
 rotate_left
 have hD:tV pw=Str.ofString _:=rfl
 delta PySem.Challenge.pw_mt0008_01
 rw[<-hD]
 generalize tV pw=D
 generalize Str.ofString=g
 exact rfl
theorem C4:pw=FX Str.ofString (tV pw):=by kernel_rfl
noncomputable def Bv:Program:=FX sE EA
theorem y0:pw=Bv:=by
 unfold Bv
 rw[<-tu,<-Av]
 exact C4
noncomputable def KF(P:Params):Frag:=KG sE Bv.main.body P
theorem FK:KF=K:=by
 unfold KF
 rw[<-y0,<-tu]
 rfl
theorem check(w:World)(os:OsState):(topFrom (zN PySem.W.Fast.tw4202317264376624991) Bv w 5000 ⟨boot_heap w.params,⟨[]⟩,boot_drawn,boot_toks,os⟩).map (fun s=>(openSeen (view Bv [12]) loose (importedModules Bv.main.body) (fun s=>xlAt (view Bv [12]) [] s&&recOk [] s) true s,uT.map s.heap.get?))=some (openGood (view Bv [12]) loose,(KF w.params).map fun p=>some p.2):=by
 unfold topFrom
 rw[PySem.W.Fast.te14082659384304107361,PySem.W.Fast.te4187177175401517315]
 delta PySem.W.Fast.tw4202317264376624991
 rw[CJ]
 kernel_rfl
theorem vO:opening pw=plainProg pw.main.scope.names:=by kernel_rfl
theorem z8:∀s,fenceModules? pw s=some s:=fun s=>by kernel_rfl
theorem xy:∀P,uT=(K P).map (·.1):=fun _=>by kernel_rfl
theorem left:LeftO pw q loose (fun s=>xlAt q [] s&&recOk [] s) (fun s=>uT.map s.heap.get?) (fun w=>(K w.params).map fun p=>some p.2) 5000:=fun w=>by
 obtain⟨⟨h,gs,dr,k,os⟩,e,e'⟩:=Option.map_eq_some_iff.mp (boot_open (p:=pw) (N:=5000) vO (by decide) z8 w)
 obtain⟨rfl,rfl,rfl,rfl⟩:h=boot_heap w.params/\gs=Array.mk []/\dr=boot_drawn/\k=boot_toks:=by simpa using e'
 have c:=check w os
 rw[FK,<-y0,<-zT]at c
 unfold openEnds
 rw[e,cv]
 exact c
theorem BX:OpenLaw.wellSaid PySem.Challenge.rw_mt0008_01=true:=by
 have e:PySem.Challenge.rw_mt0008_01={PySem.Challenge.rw_mt0008_01 with prog:=Bv}:=by rw[<-y0];rfl
 rw[e,PySem.W.Fast.te9446332074065402090]
 kernel_rfl
noncomputable def vX:DefRec:={name:="law",params:=gg (fh g7 12),body:=fm (fh g7 12),scope:=gT (fh g7 12),pos:=Dh (fh g7 12)}
theorem head(hc:WalkO q loose (XL q []) (InK K) PySem.Challenge.rw_mt0008_01.row.toRowW vX [] (fun f vs=>PySem.call f vs)):PySem.Challenge.rw_mt0008_01.Holds:=by
 refine holds_law BX fun said=>?_
 refine PySem.W.holds_open (q:=q) (loose:=loose) (Xt:=fun s=>xlAt q [] s&&recOk [] s) (XP:=XL q []) (YP:=InK K) (d:=vX) (kwd:=[]) (N:=5000) left (InK.of xy) InK.keeps (fun s e=>xl_of s (Bool.and_eq_true_iff.mp e).1) XL.keeps (by kernel_rfl) (by kernel_rfl) (by kernel_rfl) (fun s e=>recFacts_of (Bool.and_eq_true_iff.mp e).2) (by rfl) said (by decide+kernel) ⟨rfl,rfl,rfl,rfl,rfl,by decide+kernel⟩ ?hw hc
 case hw=>w_witness2
theorem xa{R:WRecords}{args:List WData}(h:WShape.hasAll R args [.list .int]=true):∃ns:List Int,args=[.list (ns.map WData.int)]:=by
 refine jq (hasAllW_cons h) ?_;rintro d r rfl h1 h2
 obtain rfl:=hasAllW_nil h2
 refine gR (hasW_list h1) ?_;rintro xs rfl h3
 obtain⟨ns,rfl⟩:=items_int h3
 exact⟨ns,rfl⟩
theorem uo{R:WRecords}{cl:Str->Option Addr}{h:Heap}(ns:List Int):∀{vs:List Value}{as:List Addr},ReadsAllW R cl h vs (ns.map WData.int) as->IntsAre vs ns:=by
 induction ns with
 |nil=>intro vs as r;rw[(readsAllW_nil_inv r).1];exact .nil
 |cons n ns ih=>intro vs as r;refine FU (readsAllW_cons_inv r) ?_;rintro v us a b rfl _ r1 r2;refine gR (readsW_int_inv r1) ?_;rintro t rfl _;exact .cons _ _ (ih r2)
theorem wz{R:WRecords}{cl:Str->Option Addr}{h:Heap}{ns:List Int}{vals:List Value}{as:List Addr}(r:ReadsAllW R cl h vals [.list (ns.map WData.int)] as):∃a vs,vals=[.ref a]/\h.IsList a vs/\IntsAre vs.toList ns:=by
 refine FU (readsAllW_cons_inv r) ?_;rintro v us _ _ rfl _ r1 r2
 refine qY (readsW_list_inv r1) ?_;rintro a vs _ rfl hl r3 _
 exact⟨a,vs,by rw[(readsAllW_nil_inv r2).1],hl,uo ns r3⟩
theorem BV{l:OpenLaw}(hm:l.most=some 63)(hb:l.bound=none){ns:List Int}(h:l.pre.holds [] {args:=[.list (ns.map WData.int)]}=true):ns.length<=63:=by
 delta OpenLaw.pre at h
 rw[hm,hb]at h
 rcases a9 63 ns.length with hlt|hge
 ·exfalso;have e1:(WTm.lt (.lit (.int ((63:Nat):Int))) (.len (.arg 0))).value [] {args:=[.list (ns.map WData.int)]}=some (.bool (decide ((63:Int)<((ns.map WData.int).length:Int)))):=by rfl
  rw[aB,bH (by exact f5 0xf110c3f094f03f091f hlt:(63:Int)<(ns.length:Int))]at e1;have e2:(WTm.and (.not (.lt (.lit (.int ((63:Nat):Int))) (.len (.arg 0)))) (.lit (.bool true))).value [] {args:=[.list (ns.map WData.int)]}=some (.bool false):=by
   have e3:(WTm.not (.lt (.lit (.int ((63:Nat):Int))) (.len (.arg 0)))).value [] {args:=[.list (ns.map WData.int)]}=some (.bool false):=by rw[WTm.value,e1];rfl
   rw[WTm.value,e3]
  change(match(WTm.and (.not (.lt (.lit (.int ((63:Nat):Int))) (.len (.arg 0)))) (.lit (.bool true))).value [] {args:=[.list (ns.map WData.int)]}with|some (.bool true)=>true|_=>false)=true at h;rw[e2]at h;cases h
 ·exact hge
noncomputable def vY:List (Str×Value):=[("SequenceMatcher",.ref 242),("Match",.ref 135),("_law_texts",.ref 253),("_law_edit",.ref 258),("_law_told",.ref 265),("_law_next",.ref 272),("_law_seen",.ref 279),("law",.ref 284)]
noncomputable def uW:List (Str×Value):=[("min",.builtin "min"),("sorted",.builtin "sorted"),("zip",.type "zip"),("len",.builtin "len"),("range",.type "range"),("enumerate",.type "enumerate"),("set",.type "set"),("list",.type "list"),("map",.type "map"),("tuple",.type "tuple")]
noncomputable def EM(x:Str):Option Value:=(vY++uW).lookup x
theorem yM{α:Type}{vs:List α}(h:vs.length=1):∃a,vs=[a]:=by
 cases vs with
 |nil=>cases h
 |cons a r=>exact⟨a,by rw[dY (Nat.succ.inj h)]⟩
theorem wF{α:Type}{n:Nat}{vs:List α}(h:vs.length=n+1):∃a r,vs=a::r/\r.length=n:=by
 cases vs with
 |nil=>cases h
 |cons a r=>exact⟨a,r,rfl,Nat.succ.inj h⟩
theorem w9{α:Type}{vs:List α}(h:vs.length=2):∃a b,vs=[a,b]:=let⟨a,_,e,h⟩:=wF h;let⟨b,e'⟩:=yM h;⟨a,b,e.trans (e'▸rfl)⟩
theorem DE{α:Type}{vs:List α}(h:vs.length=3):∃a b c,vs=[a,b,c]:=let⟨a,_,e,h⟩:=wF h;let⟨b,c,e'⟩:=w9 h;⟨a,b,c,e.trans (e'▸rfl)⟩
theorem DS{α:Type}{vs:List α}(h:vs.length=4):∃a b c d,vs=[a,b,c,d]:=let⟨a,_,e,h⟩:=wF h;let⟨b,c,d,e'⟩:=DE h;⟨a,b,c,d,e.trans (e'▸rfl)⟩
theorem EW{α:Type}{vs:List α}(h:vs.length=5):∃a b c d e,vs=[a,b,c,d,e]:=let⟨a,_,e,h⟩:=wF h;let⟨b,c,d,f,e'⟩:=DS h;⟨a,b,c,d,f,e.trans (e'▸rfl)⟩
noncomputable def Ae(sc:Scope)(names:List Str)(n:Nat):Bool:=names.all fun x=>decide (sc.names.lookup x=some .local)||(decide (sc.names.lookup x=some .cell)&&((cellsFrom n sc.names []).lookup x).isSome)
theorem BT{sc:Scope}{names:List Str}(h:∀n,Ae sc names n=true)(x:Str)(hx:x∈names):sc.names.lookup x=some .local\/(sc.names.lookup x=some .cell/\∀n,((cellsFrom n sc.names []).lookup x).isSome=true):=by
 have k:=fun n=>List.all_eq_true.mp (h n) x hx
 simp only[ch,ad,aQ]at k
 exact(k 0).imp id fun h0=>⟨h0.1,fun n=>(k n).elim (fun e=>by rw[h0.1]at e;cases e) fun e=>e.2⟩
theorem gz{X:Cx}{f:Addr}{o:Obj}{fd:FuncData}{body:List Stmt}{names:List Str}(Kin:X.K.In X.h₀)(ho:X.K.lookup f=some o)(hd:o.data=.func fd)(hc:codeIn X.K fd.code fd.qualname=true)(hb:fd.body=.stmts body)(hcl:fd.closure=[])(hg:fd.globals=mainGlobals)(hbt:fd.builtins=builtinsNs)(hbind:∀(s:Shared) (vs:List Value),(∀b o,X.h₀.get? b=some o->s.heap.get? b=some o)->vs.length=names.length->BindsTo s fd ⟨vs,[]⟩ (names.zip vs))(hnd:names.Nodup)(hpar:∀n,Ae fd.scope names n=true)(hco:fd.scope.isCoroutine=false)(hgen:fd.scope.isGenerator=false)(hk:fd.scope.kind=.function):kf X f fd body names:=
 ⟨⟨o,Kin _ _ ho,hd⟩,codeRec_of Kin hc,hb,hcl,hg,hbt,hbind,hnd,BT hpar,hco,hgen,hk⟩
section
variable{w:World}{h₀:Heap}{os₀:OsState}{mg mb:Str->Option Value}
noncomputable abbrev XC(w:World)(h₀:Heap)(os₀:OsState)(mg mb:Str->Option Value):Cx:={prog:=pw,w:=w,h₀:=h₀,os₀:=os₀,mg:=mg,mb:=mb,gl:=EM,K:=K w.params,dat:=fun _ _=>False}
theorem xu(Kin:(K w.params).In h₀):oi (XC w h₀ os₀ mg mb) 7 253 "_law_texts" ["numbers"]:=by
 have hb:∀vs:List Value,vs.length=1->bindArgs (iy 7 "_law_texts" (.str "law_mt0008_01" 583) (.ref 252) .none) ⟨vs,[]⟩=pure ([("numbers":Str)].zip vs):=fun vs h=>by obtain⟨a,rfl⟩:=yM h;rfl
 exact⟨rfl,.str "law_mt0008_01" 583,.ref 252,.none,gz (o:=⟨.type "function",none,.func (iy 7 "_law_texts" (.str "law_mt0008_01" 583) (.ref 252) .none),#[]⟩) Kin rfl rfl rfl rfl rfl rfl rfl (fun s vs _ h=>bn (hb vs h)) (by decide) (fun n=>by kernel_rfl) rfl rfl rfl,hb⟩
theorem AT(Kin:(K w.params).In h₀):oi (XC w h₀ os₀ mg mb) 8 258 "_law_edit" ["a","b"]:=by
 have hb:∀vs:List Value,vs.length=2->bindArgs (iy 8 "_law_edit" (.str "law_mt0008_01" 583) (.ref 257) .none) ⟨vs,[]⟩=pure ([("a":Str),("b":Str)].zip vs):=fun vs h=>by obtain⟨a,b,rfl⟩:=w9 h;rfl
 exact⟨rfl,.str "law_mt0008_01" 583,.ref 257,.none,gz (o:=⟨.type "function",none,.func (iy 8 "_law_edit" (.str "law_mt0008_01" 583) (.ref 257) .none),#[]⟩) Kin rfl rfl rfl rfl rfl rfl rfl (fun s vs _ h=>bn (hb vs h)) (by decide) (fun n=>by kernel_rfl) rfl rfl rfl,hb⟩
theorem AN(Kin:(K w.params).In h₀):oi (XC w h₀ os₀ mg mb) 9 265 "_law_told" ["size","edit"]:=by
 have hb:∀vs:List Value,vs.length=2->bindArgs (iy 9 "_law_told" (.str "law_mt0008_01" 583) (.ref 264) .none) ⟨vs,[]⟩=pure ([("size":Str),("edit":Str)].zip vs):=fun vs h=>by obtain⟨a,b,rfl⟩:=w9 h;rfl
 exact⟨rfl,.str "law_mt0008_01" 583,.ref 264,.none,gz (o:=⟨.type "function",none,.func (iy 9 "_law_told" (.str "law_mt0008_01" 583) (.ref 264) .none),#[]⟩) Kin rfl rfl rfl rfl rfl rfl rfl (fun s vs _ h=>bn (hb vs h)) (by decide) (fun n=>by kernel_rfl) rfl rfl rfl,hb⟩
theorem zF(Kin:(K w.params).In h₀):oi (XC w h₀ os₀ mg mb) 10 272 "_law_next" ["codes","row","back","blot"]:=by
 have hb:∀vs:List Value,vs.length=4->bindArgs (iy 10 "_law_next" (.str "law_mt0008_01" 583) (.ref 271) .none) ⟨vs,[]⟩=pure ([("codes":Str),("row":Str),("back":Str),("blot":Str)].zip vs):=fun vs h=>by obtain⟨a,b,c,d,rfl⟩:=DS h;rfl
 exact⟨rfl,.str "law_mt0008_01" 583,.ref 271,.none,gz (o:=⟨.type "function",none,.func (iy 10 "_law_next" (.str "law_mt0008_01" 583) (.ref 271) .none),#[]⟩) Kin rfl rfl rfl rfl rfl rfl rfl (fun s vs _ h=>bn (hb vs h)) (by decide) (fun n=>by kernel_rfl) rfl rfl rfl,hb⟩
theorem Ac(Kin:(K w.params).In h₀):oi (XC w h₀ os₀ mg mb) 11 279 "_law_seen" ["row","m","due"]:=by
 have hb:∀vs:List Value,vs.length=3->bindArgs (iy 11 "_law_seen" (.str "law_mt0008_01" 583) (.ref 278) .none) ⟨vs,[]⟩=pure ([("row":Str),("m":Str),("due":Str)].zip vs):=fun vs h=>by obtain⟨a,b,c,rfl⟩:=DE h;rfl
 exact⟨rfl,.str "law_mt0008_01" 583,.ref 278,.none,gz (o:=⟨.type "function",none,.func (iy 11 "_law_seen" (.str "law_mt0008_01" 583) (.ref 278) .none),#[]⟩) Kin rfl rfl rfl rfl rfl rfl rfl (fun s vs _ h=>bn (hb vs h)) (by decide) (fun n=>by kernel_rfl) rfl rfl rfl,hb⟩
theorem Bt(Kin:(K w.params).In h₀):oi (XC w h₀ os₀ mg mb) 12 284 "law" ["script"]:=by
 have hb:∀vs:List Value,vs.length=1->bindArgs (iy 12 "law" (.str "law_mt0008_01" 583) (.ref 283) .none) ⟨vs,[]⟩=pure ([("script":Str)].zip vs):=fun vs h=>by obtain⟨a,rfl⟩:=yM h;rfl
 exact⟨rfl,.str "law_mt0008_01" 583,.ref 283,.none,gz (o:=⟨.type "function",none,.func (iy 12 "law" (.str "law_mt0008_01" 583) (.ref 283) .none),#[]⟩) Kin rfl rfl rfl rfl rfl rfl rfl (fun s vs _ h=>bn (hb vs h)) (by decide) (fun n=>by kernel_rfl) rfl rfl rfl,hb⟩
theorem zZ(Kin:(K w.params).In h₀):jF (XC w h₀ os₀ mg mb) 1 160 "__init__" "__init__" ["self","isjunk","a","b","autojunk"]:=by
 refine⟨by kernel_rfl,by kernel_rfl,(_,_,_,_),gz Kin (by rfl) (by rfl) (by rfl) rfl rfl rfl rfl (fun s vs kb h=>?_) (by decide) (fun n=>by kernel_rfl) rfl rfl rfl⟩
 obtain⟨a,b,c,d,e,rfl⟩:=EW h
 exact BindsTo.of_defaults (T:=153) rfl (kb _ _ (Kin 153 _ rfl)) rfl rfl rfl
theorem yW(Kin:(K w.params).In h₀):jF (XC w h₀ os₀ mg mb) 2 167 "set_seqs" "set_seqs" ["self","a","b"]:=by
 refine⟨by kernel_rfl,by kernel_rfl,(_,_,_,_),gz Kin (by rfl) (by rfl) (by rfl) rfl rfl rfl rfl (fun s vs kb h=>?_) (by decide) (fun n=>by kernel_rfl) rfl rfl rfl⟩
 obtain⟨a,b,c,rfl⟩:=DE h
 exact bn rfl
theorem z7(Kin:(K w.params).In h₀):jF (XC w h₀ os₀ mg mb) 3 174 "set_seq1" "set_seq1" ["self","a"]:=by
 refine⟨by kernel_rfl,by kernel_rfl,(_,_,_,_),gz Kin (by rfl) (by rfl) (by rfl) rfl rfl rfl rfl (fun s vs kb h=>?_) (by decide) (fun n=>by kernel_rfl) rfl rfl rfl⟩
 obtain⟨a,b,rfl⟩:=w9 h
 exact bn rfl
theorem AP(Kin:(K w.params).In h₀):jF (XC w h₀ os₀ mg mb) 4 181 "set_seq2" "set_seq2" ["self","b"]:=by
 refine⟨by kernel_rfl,by kernel_rfl,(_,_,_,_),gz Kin (by rfl) (by rfl) (by rfl) rfl rfl rfl rfl (fun s vs kb h=>?_) (by decide) (fun n=>by kernel_rfl) rfl rfl rfl⟩
 obtain⟨a,b,rfl⟩:=w9 h
 exact bn rfl
theorem xq(Kin:(K w.params).In h₀):jF (XC w h₀ os₀ mg mb) 5 188 "__chain_b" "_SequenceMatcher__chain_b" ["self"]:=by
 refine⟨by kernel_rfl,by kernel_rfl,(_,_,_,_),gz Kin (by rfl) (by rfl) (by rfl) rfl rfl rfl rfl (fun s vs kb h=>?_) (by decide) (fun n=>by kernel_rfl) rfl rfl rfl⟩
 obtain⟨a,rfl⟩:=yM h
 exact bn rfl
theorem y9(Kin:(K w.params).In h₀):jF (XC w h₀ os₀ mg mb) 6 196 "find_longest_match" "find_longest_match" ["self","alo","ahi","blo","bhi"]:=by
 refine⟨by kernel_rfl,by kernel_rfl,(_,_,_,_),gz Kin (by rfl) (by rfl) (by rfl) rfl rfl rfl rfl (fun s vs kb h=>?_) (by decide) (fun n=>by kernel_rfl) rfl rfl rfl⟩
 obtain⟨a,b,c,d,e,rfl⟩:=EW h
 exact BindsTo.of_defaults (T:=189) rfl (kb _ _ (Kin 189 _ rfl)) rfl rfl rfl
theorem uR(Kin:(K w.params).In h₀):jF (XC w h₀ os₀ mg mb) 7 203 "get_matching_blocks" "get_matching_blocks" ["self"]:=by
 refine⟨by kernel_rfl,by kernel_rfl,(_,_,_,_),gz Kin (by rfl) (by rfl) (by rfl) rfl rfl rfl rfl (fun s vs kb h=>?_) (by decide) (fun n=>by kernel_rfl) rfl rfl rfl⟩
 obtain⟨a,rfl⟩:=yM h
 exact bn rfl
theorem yB(Kin:(K w.params).In h₀):jF (XC w h₀ os₀ mg mb) 8 210 "get_opcodes" "get_opcodes" ["self"]:=by
 refine⟨by kernel_rfl,by kernel_rfl,(_,_,_,_),gz Kin (by rfl) (by rfl) (by rfl) rfl rfl rfl rfl (fun s vs kb h=>?_) (by decide) (fun n=>by kernel_rfl) rfl rfl rfl⟩
 obtain⟨a,rfl⟩:=yM h
 exact bn rfl
end
section
variable{w:World}{h₀:Heap}{os₀:OsState}{mg mb:Str->Option Value}
theorem D9(Kin:(K w.params).In h₀):DF (XC w h₀ os₀ mg mb)where
 cls:=⟨_,by rfl,by rfl,by kernel_rfl,by kernel_rfl,by kernel_rfl,by kernel_rfl⟩
 own:=fun name hn=>by have h:=List.all_eq_true.mp (show(vv.all fun name=>decide (findIn (K w.params) (.ref 242) name=some none)&&decide (takerIn (K w.params) 242 name=some none))=true by kernel_rfl) name hn;simpa only[ad,aQ]using h
 init:=zZ Kin
 seqs:=yW Kin
 seq1:=z7 Kin
 seq2:=AP Kin
 chain:=xq Kin
 find:=y9 Kin
 blocks:=uR Kin
 codes:=yB Kin
 len:=rfl
 range:=rfl
 enumerate:=rfl
 set:=rfl
 list:=rfl
 map:=rfl
 tuple:=rfl
 mtch:=rfl
theorem AD(Kin:(K w.params).In h₀):∃z,kf (XC w h₀ os₀ mg mb) 82 (Bz 4 "__new__" z) (fm (u8 4)) ["_cls","a","b","size"]:=by
 refine⟨(_,_,_,_),gz Kin (by rfl) (by rfl) (by rfl) rfl rfl rfl rfl (fun s vs kb h=>?_) (by decide) (fun n=>by kernel_rfl) rfl rfl rfl⟩
 obtain⟨a,b,c,d,rfl⟩:=DS h
 exact bn rfl
theorem xY(Kin:(K w.params).In h₀):∃z,kf (XC w h₀ os₀ mg mb) 89 (Bz 5 "_make" z) (fm (u8 5)) ["cls","iterable"]:=by
 refine⟨(_,_,_,_),gz Kin (by rfl) (by rfl) (by rfl) rfl rfl rfl rfl (fun s vs kb h=>?_) (by decide) (fun n=>by kernel_rfl) rfl rfl rfl⟩
 obtain⟨a,b,rfl⟩:=w9 h
 exact bn rfl
theorem ES(Kin:(K w.params).In h₀):MF (XC w h₀ os₀ mg mb)where
 obj:=⟨_,_,_,by rfl,by rfl,by rfl,by rfl,by rfl⟩
 reads:=by kernel_rfl
 new:=by kernel_rfl
 srec:=by kernel_rfl
 call:=by kernel_rfl
 typ:=by kernel_rfl
 init:=by kernel_rfl
 tnew:=by kernel_rfl
 keep:=by kernel_rfl
 iter:=by kernel_rfl
 ltm:=by kernel_rfl
 dnew:=AD Kin
theorem EL(Kin:(K w.params).In h₀):MG (XC w h₀ os₀ mg mb)where
 make:=by kernel_rfl
 crec:=⟨_,by rfl⟩
 len:=by kernel_rfl
 dmake:=xY Kin
theorem Ej(Kin:(K w.params).In h₀):LG (XC w h₀ os₀ mg mb)where
 df:=D9 Kin
 mf:=ES Kin
 mg:=EL Kin
 sm:=rfl
 kp:=by kernel_rfl
 made:=by kernel_rfl
 min:=rfl
 sorted:=rfl
 zip:=rfl
 texts:=xu Kin
 edit:=AT Kin
 told:=AN Kin
 next:=zF Kin
 seen:=Ac Kin
end
theorem Dl{x:Str}{v:Value}(h:EM x=some v):(x,v)∈vY++uW:=mem_of_lookup h
noncomputable def pM(P:Params):Array DictEntry:=match(K P).lookup mainGlobals with
 |some ⟨_,_,.dict es _,_⟩=>es
 |_=>#[]
noncomputable def Af(P:Params):Nat:=match(K P).lookup mainGlobals with
 |some ⟨_,_,.dict _ n,_⟩=>n
 |_=>0
theorem wX{w:World}{h:Heap}{mg:Str->Option Value}(Kin:(K w.params).In h)(g:h.Ns mainGlobals mg)(x:Str):nsFind (pM w.params) x=mg x:=by
 obtain⟨o,es,ep,h1,h2,h3,h4⟩:=g
 have h5:h.get? mainGlobals=some ⟨.type "dict",none,.dict (pM w.params) (Af w.params),#[]⟩:=Kin mainGlobals _ (by rfl)
 rw[h1]at h5
 have h6:o.data=.dict (pM w.params) (Af w.params):=congrArg Obj.data (Option.some.inj h5)
 rw[h2]at h6
 injection h6 with e1 e2
 rw[<-e1]
 exact h4 x
theorem El{w:World}{h:Heap}{os₀:OsState}{mg mb:Str->Option Value}(Kin:(K w.params).In h)(g:h.Ns mainGlobals mg)(b:h.Ns builtinsNs mb)(nl:h.NoLimit)(hb:∀x:Str,x≠"__name__"->mb x=bootBuiltins x):Wf (XC w h os₀ mg mb)where
 nolimit:=nl
 g:=g
 b:=b
 kin:=Kin
 gl:=fun x v e=>by
  have h1:=wX Kin g;have hm:=Dl e;show mg x=some v\/(mg x=none/\mb x=some v);rw[<-h1];rcases aY.mp hm with hm|hm;·have h:=List.all_eq_true.mp (show(vY.all fun p=>decide (nsFind (pM w.params) p.1=some p.2))=true by kernel_rfl) _ hm;exact .inl (of_decide_eq_true h)
  ·have h:=List.all_eq_true.mp (show(uW.all fun p=>decide (nsFind (pM w.params) p.1=none)&&(decide (bootBuiltins p.1=some p.2)&&!decide (p.1="__name__")))=true by kernel_rfl) _ hm;simp only[ad,dI,aQ,az]at h;exact .inr ⟨h.1,(hb _ h.2.2).trans h.2.1⟩
theorem C6:WalkO q loose (XL q []) (InK K) PySem.Challenge.rw_mt0008_01.row.toRowW vX [] (fun f vs=>PySem.call f vs):=by
 intro w s₀ s₁ mg mb G Y a o pm cd doc dV kV ha ho hcode hdf hmg hgens args vals as hpre hlay hreads hwell has
 have Kin:(K w.params).In s₁.heap:=Y
 obtain⟨p1,p2⟩:=pre_splitW hpre
 obtain⟨ns,rfl⟩:=xa p1
 have hn:ns.length<=63:=BV (l:=PySem.Challenge.rw_mt0008_01) rfl rfl p2
 refine jq (wz hreads) ?_;rintro sa vs rfl hl hi
 have W:Wf (XC w s₁.heap s₁.os mg mb):=El Kin G.T.g G.T.b G.T.nolimit G.T.builtins
 have F:LG (XC w s₁.heap s₁.os mg mb):=Ej Kin
 have hlaw:=Bt (os₀:=s₁.os) (mg:=mg) (mb:=mb) Kin
 have ha':a=284:=by
  have h1:mg "law"=some (.ref 284):=by rw[<-wX Kin G.T.g];kernel_rfl
  have h2:mg "law"=some (.ref a):=hmg;rw[h1]at h2;injection h2 with h2;injection h2 with h2;exact h2.symm
 subst ha'
 obtain⟨_,z1,z2,z3,D,_⟩:=hlaw
 refine enter_call ?_
 have A0:At (XC w s₁.heap s₁.os mg mb) s₁:=⟨W,fun _ _ e=>e,hgens,rfl⟩
 refine mI (X:=XC w s₁.heap s₁.os mg mb) (k:=10) D (bad:=fun _=>False) (bs:=[.raw (.ref sa)]) ⟨rfl,by decide+kernel,by decide+kernel⟩ A0 (fun _ h=>h.elim) (fun _ _ h=>h.elim) ?_ rfl fun L A' s2 R r hk hp hg hos=>?_
 ·exact .cons (.raw _) .nil
 ·refine aF (AO (k:=0) F hl hi hn A' (fun _=>False) nO s2 R r) (fun fl s' h=>?_) fun _ _ h=>h;obtain⟨f,ρ',O',rfl,hf,st,r'⟩:=h;obtain⟨v,rfl,hv⟩:=hf;cases hv;exact⟨.inl ⟨.bool true,.bool true,[],rfl,fun cls=>rfl,.bool true,by kernel_rfl,fun _=>⟨.nil,fun _ h=>by cases h⟩⟩,.of_keep r'.base,r'.os,.of_eq r'.gens⟩
theorem done:PySem.Challenge.rw_mt0008_01.Holds:=head C6
end Mine
theorem PySem.Challenge.cw_mt0008_01_holds : PySem.Challenge.rw_mt0008_01.Holds :=
 Mine.done
