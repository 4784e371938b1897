import PyProof.Rows.All
import Wide.All
import OpenK.AllK
import Wide.FinOn
import Lean
import PySem.Challenge.RW_mt0008_03
open PySem PySem.W PyProof.Rows
set_option Elab.async false
set_option maxRecDepth 100000
set_option maxHeartbeats 8000000
set_option linter.all false
set_option genSizeOf false
set_option genInjectivity false
namespace Mine
inductive Lx | v (i:Nat) | l (k:Nat) | a (x y:Lx) | m (k:Nat) (x:Lx) | r (k:Nat) (x:Lx) | c (x:Lx) | s (x y:Lx) | n (x:Lx)
inductive Lp | le (z:Bool) (x y:Lx) | lt (z:Bool) (x y:Lx) | eq (z:Bool) (x y:Lx) | no (f:Lp) | an (f g:Lp) | or (f g:Lp) | im (f g:Lp) | ff
inductive Lf | mk (k:Int) (n z:List Int)
inductive Lq | mk (t:List (Nat×Lx×Lx)) (h:List Lp) (g:Lp) (ms:List (List Int))
noncomputable abbrev Ld:=List (List (Bool×Lf))
noncomputable section
noncomputable abbrev lget {α:Type} (d:α) (l:List α):Nat→α:=List.rec (fun _=>d) (fun x _ ih i=>Nat.rec x (fun j _=>ih j) i) l
noncomputable abbrev lall {α:Type} (p:α→Bool) (l:List α):Bool:=List.rec true (fun x _ ih=>p x && ih) l
section
variable (cn:List Nat) (cz:List Int)
noncomputable abbrev Lx.N (e:Lx):Nat:=Lx.rec (fun i=>lget 0 cn i) (fun k=>k) (fun _ _ a b=>a+b) (fun k _ a=>k * a) (fun k _ a=>a * k) (fun _ _=>0) (fun _ _ _ _=>0) (fun _ _=>0) e
noncomputable abbrev Lx.Z (e:Lx):Int:=Lx.rec (fun i=>lget 0 cz i) (fun k=>(k:Int)) (fun _ _ a b=>a+b) (fun k _ a=>(k:Int) * a) (fun k _ a=>a * (k:Int)) (fun x _=>(x.N cn:Int)) (fun _ _ a b=>a - b) (fun _ a=>- a) e
noncomputable abbrev Lp.den (f:Lp):Prop:=Lp.rec (fun z x y=>Bool.rec (x.N cn≤y.N cn) (x.Z cn cz≤y.Z cn cz) z) (fun z x y=>Bool.rec (x.N cn < y.N cn) (x.Z cn cz < y.Z cn cz) z) (fun z x y=>Bool.rec (x.N cn=y.N cn) (x.Z cn cz=y.Z cn cz) z) (fun _ p=>¬ p) (fun _ _ p q=>p∧q) (fun _ _ p q=>p∨q) (fun _ _ p q=>p→q) False f
noncomputable abbrev ldenL (g:Prop) (hs:List Lp):Prop:=List.rec g (fun h _ p=>h.den cn cz→p) hs
end
noncomputable abbrev ltv (cn:List Nat) (cz:List Int) (t:Nat×Lx×Lx):Nat:=lget 0 [t.2.1.N cn - t.2.2.N cn,t.2.1.N cn - t.2.2.N cn,t.2.1.N cn / t.2.2.N cn,min (t.2.1.N cn) (t.2.2.N cn),max (t.2.1.N cn) (t.2.2.N cn),(t.2.1.Z cn cz).toNat] t.1
noncomputable abbrev lext (cz:List Int) (ts:List (Nat×Lx×Lx)):List Nat→List Nat:=List.rec (fun cn=>cn) (fun t _ ih cn=>ih (cn++[ltv cn cz t])) ts
noncomputable abbrev Lq.den (cn:List Nat) (cz:List Int) (q:Lq):Prop:=Lq.rec (fun t h g _=>ldenL (lext cz t cn) cz (g.den (lext cz t cn) cz) h) q
noncomputable def laddL (a:List Int):List Int→List Int:=List.rec (fun b=>b) (fun x a ih b=>List.rec (x :: a) (fun y b _=>(x+y) :: ih b) b) a
noncomputable def Lf.add (p q:Lf):Lf:=Lf.rec (fun k n z=>Lf.rec (fun k' n' z'=>.mk (k+k') (laddL n n') (laddL z z')) q) p
noncomputable def Lf.mul (m:Int) (p:Lf):Lf:=Lf.rec (fun k n z=>.mk (m * k) (n.map (m * ·)) (z.map (m * ·))) p
noncomputable def Lf.sub (p q:Lf):Lf:=p.add (q.mul (-1))
noncomputable def Lf.up (p:Lf):Lf:=p.add (.mk (-1) [] [])
noncomputable def lsg (i:Nat):List Int:=Nat.rec [1] (fun _ ih=>0 :: ih) i
noncomputable def Lx.fN (e:Lx):Lf:=Lx.rec (fun i=>.mk 0 (lsg i) []) (fun k=>.mk k [] []) (fun _ _ a b=>a.add b) (fun k _ a=>a.mul k) (fun k _ a=>a.mul k) (fun _ _=>.mk 0 [] []) (fun _ _ _ _=>.mk 0 [] []) (fun _ _=>.mk 0 [] []) e
noncomputable def Lx.fZ (e:Lx):Lf:=Lx.rec (fun i=>.mk 0 [] (lsg i)) (fun k=>.mk k [] []) (fun _ _ a b=>a.add b) (fun k _ a=>a.mul k) (fun k _ a=>a.mul k) (fun x _=>x.fN) (fun _ _ a b=>a.sub b) (fun _ a=>a.mul (-1)) e
noncomputable def lprod (A B:Ld):Ld:=A.flatMap fun a=>B.map (a++·)
noncomputable def lone (p:Lf):Ld:=[[(false,p)]]
noncomputable def lz (z:Bool) (x:Lx):Lf:=bif z then x.fZ else x.fN
noncomputable def ld (z:Bool) (x y:Lx):Lf:=(lz z y).sub (lz z x)
noncomputable def Lp.dnf (f:Lp):Bool→Ld:=Lp.rec (fun z x y b=>lone (bif b then ld z x y else (ld z y x).up)) (fun z x y b=>lone (bif b then (ld z x y).up else ld z y x))
  (fun z x y b=>bif b then [[(true,ld z y x)]] else lone (ld z y x).up++lone (ld z x y).up) (fun _ p b=>p (!b)) (fun _ _ p q b=>bif b then lprod (p b) (q b) else p b++q b) (fun _ _ p q b=>bif b then p b++q b else lprod (p b) (q b)) (fun _ _ p q b=>bif b then p (!b)++q b else lprod (p (!b)) (q b)) (fun b=>bif b then [] else [[]]) f
noncomputable def Lp.parts (f:Lp):Bool→List (Lp×Bool):=Lp.rec (fun z x y b=>[(.le z x y,b)]) (fun z x y b=>[(.lt z x y,b)]) (fun z x y b=>[(.eq z x y,b)]) (fun _ p b=>p (!b)) (fun f g p q b=>bif b then p b++q b else [(.an f g,b)])
  (fun f g p q b=>bif b then [(.or f g,b)] else p b++q b) (fun f g p q b=>bif b then [(.im f g,b)] else p (!b)++q b) (fun b=>[(.ff,b)]) f
noncomputable def Lp.cnf (f:Lp) (b:Bool):List Ld:=(f.parts b).map fun p=>p.1.dnf p.2
noncomputable def ltd (i:Nat) (t:Nat×Lx×Lx):Ld :=
  let x:=t.2.1.fN;let y:=t.2.2.fN;let v:=(Lx.v i).fN;let z:=t.2.1.fZ
  lget [] [[[(true,v),(false,y.sub x)],[(true,(v.add y).sub x)]],[[(false,x.sub v),(false,(v.add y).sub x)]],
    Lx.rec (fun _=>[]) (fun k=>[[(false,x.sub (v.mul k)),(false,((v.mul k).add (.mk ((k:Int) - 1) [] [])).sub x)]]) (fun _ _ _ _=>[]) (fun _ _ _=>[]) (fun _ _ _=>[]) (fun _ _=>[]) (fun _ _ _ _=>[]) (fun _ _=>[]) t.2.2,
    [[(true,v.sub x),(false,y.sub x)],[(true,v.sub y),(false,x.sub y)]],[[(true,v.sub x),(false,x.sub y)],[(true,v.sub y),(false,y.sub x)]],
    [[(true,v.sub z)],[(true,v),(false,z.mul (-1))]]] t.1
noncomputable def Lx.ok (n:Nat) (e:Lx):Bool:=Lx.rec (fun i=>Nat.ble (i+1) n) (fun _=>true) (fun _ _ a b=>a && b) (fun _ _ a=>a) (fun _ _ a=>a) (fun _ _=>true) (fun _ _ _ _=>true) (fun _ _=>true) e
noncomputable def Lx.okZ (n:Nat) (e:Lx):Bool:=Lx.rec (fun _=>true) (fun _=>true) (fun _ _ a b=>a && b) (fun _ _ a=>a) (fun _ _ a=>a) (fun x _=>x.ok n) (fun _ _ a b=>a && b) (fun _ a=>a) e
noncomputable def Lx.lit (e:Lx):Bool:=Lx.rec (fun _=>false) (fun k=>Nat.ble 1 k) (fun _ _ _ _=>false) (fun _ _ _=>false) (fun _ _ _=>false) (fun _ _=>false) (fun _ _ _ _=>false) (fun _ _=>false) e
noncomputable def ltok (n:Nat) (t:Nat×Lx×Lx):Bool:=lget false [t.2.1.ok n && t.2.2.ok n,t.2.1.ok n && t.2.2.ok n,t.2.1.ok n && t.2.2.lit,t.2.1.ok n && t.2.2.ok n,t.2.1.ok n && t.2.2.ok n,t.2.1.okZ n] t.1
noncomputable def lcomb (cs:List (Bool×Lf)):List Int→Lf:=List.rec (fun _=>.mk 0 [] []) (fun c _ ih ms=>List.rec (.mk 0 [] []) (fun m ms _=>bif c.1 || decide (0≤m) then (c.2.mul m).add (ih ms) else ih ms) ms) cs
noncomputable def Lf.bad (p:Lf):Bool:=Lf.rec (fun k n z=>decide (k < 0) && (lall (fun x=>decide (x≤0)) n && lall (fun x=>decide (x=0)) z)) p
noncomputable abbrev LinK:=List (Bool×Lf)→List (List Int)→Option (List (List Int))
noncomputable def lalt (f:LinK) (acc:List (Bool×Lf)) (d:Ld):List (List Int)→Option (List (List Int)):=List.rec some (fun a _ ih ms=>(f (a++acc) ms).bind ih) d
noncomputable def lgo (ds:List Ld):LinK:=List.rec (fun acc ms=>List.rec none (fun m ms _=>bif (lcomb acc m).bad then some ms else none) ms) (fun d _ ih acc ms=>List.rec none (fun m ms _=>List.rec (lalt ih acc d ms) (fun _ _ _=>bif (lcomb acc m).bad then some ms else none) m) ms) ds
noncomputable def ltab (ts:List (Nat×Lx×Lx)):Nat→List Ld:=List.rec (fun _=>[]) (fun t _ ih i=>ltd i t :: ih (i+1)) ts
noncomputable def lok (ts:List (Nat×Lx×Lx)):Nat→Bool:=List.rec (fun _=>true) (fun t _ ih i=>ltok i t && ih (i+1)) ts
noncomputable def lsing (d:Ld):Bool:=List.rec false (fun _ t _=>List.rec true (fun _ _ _=>false) t) d
noncomputable def lhd (ds:List Ld):List (Bool×Lf):=List.rec [] (fun d _ ih=>bif lsing d then List.rec ih (fun a _ _=>a++ih) d else ih) ds
noncomputable def ltl (ds:List Ld):List Ld:=List.rec [] (fun d _ ih=>bif lsing d then ih else d :: ih) ds
noncomputable def Lq.chk (n:Nat) (q:Lq):Bool:=Lq.rec (fun t h g ms=>lok t n && (lgo (ltl (g.cnf false++(ltab t n++h.flatMap (·.cnf true)))) (lhd (g.cnf false++(ltab t n++h.flatMap (·.cnf true)))) ms).isSome) q
noncomputable def ldot (a:List Int):List Int→Int:=List.rec (fun _=>0) (fun a _ ih x=>List.rec 0 (fun x xs _=>a * x+ih xs) x) a
theorem ldot_add (a:List Int):∀ b x:List Int,ldot (laddL a b) x=ldot a x+ldot b x:=by
  induction a with
  | nil=>exact fun b x=>(Int.zero_add _).symm
  | cons a as ih =>
    intro b x
    cases b with
    | nil=>exact (Int.add_zero _).symm
    | cons b bs =>
      cases x with
      | nil=>rfl
      | cons x xs=>show (a+b) * x+ldot (laddL as bs) xs=a * x+ldot as xs+(b * x+ldot bs xs);rw [ih,Int.add_mul,Int.add_assoc,Int.add_assoc,Int.add_left_comm (b * x)]
theorem ldot_mul (m:Int) (a:List Int):∀ x:List Int,ldot (a.map (m * ·)) x=m * ldot a x:=by
  induction a with
  | nil=>exact fun x=>(Int.mul_zero m).symm
  | cons a as ih =>
    intro x
    cases x with
    | nil=>exact (Int.mul_zero m).symm
    | cons x xs=>show m * a * x+ldot (as.map (m * ·)) xs=m * (a * x+ldot as xs);rw [ih,Int.mul_add,Int.mul_assoc]
theorem ldot_sg (i:Nat):∀ x:List Int,ldot (lsg i) x=lget 0 x i:=by
  induction i with
  | zero=>intro x;cases x with | nil=>rfl | cons x xs=>exact (Int.add_zero _).trans (Int.one_mul x)
  | succ i ih=>intro x;cases x with | nil=>rfl | cons x xs=>exact (congrArg (·+_) (Int.zero_mul x)).trans ((Int.zero_add _).trans (ih xs))
theorem lget_cast (l:List Nat):∀ i,lget 0 (l.map fun x:Nat=>(x:Int)) i=((lget 0 l i:Nat):Int):=by
  induction l with
  | nil=>exact fun _=>rfl
  | cons x xs ih=>intro i;cases i with | zero=>rfl | succ i=>exact ih i
section
variable (cn:List Nat) (cz:List Int)
noncomputable def Lf.val (p:Lf):Int:=Lf.rec (fun k n z=>k+(ldot n (cn.map fun x:Nat=>(x:Int))+ldot z cz)) p
theorem Lf.val_add (p q:Lf):(p.add q).val cn cz=p.val cn cz+q.val cn cz:=by
  cases p;cases q;show _+(ldot (laddL _ _) _+ldot (laddL _ _) _)=_+_+(_+_);rw [ldot_add,ldot_add];lia
theorem Lf.val_mul (m:Int) (p:Lf):(p.mul m).val cn cz=m * p.val cn cz:=by
  cases p;show _+(ldot (List.map _ _) _+ldot (List.map _ _) _)=m * (_+(_+_));rw [ldot_mul,ldot_mul,Int.mul_add,Int.mul_add]
theorem Lf.val_sub (p q:Lf):(p.sub q).val cn cz=p.val cn cz - q.val cn cz:=by
  rw [Lf.sub,Lf.val_add,Lf.val_mul,Int.neg_one_mul];rfl
theorem Lf.val_up (p:Lf):p.up.val cn cz=p.val cn cz - 1:=Lf.val_add cn cz p _
theorem Lx.val_N (e:Lx):(e.fN).val cn cz=(e.N cn:Int):=by
  induction e with
  | v i=>exact (Int.zero_add _).trans ((Int.add_zero _).trans ((ldot_sg i _).trans (lget_cast cn i)))
  | l k=>exact Int.add_zero _
  | a x y p q=>exact (Lf.val_add cn cz x.fN y.fN).trans (congr (congrArg HAdd.hAdd p) q)
  | m k x p=>exact (Lf.val_mul cn cz _ x.fN).trans (congrArg _ p)
  | r k x p=>exact (Lf.val_mul cn cz _ x.fN).trans ((congrArg _ p).trans (Int.mul_comm _ _))
  | _=>rfl
theorem Lx.val_Z (e:Lx):(e.fZ).val cn cz=e.Z cn cz:=by
  induction e with
  | v i=>exact (Int.zero_add _).trans ((Int.zero_add _).trans (ldot_sg i _))
  | l k=>exact Int.add_zero _
  | a x y p q=>exact (Lf.val_add cn cz x.fZ y.fZ).trans (congr (congrArg HAdd.hAdd p) q)
  | m k x p=>exact (Lf.val_mul cn cz _ x.fZ).trans (congrArg _ p)
  | r k x p=>exact (Lf.val_mul cn cz _ x.fZ).trans ((congrArg _ p).trans (Int.mul_comm _ _))
  | c x=>exact x.val_N cn cz
  | s x y p q=>exact (Lf.val_sub cn cz x.fZ y.fZ).trans (congr (congrArg HSub.hSub p) q)
  | n x p=>exact (Lf.val_mul cn cz _ x.fZ).trans ((congrArg _ p).trans (Int.neg_one_mul _))
noncomputable def lv (z:Bool) (x:Lx):Int:=bif z then x.Z cn cz else (x.N cn:Int)
theorem ld_val (z:Bool) (x y:Lx):(ld z x y).val cn cz=lv cn cz z y - lv cn cz z x :=
  (Lf.val_sub cn cz _ _).trans (by
    cases z
    · exact congr (congrArg HSub.hSub (y.val_N cn cz)) (x.val_N cn cz)
    · exact congr (congrArg HSub.hSub (y.val_Z cn cz)) (x.val_Z cn cz))
noncomputable def lsat (c:Bool×Lf):Prop:=bif c.1 then c.2.val cn cz=0 else 0≤c.2.val cn cz
noncomputable def lsats (a:List (Bool×Lf)):Prop:=∀ c∈a,lsat cn cz c
noncomputable def lsome (d:Ld):Prop:=∃ a∈d,lsats cn cz a
variable {cn cz}
theorem lsats_cons {c:Bool×Lf} {a:List (Bool×Lf)} (h:lsat cn cz c) (k:lsats cn cz a):lsats cn cz (c :: a):=List.forall_mem_cons.mpr ⟨h,k⟩
theorem lsats_nil:lsats cn cz []:=fun _ h=>nomatch h
theorem lsats_app {a b:List (Bool×Lf)} (h:lsats cn cz a) (k:lsats cn cz b):lsats cn cz (a++b):=fun c hc=>(List.mem_append.mp hc).elim (h c) (k c)
theorem lsome_one {a:List (Bool×Lf)} {d:Ld} (h:lsats cn cz a):lsome cn cz (a :: d):=⟨a,.head _,h⟩
theorem lsome_l {d e:Ld} (h:lsome cn cz d):lsome cn cz (d++e):=let ⟨a,ha,h⟩:=h;⟨a,List.mem_append_left _ ha,h⟩
theorem lsome_r {d e:Ld} (h:lsome cn cz e):lsome cn cz (d++e):=let ⟨a,ha,h⟩:=h;⟨a,List.mem_append_right _ ha,h⟩
theorem lsome_p {d e:Ld} (h:lsome cn cz d) (h':lsome cn cz e):lsome cn cz (lprod d e) :=
  let ⟨a,ha,h⟩:=h;let ⟨b,hb,h'⟩:=h'
  ⟨a++b,List.mem_flatMap.mpr ⟨a,ha,List.mem_map.mpr ⟨b,hb,rfl⟩⟩,lsats_app h h'⟩
theorem lone_le {z:Bool} {x y:Lx} (h:lv cn cz z x≤lv cn cz z y):lsome cn cz (lone (ld z x y)):=lsome_one (lsats_cons (show 0≤(ld z x y).val cn cz from (ld_val cn cz z x y).symm ▸ Int.sub_nonneg_of_le h) lsats_nil)
theorem lone_lt {z:Bool} {x y:Lx} (h:lv cn cz z x < lv cn cz z y):lsome cn cz (lone (ld z x y).up):=lsome_one (lsats_cons (show 0≤(ld z x y).up.val cn cz by rw [Lf.val_up,ld_val];lia) lsats_nil)
theorem lone_eq {z:Bool} {x y:Lx} (h:lv cn cz z x=lv cn cz z y):lsome cn cz [[(true,ld z y x)]]:=lsome_one (lsats_cons (show (ld z y x).val cn cz=0 from (ld_val cn cz z y x).trans (Int.sub_eq_zero_of_eq h)) lsats_nil)
theorem lle {z:Bool} {x y:Lx}:(Lp.le z x y).den cn cz ↔ lv cn cz z x≤lv cn cz z y:=by
  cases z
  · exact Int.ofNat_le.symm
  · exact .rfl
theorem llt {z:Bool} {x y:Lx}:(Lp.lt z x y).den cn cz ↔ lv cn cz z x < lv cn cz z y:=by
  cases z
  · exact Int.ofNat_lt.symm
  · exact .rfl
theorem leq {z:Bool} {x y:Lx}:(Lp.eq z x y).den cn cz ↔ lv cn cz z x=lv cn cz z y:=by
  cases z
  · exact Int.ofNat_inj.symm
  · exact .rfl
theorem Lp.dnf_ok (f:Lp):(f.den cn cz→lsome cn cz (f.dnf true))∧(¬ f.den cn cz→lsome cn cz (f.dnf false)):=by
  induction f with
  | le z x y=>exact ⟨fun h=>lone_le (lle.mp h),fun h=>lone_lt (Int.not_le.mp fun k=>h (lle.mpr k))⟩
  | lt z x y=>exact ⟨fun h=>lone_lt (llt.mp h),fun h=>lone_le (Int.not_lt.mp fun k=>h (llt.mpr k))⟩
  | eq z x y=>exact ⟨fun h=>lone_eq (leq.mp h),fun h=>(Int.lt_or_gt_of_ne fun k=>h (leq.mpr k)).elim (fun h=>lsome_r (lone_lt h)) fun h=>lsome_l (lone_lt h)⟩
  | no f p=>exact ⟨p.2,fun h=>p.1 (Classical.not_not.mp h)⟩
  | an f g p q=>exact ⟨fun h=>lsome_p (p.1 h.1) (q.1 h.2),fun h=>(Classical.not_and_iff_not_or_not.mp h).elim (fun h=>lsome_l (p.2 h)) fun h=>lsome_r (q.2 h)⟩
  | or f g p q=>exact ⟨fun h=>h.elim (fun h=>lsome_l (p.1 h)) fun h=>lsome_r (q.1 h),fun h=>lsome_p (p.2 fun x=>h (.inl x)) (q.2 fun x=>h (.inr x))⟩
  | im f g p q=>exact ⟨fun h=>(Classical.em (f.den cn cz)).elim (fun x=>lsome_r (q.1 (h x))) fun x=>lsome_l (p.2 x),fun h=>lsome_p (p.1 (Classical.byContradiction fun x=>h fun y=>absurd y x)) (q.2 fun x=>h fun _=>x)⟩
  | ff=>exact ⟨False.elim,fun _=>lsome_one lsats_nil⟩
noncomputable def lholds (cn:List Nat) (cz:List Int) (p:Lp×Bool):Prop:=bif p.2 then p.1.den cn cz else ¬ p.1.den cn cz
theorem Lp.parts_ok (f:Lp):∀ b,lholds cn cz (f,b)→∀ p∈f.parts b,lholds cn cz p:=by
  have one:∀ {g:Lp} {b},lholds cn cz (g,b)→∀ p∈[(g,b)],lholds cn cz p:=fun h p hp=>(List.mem_singleton.mp hp) ▸ h
  have two:∀ {A B:List (Lp×Bool)},(∀ p∈A,lholds cn cz p)→(∀ p∈B,lholds cn cz p)→∀ p∈A++B,lholds cn cz p:=fun h k p hp=>(List.mem_append.mp hp).elim (h p) (k p)
  induction f with
  | no f p=>intro b h;cases b with | false=>exact p true (Classical.not_not.mp h) | true=>exact p false h
  | an f g p q=>intro b h;cases b with | false=>exact one h | true=>exact two (p true h.1) (q true h.2)
  | or f g p q=>intro b h;cases b with | true=>exact one h | false=>exact two (p false fun x=>h (.inl x)) (q false fun x=>h (.inr x))
  | im f g p q=>intro b h;cases b with | true=>exact one h | false=>exact two (p true (Classical.byContradiction fun x=>h fun y=>absurd y x)) (q false fun x=>h fun _=>x)
  | _=>exact fun b h=>one h
theorem Lp.cnf_ok (f:Lp) (b:Bool) (h:lholds cn cz (f,b)):∀ d∈f.cnf b,lsome cn cz d:=fun d hd=>by
  obtain ⟨⟨g,c⟩,hp,rfl⟩:=List.mem_map.mp hd
  have:=f.parts_ok b h _ hp
  cases c with
  | true=>exact g.dnf_ok.1 this
  | false=>exact g.dnf_ok.2 this
theorem lcomb_ok (a:List (Bool×Lf)):∀ ms:List Int,lsats cn cz a→0≤(lcomb a ms).val cn cz:=by
  induction a with
  | nil=>exact fun _ _=>Int.le_refl 0
  | cons c cs ih =>
    intro ms h
    cases ms with
    | nil=>exact Int.le_refl 0
    | cons m ms =>
      have h:=List.forall_mem_cons.mp h
      have ih:=ih ms h.2
      show 0≤(bif c.1 || decide (0≤m) then (c.2.mul m).add (lcomb cs ms) else lcomb cs ms).val cn cz
      cases e:c.1 || decide (0≤m) with
      | false=>exact ih
      | true =>
        rw [cond_true,Lf.val_add,Lf.val_mul]
        refine Int.add_nonneg ?_ ih
        have hc:=h.1
        rw [lsat] at hc
        cases k:c.1 with
        | true=>rw [k] at hc;rw [show c.2.val cn cz=0 from hc,Int.mul_zero];exact Int.le_refl 0
        | false=>rw [k] at hc e;exact Int.mul_nonneg (of_decide_eq_true e) hc
theorem ldot_neg (n:List Int):∀ c:List Nat,lall (fun x=>decide (x≤0)) n=true→ldot n (c.map fun x:Nat=>(x:Int))≤0:=by
  induction n with
  | nil=>exact fun _ _=>Int.le_refl 0
  | cons a as ih =>
    intro c h
    cases c with
    | nil=>exact Int.le_refl 0
    | cons x xs=>have h:=Bool.and_eq_true_iff.mp h;exact Int.add_nonpos (Int.mul_nonpos_of_nonpos_of_nonneg (of_decide_eq_true h.1) (Int.natCast_nonneg x)) (ih xs h.2)
theorem ldot_nul (n:List Int):∀ c:List Int,lall (fun x=>decide (x=0)) n=true→ldot n c=0:=by
  induction n with
  | nil=>exact fun _ _=>rfl
  | cons a as ih =>
    intro c h
    cases c with
    | nil=>rfl
    | cons x xs =>
      have h:=Bool.and_eq_true_iff.mp h
      show a * x+ldot as xs=0
      rw [of_decide_eq_true h.1,Int.zero_mul,Int.zero_add];exact ih xs h.2
theorem Lf.bad_ok (p:Lf) (h:p.bad=true):p.val cn cz < 0:=by
  cases p with
  | mk k n z =>
    have h:=Bool.and_eq_true_iff.mp h
    have h':=Bool.and_eq_true_iff.mp h.2
    show k+(ldot n _+ldot z cz) < 0
    rw [ldot_nul z cz h'.2,Int.add_zero]
    exact Int.add_neg_of_neg_of_nonpos (of_decide_eq_true h.1) (ldot_neg n cn h'.1)
theorem lalt_ok {f:LinK} {acc:List (Bool×Lf)} (d:Ld):∀ ms:List (List Int),(lalt f acc d ms).isSome=true→∀ a∈d,∃ r,(f (a++acc) r).isSome=true:=by
  induction d with
  | nil=>exact fun _ _ a ha=>nomatch ha
  | cons b d ih =>
    intro ms h
    cases e:f (b++acc) ms with
    | none=>exact nomatch (congrArg (fun x=>(Option.bind x (lalt f acc d)).isSome) e).symm.trans h
    | some r=>exact List.forall_mem_cons.mpr ⟨⟨ms,by rw [e];rfl⟩,ih r ((congrArg (fun x=>(Option.bind x (lalt f acc d)).isSome) e).symm.trans h)⟩
theorem lgo_ok (ds:List Ld):∀ (acc:List (Bool×Lf)) (ms:List (List Int)),(lgo ds acc ms).isSome=true→(∀ d∈ds,lsome cn cz d)→lsats cn cz acc→False:=by
  have leaf:∀ {acc:List (Bool×Lf)} {m:List Int} {ms:List (List Int)},(bif (lcomb acc m).bad then some ms else none).isSome=true→lsats cn cz acc→False:=fun {acc m ms} h q=>by
    cases e:(lcomb acc m).bad with
    | false=>exact nomatch (congrArg (fun b=>(bif b then some ms else none).isSome) e).symm.trans h
    | true=>exact absurd (lcomb_ok acc m q) (Int.not_le.mpr (Lf.bad_ok _ e))
  induction ds with
  | nil =>
    intro acc ms h _ q
    cases ms with
    | nil=>exact nomatch h
    | cons m ms=>exact leaf h q
  | cons d ds ih =>
    intro acc ms h hd q
    cases ms with
    | nil=>exact nomatch h
    | cons m ms =>
      cases m with
      | cons k m=>exact leaf (m:=k :: m) h q
      | nil =>
        have hd:=List.forall_mem_cons.mp hd
        obtain ⟨a,ha,qa⟩:=hd.1
        obtain ⟨r,hr⟩:=lalt_ok d ms h a ha
        exact ih _ r hr hd.2 (lsats_app qa q)
theorem lhd_ok (ds:List Ld):(∀ d∈ds,lsome cn cz d)→lsats cn cz (lhd ds)∧∀ d∈ltl ds,lsome cn cz d:=by
  induction ds with
  | nil=>exact fun _=>⟨lsats_nil,fun _ h=>nomatch h⟩
  | cons d ds ih =>
    intro h
    have h:=List.forall_mem_cons.mp h
    have ih:=ih h.2
    cases d with
    | nil=>exact ⟨ih.1,List.forall_mem_cons.mpr ⟨h.1,ih.2⟩⟩
    | cons a d =>
      cases d with
      | nil=>obtain ⟨b,hb,hs⟩:=h.1;rw [List.mem_singleton.mp hb] at hs;exact ⟨lsats_app hs ih.1,ih.2⟩
      | cons b d=>exact ⟨ih.1,List.forall_mem_cons.mpr ⟨h.1,ih.2⟩⟩
end
theorem ltd_ok (cn:List Nat) (cz:List Int) (i:Nat) (t:Nat×Lx×Lx) {n:Nat} (ht:ltok n t=true) (hx:(Lx.v i).N cn=ltv cn cz t):lsome cn cz (ltd i t):=by
  obtain ⟨k,x,y⟩:=t
  have hv:=(Lx.v i).val_N cn cz
  rw [hx] at hv
  have eq:∀ {p:Lf} {z:Int},p.val cn cz=z→z=0→lsat cn cz (true,p):=fun a b=>a.trans b
  have le:∀ {p:Lf} {z:Int},p.val cn cz=z→0≤z→lsat cn cz (false,p):=fun a b=>show 0≤_ from a ▸ b
  have one:∀ {c:Bool×Lf} {d:Ld},lsat cn cz c→lsome cn cz ([c] :: d):=fun h=>lsome_one (lsats_cons h lsats_nil)
  have two:∀ {c e:Bool×Lf} {d:Ld},lsat cn cz c→lsat cn cz e→lsome cn cz ([c,e] :: d):=fun h k=>lsome_one (lsats_cons h (lsats_cons k lsats_nil))
  have sub:∀ {p q:Lf} {a b:Int},p.val cn cz=a→q.val cn cz=b→(p.sub q).val cn cz=a - b:=fun h k=>by rw [Lf.val_sub,h,k]
  have add:∀ {p q:Lf} {a b:Int},p.val cn cz=a→q.val cn cz=b→(p.add q).val cn cz=a+b:=fun h k=>by rw [Lf.val_add,h,k]
  have vx:=x.val_N cn cz
  have vy:=y.val_N cn cz
  have vz:=x.val_Z cn cz
  match k with
  | 0 =>
    have hv:((Lx.v i).fN).val cn cz=((x.N cn - y.N cn:Nat):Int):=hv
    rcases Nat.le_total (x.N cn) (y.N cn) with h | h
    · exact two (eq hv (by rw [Nat.sub_eq_zero_of_le h];rfl)) (le (sub vy vx) (Int.sub_nonneg_of_le (Int.ofNat_le.mpr h)))
    · exact lsome_r (d:=[_]) (one (eq (sub (add hv vy) vx) (by rw [Int.ofNat_sub h,Int.sub_add_cancel,Int.sub_self])))
  | 1 =>
    have hv:((Lx.v i).fN).val cn cz=((x.N cn - y.N cn:Nat):Int):=hv
    exact two (le (sub vx hv) (Int.sub_nonneg_of_le (Int.ofNat_le.mpr (Nat.sub_le _ _)))) (le (sub (add hv vy) vx) (Int.sub_nonneg_of_le (Int.ofNat_le.mpr (Nat.sub_le_iff_le_add.mp (Nat.le_refl _)))))
  | 2 =>
    have hv:((Lx.v i).fN).val cn cz=((x.N cn / y.N cn:Nat):Int):=hv
    cases y with
    | l k =>
      have hk:1≤k:=Nat.le_of_ble_eq_true (Bool.and_eq_true_iff.mp ht).2
      have h1:k * (x.N cn / k)≤x.N cn:=Nat.mul_div_le _ _
      have h2:x.N cn < k * (x.N cn / k)+k:=Nat.lt_mul_div_succ (x.N cn) hk
      have hm:(((Lx.v i).fN).mul k).val cn cz=((k * (x.N cn / k):Nat):Int):=(Lf.val_mul cn cz _ _).trans (congrArg _ hv)
      exact two (le (sub vx hm) (Int.sub_nonneg_of_le (Int.ofNat_le.mpr h1))) (le (sub (add hm (show (Lf.mk ((k:Int) - 1) [] []).val cn cz=(k:Int) - 1 from Int.add_zero _)) vx) (by lia))
    | _=>cases (Bool.and_eq_true_iff.mp ht).2
  | 3 =>
    have hv:((Lx.v i).fN).val cn cz=((min (x.N cn) (y.N cn):Nat):Int):=hv
    rcases Nat.le_total (x.N cn) (y.N cn) with h | h
    · exact two (eq (sub hv vx) (by rw [Nat.min_eq_left h,Int.sub_self])) (le (sub vy vx) (Int.sub_nonneg_of_le (Int.ofNat_le.mpr h)))
    · exact lsome_r (d:=[_]) (two (eq (sub hv vy) (by rw [Nat.min_eq_right h,Int.sub_self])) (le (sub vx vy) (Int.sub_nonneg_of_le (Int.ofNat_le.mpr h))))
  | 4 =>
    have hv:((Lx.v i).fN).val cn cz=((max (x.N cn) (y.N cn):Nat):Int):=hv
    rcases Nat.le_total (y.N cn) (x.N cn) with h | h
    · exact two (eq (sub hv vx) (by rw [Nat.max_eq_left h,Int.sub_self])) (le (sub vx vy) (Int.sub_nonneg_of_le (Int.ofNat_le.mpr h)))
    · exact lsome_r (d:=[_]) (two (eq (sub hv vy) (by rw [Nat.max_eq_right h,Int.sub_self])) (le (sub vy vx) (Int.sub_nonneg_of_le (Int.ofNat_le.mpr h))))
  | 5 =>
    have hv:((Lx.v i).fN).val cn cz=(((x.Z cn cz).toNat:Nat):Int):=hv
    rcases Int.le_total 0 (x.Z cn cz) with h | h
    · exact one (eq (sub hv vz) (by rw [Int.toNat_of_nonneg h,Int.sub_self]))
    · exact lsome_r (d:=[_]) (two (eq hv (by rw [Int.toNat_of_nonpos h];rfl)) (le ((Lf.val_mul cn cz _ _).trans (congrArg _ vz)) (by lia)))
  | k+6=>cases ht
theorem lget_app (l w:List Nat):∀ i,Nat.ble (i+1) l.length=true→lget 0 (l++w) i=lget 0 l i:=by
  induction l with
  | nil=>exact fun _ h=>nomatch h
  | cons x xs ih=>intro i h;cases i with | zero=>rfl | succ i=>exact ih i h
theorem lget_end (l w:List Nat) (x:Nat):lget 0 (l++x :: w) l.length=x:=by
  induction l with
  | nil=>rfl
  | cons _ _ ih=>exact ih
theorem Lx.N_ext (cn w:List Nat) (e:Lx):e.ok cn.length=true→e.N (cn++w)=e.N cn:=by
  induction e with
  | v i=>exact lget_app cn w i
  | a x y p q=>intro h;have h:=Bool.and_eq_true_iff.mp h;show x.N (cn++w)+y.N (cn++w)=x.N cn+y.N cn;rw [p h.1,q h.2]
  | m k x p=>exact fun h=>congrArg (k * ·) (p h)
  | r k x p=>exact fun h=>congrArg (· * k) (p h)
  | _=>exact fun _=>rfl
theorem lcg2 {α β:Type} (f:α→α→β) {a b c d:α} (p:a=c) (q:b=d):f a b=f c d:=p ▸ q ▸ rfl
theorem Lx.Z_ext (cn w:List Nat) (cz:List Int) (e:Lx):e.okZ cn.length=true→e.Z (cn++w) cz=e.Z cn cz:=by
  induction e with
  | a x y p q=>intro h;have h:=Bool.and_eq_true_iff.mp h;exact lcg2 HAdd.hAdd (p h.1) (q h.2)
  | s x y p q=>intro h;have h:=Bool.and_eq_true_iff.mp h;exact lcg2 HSub.hSub (p h.1) (q h.2)
  | m k x p=>exact fun h=>congrArg ((k:Int) * ·) (p h)
  | r k x p=>exact fun h=>congrArg (· * (k:Int)) (p h)
  | n x p=>exact fun h=>congrArg Int.neg (p h)
  | c x _=>exact fun h=>congrArg _ (x.N_ext cn w h)
  | _=>exact fun _=>rfl
theorem ltv_ext (cn w:List Nat) (cz:List Int) (t:Nat×Lx×Lx) (h:ltok cn.length t=true):ltv (cn++w) cz t=ltv cn cz t:=by
  obtain ⟨k,x,y⟩:=t
  have N2:∀ {x y:Lx},(x.ok cn.length && y.ok cn.length)=true→x.N (cn++w)=x.N cn∧y.N (cn++w)=y.N cn:=fun h=>⟨Lx.N_ext _ _ _ (Bool.and_eq_true_iff.mp h).1,Lx.N_ext _ _ _ (Bool.and_eq_true_iff.mp h).2⟩
  match k with
  | 0=>exact lcg2 HSub.hSub (N2 h).1 (N2 h).2
  | 1=>exact lcg2 HSub.hSub (N2 h).1 (N2 h).2
  | 2 =>
    cases y with
    | l k=>exact congrArg (· / k) (x.N_ext cn w (Bool.and_eq_true_iff.mp h).1)
    | _=>cases (Bool.and_eq_true_iff.mp h).2
  | 3=>exact lcg2 min (N2 h).1 (N2 h).2
  | 4=>exact lcg2 max (N2 h).1 (N2 h).2
  | 5=>exact congrArg Int.toNat (x.Z_ext cn w cz h)
  | k+6=>cases h
theorem lext_pre (cz:List Int) (ts:List (Nat×Lx×Lx)):∀ cn:List Nat,∃ l,lext cz ts cn=cn++l:=by
  induction ts with
  | nil=>exact fun cn=>⟨[],(List.append_nil cn).symm⟩
  | cons t ts ih=>intro cn;obtain ⟨l,e⟩:=ih (cn++[_]);exact ⟨_,e.trans (List.append_assoc _ _ _)⟩
theorem ltab_ok (cz:List Int) (ts:List (Nat×Lx×Lx)):∀ cn:List Nat,lok ts cn.length=true→∀ d∈ltab ts cn.length,lsome (lext cz ts cn) cz d:=by
  induction ts with
  | nil=>exact fun _ _ d hd=>nomatch hd
  | cons t ts ih =>
    intro cn h
    have h:=Bool.and_eq_true_iff.mp h
    have hl:(cn++[ltv cn cz t]).length=cn.length+1:=List.length_append
    refine List.forall_mem_cons.mpr ⟨ltd_ok _ cz _ t h.1 ?_,?_⟩
    · obtain ⟨l,e⟩:=lext_pre cz ts (cn++[ltv cn cz t])
      show lget 0 (lext cz ts _) _=ltv (lext cz ts _) cz t
      rw [e,List.append_assoc,ltv_ext _ _ _ _ h.1];exact lget_end _ _ _
    · have:=ih (cn++[ltv cn cz t]);rw [hl] at this;exact this h.2
theorem lden_ok (cn:List Nat) (cz:List Int) (g:Prop) (hs:List Lp):((∀ h∈hs,h.den cn cz)→g)→ldenL cn cz g hs:=by
  induction hs with
  | nil=>exact fun h=>h fun _ x=>nomatch x
  | cons f hs ih=>exact fun h q=>ih fun k=>h (List.forall_mem_cons.mpr ⟨q,k⟩)
theorem Lq.sound (q:Lq) (cn:List Nat) (cz:List Int) (h:q.chk cn.length=true):q.den cn cz:=by
  cases q with
  | mk t hs g ms =>
    have h:=Bool.and_eq_true_iff.mp h
    refine lden_ok _ cz _ hs fun hh=>Classical.byContradiction fun hg=>?_
    have k:=lhd_ok (cn:=lext cz t cn) (cz:=cz) (g.cnf false++(ltab t cn.length++hs.flatMap (·.cnf true))) fun d hd=>(List.mem_append.mp hd).elim (g.cnf_ok false hg d) fun hd=>(List.mem_append.mp hd).elim (ltab_ok cz t cn h.1 d) fun hd=>?_
    · exact lgo_ok _ _ ms h.2 k.2 k.1
    · obtain ⟨f,hf,hd⟩:=List.mem_flatMap.mp hd
      exact f.cnf_ok true (hh f hf) d hd
section
variable {α:Type}
noncomputable abbrev lDi (n:Nat) (k:Nat→Nat→α):α:=k (n % 16) (n / 16)
noncomputable abbrev lDl (e n:Nat) (k:Nat→Nat→α):α:=k (n % 16 ^ e) (n / 16 ^ e)
noncomputable abbrev lDe (f:Nat):Nat→(Lx→Nat→α)→α:=Nat.rec (fun n k=>k (.l 0) n) (fun _ ih n k=>lDi n fun d n=>bif Nat.ble d 6 then k (.v d) n else
  lget (lDl 2 n fun e n=>ih n fun x n=>k (.r e x) n) [lDi n fun e n=>k (.v (e+7)) n,lDi n fun e n=>k (.l (lget 0 [0,1,2,3,4,5,6,7,8,9,10,11,12,13,14,15] e)) n,lDi n fun e n=>lDl (e+2) n fun d n=>k (.l d) n,ih n fun x n=>ih n fun y n=>k (.a x y) n,lDl 2 n fun e n=>ih n fun x n=>k (.m e x) n,ih n fun x n=>k (.c x) n,ih n fun x n=>ih n fun y n=>k (.s x y) n,ih n fun x n=>k (.n x) n] (d - 7)) f
noncomputable abbrev lD2 (n:Nat) (k:Lx→Lx→Nat→α):α:=lDe 9 n fun x n=>lDe 9 n fun y n=>k x y n
noncomputable abbrev lDp (f:Nat):Nat→(Lp→Nat→α)→(Nat→α)→α:=Nat.rec (fun n k _=>k .ff n) (fun _ ih n k z=>lDi n fun d n =>
  lget (z n) [lD2 n fun x y n=>k (.le false x y) n,lD2 n fun x y n=>k (.lt false x y) n,lD2 n fun x y n=>k (.eq false x y) n,lD2 n fun x y n=>k (.le true x y) n,lD2 n fun x y n=>k (.lt true x y) n,lD2 n fun x y n=>k (.eq true x y) n,
    ih n (fun x n=>k (.no x) n) z,ih n (fun x n=>ih n (fun y n=>k (.an x y) n) z) z,ih n (fun x n=>ih n (fun y n=>k (.or x y) n) z) z,k .ff n,ih n (fun x n=>ih n (fun y n=>k (.im x y) n) z) z] d) f
noncomputable abbrev lDts (f:Nat):Nat→(List (Nat×Lx×Lx)→Nat→α)→α:=Nat.rec (fun n k=>k [] n) (fun _ ih n k=>lDi n fun d n=>bif Nat.ble d 5 then lD2 n fun x y n=>ih n fun ts n=>k ((d,x,y) :: ts) n else k [] n) f
noncomputable abbrev lDps (f:Nat):Nat→(List Lp→Nat→α)→α:=Nat.rec (fun n k=>k [] n) (fun _ ih n k=>lDp 9 n (fun t n=>ih n fun ts n=>k (t :: ts) n) fun n=>k [] n) f
noncomputable abbrev lDm (f:Nat):Nat→(List Int→Nat→α)→α:=Nat.rec (fun n k=>k [] n) (fun _ ih n k=>lDi n fun d n =>
  bif Nat.ble d 7 then ih n fun ms n=>k (Int.ofNat d :: ms) n else bif Nat.ble d 13 then ih n fun ms n=>k (Int.negSucc (d - 8) :: ms) n else bif Nat.ble d 14 then ih (n / 256) fun ms r=>k (Int.ofNat (n % 256) :: ms) r else k [] n) f
noncomputable abbrev lDms (f:Nat):Nat→(List (List Int)→α)→α:=Nat.rec (fun _ k=>k []) (fun _ ih n k=>bif Nat.beq n 0 then k [] else lDm 60 n fun m n=>ih n fun ms=>k (m :: ms)) f
end
noncomputable abbrev ldec (n:Nat):Lq:=lDts 9 n fun t n=>lDps 30 n fun h n=>lDp 9 n (fun g n=>lDms 70 n fun ms=>.mk t h g ms) fun _=>.mk [] [] .ff []
theorem aQ {a:Nat} (n:Nat) (ok:(ldec n).chk 1=true):(ldec n).den [a] []:=Lq.sound _ _ _ ok
theorem aF {a b:Nat} (n:Nat) (ok:(ldec n).chk 2=true):(ldec n).den [a,b] []:=Lq.sound _ _ _ ok
theorem aO {a b c:Nat} (n:Nat) (ok:(ldec n).chk 3=true):(ldec n).den [a,b,c] []:=Lq.sound _ _ _ ok
theorem bF {a b c d:Nat} (n:Nat) (ok:(ldec n).chk 4=true):(ldec n).den [a,b,c,d] []:=Lq.sound _ _ _ ok
theorem lq5 {a b c d e:Nat} (n:Nat) (ok:(ldec n).chk 5=true):(ldec n).den [a,b,c,d,e] []:=Lq.sound _ _ _ ok
theorem lq6 {a b c d e f:Nat} (n:Nat) (ok:(ldec n).chk 6=true):(ldec n).den [a,b,c,d,e,f] []:=Lq.sound _ _ _ ok
theorem lq7 {a b c d e f g:Nat} (n:Nat) (ok:(ldec n).chk 7=true):(ldec n).den [a,b,c,d,e,f,g] []:=Lq.sound _ _ _ ok
theorem lq8 {a b c d e f g h:Nat} (n:Nat) (ok:(ldec n).chk 8=true):(ldec n).den [a,b,c,d,e,f,g,h] []:=Lq.sound _ _ _ ok
theorem lqx (cn:List Nat) (cz:List Int) (n:Nat) (ok:(ldec n).chk cn.length=true):(ldec n).den cn cz:=Lq.sound _ _ _ ok
end

noncomputable abbrev matchCls:Addr:=135
mutual
inductive Rep (bad:Addr→Prop) (h:Heap):PyData→Value→Prop
  | none:Rep bad h .none .none
  | bool (b:Bool):Rep bad h (.bool b) (.bool b)
  | int (i:Int) (t:Tok):Rep bad h (.int i) (.int i t)
  | str (x:Str) (t:Tok):Rep bad h (.str x) (.str x t)
  | list {a:Addr} {vs:Array Value} {n:Nat} {xs:List PyData}:¬ bad a→h.get? a=some { cls:=.type "list",data:=.seq vs n }→RepL bad h xs vs.toList→Rep bad h (.list xs) (.ref a)
  | tuple {a:Addr} {vs:Array Value} {n:Nat} {xs:List PyData}:¬ bad a→h.get? a=some { cls:=.type "tuple",data:=.seq vs n }→RepL bad h xs vs.toList→Rep bad h (.tuple xs) (.ref a)
  /-- an object of the class Match (a tuple of its own class) -/
  | mt {a:Addr} {dd:Option Addr} {vs:Array Value} {n:Nat} {xs:List PyData}:¬ bad a→h.get? a=some { cls:=.ref matchCls,dict:=dd,data:=.seq vs n }→RepL bad h xs vs.toList→Rep bad h (.dict [(.none,.tuple xs)]) (.ref a)
inductive RepL (bad:Addr→Prop) (h:Heap):List PyData→List Value→Prop
  | nil:RepL bad h [] []
  | cons {d:PyData} {ds:List PyData} {v:Value} {vs:List Value}:Rep bad h d v→RepL bad h ds vs→RepL bad h (d :: ds) (v :: vs)
end

noncomputable def KeepSeq (bad:Addr→Prop) (h h':Heap):Prop:=∀ b o vs n,¬ bad b→h.get? b=some o→o.data=.seq vs n→h'.get? b=some o

theorem RepL.ind {bad:Addr→Prop} {h:Heap} {P:List PyData→List Value→Prop} (nil:P [] []) (cons:∀ {d ds v vs},Rep bad h d v→RepL bad h ds vs→P ds vs→P (d :: ds) (v :: vs)) {ds:List PyData} {vs:List Value} (r:RepL bad h ds vs):P ds vs :=
  RepL.rec (motive_1:=fun _ _ _=>True) (motive_2:=fun ds vs _=>P ds vs) trivial (fun _=>trivial) (fun _ _=>trivial) (fun _ _=>trivial) (fun _ _ _ _=>trivial) (fun _ _ _ _=>trivial) (fun _ _ _ _=>trivial) nil (fun a b _ ih=>cons a b ih) r
theorem RepL.inv {bad:Addr→Prop} {h:Heap} {d:PyData} {ds:List PyData} {L:List Value} (q:RepL bad h (d :: ds) L):∃ v vs,L=v :: vs∧Rep bad h d v∧RepL bad h ds vs:=by
  cases q with | cons a b=>exact ⟨_,_,rfl,a,b⟩
@[elab_as_elim] theorem RepL.oneE {bad:Addr→Prop} {h:Heap} {d:PyData} {L:List Value} {P:List Value→Prop} (q:RepL bad h [d] L) (H:∀ v,Rep bad h d v→P [v]):P L:=by
  obtain ⟨v,vs,rfl,a,b⟩:=q.inv
  cases b;exact H v a
@[elab_as_elim] theorem RepL.twoE {bad:Addr→Prop} {h:Heap} {d e:PyData} {L:List Value} {P:List Value→Prop} (q:RepL bad h [d,e] L) (H:∀ v w,Rep bad h d v→Rep bad h e w→P [v,w]):P L:=by
  obtain ⟨v,vs,rfl,a,b⟩:=q.inv
  exact b.oneE (P:=fun x=>P (v :: x)) fun w c=>H v w a c
@[elab_as_elim] theorem Rep.intE {bad:Addr→Prop} {h:Heap} {i:Int} {v:Value} {P:Value→Prop} (q:Rep bad h (.int i) v) (H:∀ t,P (.int i t)):P v:=by cases q;exact H _
@[elab_as_elim] theorem Rep.listE {bad:Addr→Prop} {h:Heap} {xs:List PyData} {v:Value} {P:Value→Prop} (q:Rep bad h (.list xs) v) (H:∀ a vs n,¬ bad a→h.get? a=some { cls:=.type "list",data:=.seq vs n }→RepL bad h xs vs.toList→P (.ref a)):P v:=by cases q;exact H _ _ _ (by assumption) (by assumption) (by assumption)
@[elab_as_elim] theorem Rep.tupE {bad:Addr→Prop} {h:Heap} {xs:List PyData} {v:Value} {P:Value→Prop} (q:Rep bad h (.tuple xs) v) (H:∀ a vs n,¬ bad a→h.get? a=some { cls:=.type "tuple",data:=.seq vs n }→RepL bad h xs vs.toList→P (.ref a)):P v:=by cases q;exact H _ _ _ (by assumption) (by assumption) (by assumption)
@[elab_as_elim] theorem Rep.mtE {bad:Addr→Prop} {h:Heap} {xs:List PyData} {v:Value} {P:Value→Prop} (q:Rep bad h (.dict [(.none,.tuple xs)]) v) (H:∀ a dd vs n,¬ bad a→h.get? a=some { cls:=.ref matchCls,dict:=dd,data:=.seq vs n }→RepL bad h xs vs.toList→P (.ref a)):P v:=by cases q;exact H _ _ _ _ (by assumption) (by assumption) (by assumption)
theorem RepL.inv0 {bad:Addr→Prop} {h:Heap} {L:List Value} (q:RepL bad h [] L):L=[]:=by cases q;rfl
section
variable {bad bad':Addr→Prop} {h h':Heap} (k:∀ a o vs n,¬ bad a→h.get? a=some o→o.data=.seq vs n→¬ bad' a∧h'.get? a=some o)
include k
theorem Rep.map {d:PyData} {v:Value} (r:Rep bad h d v):Rep bad' h' d v :=
  Rep.rec (motive_1:=fun d v _=>Rep bad' h' d v) (motive_2:=fun ds vs _=>RepL bad' h' ds vs) .none .bool .int .str
    (fun hb ho _ ih=>let ⟨a,b⟩:=k _ _ _ _ hb ho rfl;.list a b ih) (fun hb ho _ ih=>let ⟨a,b⟩:=k _ _ _ _ hb ho rfl;.tuple a b ih) (fun hb ho _ ih=>let ⟨a,b⟩:=k _ _ _ _ hb ho rfl;.mt a b ih) .nil (fun _ _ a b=>.cons a b) r
theorem RepL.map {ds:List PyData} {vs:List Value} (r:RepL bad h ds vs):RepL bad' h' ds vs:=r.ind .nil fun a _ ih=>.cons (a.map k) ih
end
theorem KeepSeq.map {bad:Addr→Prop} {h h':Heap} (k:KeepSeq bad h h'):∀ a o vs n,¬ bad a→h.get? a=some o→o.data=.seq vs n→¬ bad a∧h'.get? a=some o:=fun a o vs n hb e ed=>⟨hb,k a o vs n hb e ed⟩
theorem Rep.keep {bad:Addr→Prop} {h h':Heap} (k:KeepSeq bad h h') {d:PyData} {v:Value} (r:Rep bad h d v):Rep bad h' d v:=r.map k.map
theorem RepL.keep {bad:Addr→Prop} {h h':Heap} (k:KeepSeq bad h h') {ds:List PyData} {vs:List Value} (r:RepL bad h ds vs):RepL bad h' ds vs:=r.map k.map
theorem Rep.imp {bad bad':Addr→Prop} {h:Heap} (k:∀ a o,h.get? a=some o→bad' a→bad a) {d:PyData} {v:Value} (r:Rep bad h d v):Rep bad' h d v:=r.map fun a o _ _ hb e _=>⟨fun x=>hb (k a o e x),e⟩
theorem RepL.imp {bad bad':Addr→Prop} {h:Heap} (k:∀ a o,h.get? a=some o→bad' a→bad a) {ds:List PyData} {vs:List Value} (r:RepL bad h ds vs):RepL bad' h ds vs:=r.map fun a o _ _ hb e _=>⟨fun x=>hb (k a o e x),e⟩
theorem Rep.reads {bad:Addr→Prop} {h:Heap} {d:PyData} {v:Value} (r:Rep bad h d v):d.canLay0=true→∃ as,Reads h v d as :=
  Rep.rec (motive_1:=fun d v _=>d.canLay0=true→∃ as,Reads h v d as) (motive_2:=fun ds vs _=>PyData.canLayAll0 ds=true→∃ as,ReadsAll h vs ds as)
    (fun _=>⟨_,.none⟩) (fun b _=>⟨_,.bool b⟩) (fun i t _=>⟨_,.int i t⟩) (fun x t _=>⟨_,.str x t⟩)
    (fun _ ho _ ih c=>let ⟨_,r⟩:=ih (by simpa [PyData.canLay0] using c);⟨_,.list ho rfl rfl r⟩) (fun _ ho _ ih c=>let ⟨_,r⟩:=ih (by simpa [PyData.canLay0] using c);⟨_,.tuple ho rfl rfl r⟩)
    (fun _ _ _ _ c=>by simp [PyData.canLay0] at c) (fun _=>⟨_,.nil⟩) (fun _ _ i1 i2 c=>by
      simp only [PyData.canLayAll0,Bool.and_eq_true] at c
      obtain ⟨_,r⟩:=i1 c.1
      obtain ⟨_,q⟩:=i2 c.2
      exact ⟨_,.cons r q⟩) r
theorem RepL.reads {bad:Addr→Prop} {h:Heap} {ds:List PyData} {vs:List Value} (r:RepL bad h ds vs):PyData.canLayAll0 ds=true→∃ as,ReadsAll h vs ds as :=
  r.ind (P:=fun ds vs=>PyData.canLayAll0 ds=true→∃ as,ReadsAll h vs ds as) (fun _=>⟨_,.nil⟩) fun a _ ih c=>by
    simp only [PyData.canLayAll0,Bool.and_eq_true] at c
    obtain ⟨_,r⟩:=a.reads c.1
    obtain ⟨_,q⟩:=ih c.2
    exact ⟨_,.cons r q⟩
theorem RepL.length {bad:Addr→Prop} {h:Heap} {ds:List PyData} {vs:List Value} (r:RepL bad h ds vs):ds.length=vs.length:=r.ind (P:=fun ds vs=>ds.length=vs.length) rfl fun _ _ ih=>congrArg Nat.succ ih
theorem RepL.get {bad:Addr→Prop} {h:Heap} {ds:List PyData} {vs:List Value} (r:RepL bad h ds vs):∀ {i:Nat} {d:PyData},ds[i]?=some d→∃ v,vs[i]?=some v∧Rep bad h d v :=
  r.ind (P:=fun ds vs=>∀ {i:Nat} {d:PyData},ds[i]?=some d→∃ v,vs[i]?=some v∧Rep bad h d v) (fun e=>by cases e) fun a _ ih i d e=>by
    cases i with
    | zero=>cases e;exact ⟨_,rfl,a⟩
    | succ i=>exact ih e
theorem RepL.getV {bad:Addr→Prop} {h:Heap} {ds:List PyData} {vs:List Value} (r:RepL bad h ds vs) {i:Nat} {v:Value} (e:vs[i]?=some v):∃ d,ds[i]?=some d∧Rep bad h d v:=by
  have hl:i < ds.length:=by rw [r.length];exact (List.getElem?_eq_some_iff.mp e).1
  obtain ⟨u,hu,q⟩:=r.get (List.getElem?_eq_getElem hl)
  rw [e] at hu;cases hu
  exact ⟨_,List.getElem?_eq_getElem hl,q⟩
theorem RepL.append {bad:Addr→Prop} {h:Heap} {ds es:List PyData} {vs ws:List Value} (r:RepL bad h ds vs) (q:RepL bad h es ws):RepL bad h (ds++es) (vs++ws):=r.ind (P:=fun ds vs=>RepL bad h (ds++es) (vs++ws)) q fun a _ ih=>.cons a ih
structure Ext (s s':Shared):Prop where
  keep:∀ b o,s.heap.get? b=some o→s'.heap.get? b=some o
  gens:s'.gens=s.gens
  os:s'.os=s.os
theorem Ext.refl (s:Shared):Ext s s:=⟨fun _ _ e=>e,rfl,rfl⟩
theorem Ext.toks (s:Shared) (t:Nat):Ext s { s with toks:=t }:=⟨fun _ _ e=>e,rfl,rfl⟩
theorem Ext.trans {a b c:Shared} (x:Ext a b) (y:Ext b c):Ext a c:=⟨fun _ _ e=>y.keep _ _ (x.keep _ _ e),y.gens.trans x.gens,y.os.trans x.os⟩
theorem Ext.push (s:Shared) (o:Obj):Ext s { s with heap:=s.heap.push o }:=⟨fun _ _ e=>Heap.get?_push_of_some _ e,rfl,rfl⟩
theorem Ext.seq {s s':Shared} (x:Ext s s') (bad:Addr→Prop):KeepSeq bad s.heap s'.heap:=fun _ _ _ _ _ e _=>x.keep _ _ e
theorem Rep.ext {bad:Addr→Prop} {s s':Shared} {d:PyData} {v:Value} (r:Rep bad s.heap d v) (x:Ext s s'):Rep bad s'.heap d v:=r.keep (x.seq bad)
theorem RepL.ext {bad:Addr→Prop} {s s':Shared} {d:List PyData} {v:List Value} (r:RepL bad s.heap d v) (x:Ext s s'):RepL bad s'.heap d v:=r.keep (x.seq bad)

noncomputable def Lk (h:Heap) (env:Env) (x:Str) (v:Value):Prop :=
  (env.kindOf x=some .local∧∃ m,h.Ns env.locals m∧m x=some v) ∨
  (env.kindOf x=some .cell∧∃ c,env.cells.lookup x=some c∧h.IsCell c (some v)) ∨
  (env.kindOf x=some .free∧(x == ("__classdict__":Str))=false∧∃ c,env.cells.lookup x=some c∧h.IsCell c (some v))
theorem Lk.keep {h h':Heap} {env:Env} {x:Str} {v:Value} (l:Lk h env x v) (k:∀ b o,h.get? b=some o→h'.get? b=some o):Lk h' env x v:=by
  rcases l with ⟨a,m,b,c⟩ | ⟨a,c,b,d⟩ | ⟨a,n,c,b,d⟩
  · exact .inl ⟨a,m,b.keeps k,c⟩
  · exact .inr (.inl ⟨a,c,b,d.keeps k⟩)
  · exact .inr (.inr ⟨a,n,c,b,d.keeps k⟩)
theorem Lk.load {M:Model} {A:Around} {E:Value→Shared→Prop} {s:Shared} {env:Env} {x:Str} {v:Value} {Q:Value→Shared→Prop} (hk:env.scope.kind=.function) (l:Lk s.heap env x v) (h:Q v s) :
    wpAny M A (loadName env x) Q E s:=by
  rcases l with ⟨a,m,b,c⟩ | ⟨a,c,b,d⟩ | ⟨a,n,c,b,d⟩
  · exact wpAny_loadName_local hk a b c h
  · exact wpAny_loadName_cell hk a b d h
  · exact wpAny_loadName_free hk a b d h n

inductive B where
  | val (d:PyData)
  | own (ds:List PyData)
  /-- just this value -/
  | raw (v:Value)
  /-- no name,but an object of the def's own that stands at a -/
  | at (a:Addr) (o:Obj)
  | free
noncomputable def B.owns:B→Prop
  | .own _=>True
  | .at _ _=>True
  | _=>False
noncomputable def Place (env:Env) (a:Addr):Prop:=a=env.locals∨∃ n,env.cells.lookup n=some a

structure Cx where
  prog:Program
  w:World
  h₀:Heap
  os₀:OsState
  mg:Str→Option Value
  mb:Str→Option Value
  /-- what a global name means -/
  gl:Str→Option Value
  K:Frag
  /-- values of h₀ that are known to be data -/
  dat:PyData→Value→Prop
structure Wf (X:Cx):Prop where
  nolimit:X.h₀.NoLimit
  g:X.h₀.Ns mainGlobals X.mg
  b:X.h₀.Ns builtinsNs X.mb
  gl:∀ x v,X.gl x=some v→X.mg x=some v∨(X.mg x=none∧X.mb x=some v)
  kin:X.K.In X.h₀

structure EnvOk (env:Env):Prop where
  kind:env.scope.kind=.function
  globals:env.globals=mainGlobals
  builtins:env.builtins=builtinsNs

structure FrameOk (h₀:Heap) (env:Env) (h:Heap):Prop where
  ns:∃ m,h.Ns env.locals m
  cell:∀ n c,env.cells.lookup n=some c→∃ v,h.IsCell c v
  ne:∀ n c,env.cells.lookup n=some c→c ≠ env.locals
  inj:∀ n n' c,env.cells.lookup n=some c→env.cells.lookup n'=some c→n=n'
  new:h₀.get? env.locals=none
  newc:∀ n c,env.cells.lookup n=some c→h₀.get? c=none
theorem FrameOk.keep {h₀ h h':Heap} {env:Env} (f:FrameOk h₀ env h) (k:∀ b o,h.get? b=some o→h'.get? b=some o):FrameOk h₀ env h' :=
  ⟨let ⟨m,a⟩:=f.ns;⟨m,a.keeps k⟩,fun n c e=>let ⟨v,a⟩:=f.cell n c e;⟨v,a.keeps k⟩,f.ne,f.inj,f.new,f.newc⟩

noncomputable def aS (bad:Addr→Prop) (O:Str→Option Addr) (a:Addr):Prop:=bad a∨∃ x,O x=some a

inductive Holds (bad:Addr→Prop) (O:Str→Option Addr) (env:Env) (s:Shared) (x:Str):B→Prop
  | val {d:PyData} {v:Value}:Lk s.heap env x v→Rep (aS bad O) s.heap d v→Holds bad O env s x (.val d)
  | own {ds:List PyData} {l:Addr} {vs:Array Value} {n:Nat}:O x=some l→Lk s.heap env x (.ref l)→s.heap.get? l=some { cls:=.type "list",data:=.seq vs n }→RepL (aS bad O) s.heap ds vs.toList→Holds bad O env s x (.own ds)
  | raw {v:Value}:Lk s.heap env x v→Holds bad O env s x (.raw v)
  | at {a:Addr} {o:Obj}:O x=some a→s.heap.get? a=some o→Holds bad O env s x (.at a o)
  | free:Holds bad O env s x .free
theorem Holds.move {bad bad':Addr→Prop} {O O':Str→Option Addr} {env:Env} {s s':Shared} {x:Str} {b:B} (h:Holds bad O env s x b) (lk:∀ v,Lk s.heap env x v→Lk s'.heap env x v) (hO:∀ l,O x=some l→O' x=some l) (hk:∀ l o,O x=some l→s.heap.get? l=some o→s'.heap.get? l=some o)
    (k:∀ a o vs n,¬ aS bad O a→s.heap.get? a=some o→o.data=.seq vs n→¬ aS bad' O' a∧s'.heap.get? a=some o):Holds bad' O' env s' x b:=by
  cases h with
  | val a q=>exact .val (lk _ a) (q.map k)
  | own a b c q=>exact .own (hO _ a) (lk _ b) (hk _ _ a c) (q.map k)
  | raw a=>exact .raw (lk _ a)
  | «at» a c=>exact .at (hO _ a) (hk _ _ a c)
  | free=>exact .free
structure Rel (X:Cx) (bad:Addr→Prop) (O:Str→Option Addr) (env:Env) (ρ:List (Str×B)) (s:Shared):Prop where
  wf:Wf X
  base:∀ b o,X.h₀.get? b=some o→s.heap.get? b=some o
  gens:s.gens=#[]
  os:s.os=X.os₀
  ok:EnvOk env
  frm:FrameOk X.h₀ env s.heap
  holds:∀ x b,ρ.lookup x=some b→Holds bad O env s x b
  inj:∀ x y l,O x=some l→O y=some l→x=y
  low:∀ a,bad a→∃ o,s.heap.get? a=some o
  good:∀ x l,O x=some l→¬ bad l∧X.h₀.get? l=none∧¬ Place env l∧∃ b,ρ.lookup x=some b∧b.owns
  dat:∀ d v,X.dat d v→Rep bad X.h₀ d v
section
variable {X:Cx} {bad:Addr→Prop} {O:Str→Option Addr} {env:Env} {ρ:List (Str×B)} {s:Shared}
theorem Rel.val (r:Rel X bad O env ρ s) (x:Str) (d:PyData) (e:ρ.lookup x=some (.val d)):∃ v,Lk s.heap env x v∧Rep (aS bad O) s.heap d v:=by
  cases r.holds x _ e with | val a b=>exact ⟨_,a,b⟩
theorem Rel.own (r:Rel X bad O env ρ s) (x:Str) (ds:List PyData) (e:ρ.lookup x=some (.own ds)):∃ l vs n,O x=some l∧Lk s.heap env x (.ref l)∧s.heap.get? l=some { cls:=.type "list",data:=.seq vs n }∧RepL (aS bad O) s.heap ds vs.toList:=by
  cases r.holds x _ e with | own a b c d=>exact ⟨_,_,_,a,b,c,d⟩
theorem Rel.raw (r:Rel X bad O env ρ s) (x:Str) (v:Value) (e:ρ.lookup x=some (.raw v)):Lk s.heap env x v:=by
  cases r.holds x _ e with | raw a=>exact a
theorem Rel.pt (r:Rel X bad O env ρ s) (x:Str) (a:Addr) (o:Obj) (e:ρ.lookup x=some (.at a o)):O x=some a∧s.heap.get? a=some o:=by
  cases r.holds x _ e with | «at» a b=>exact ⟨a,b⟩
theorem Rel.ext {s':Shared} (r:Rel X bad O env ρ s) (x:Ext s s'):Rel X bad O env ρ s' where
  wf:=r.wf
  base:=fun b o e=>x.keep _ _ (r.base b o e)
  gens:=x.gens.trans r.gens
  os:=x.os.trans r.os
  ok:=r.ok
  frm:=r.frm.keep x.keep
  holds:=fun y b e=>(r.holds y b e).move (fun _ l=>l.keep x.keep) (fun _ h=>h) (fun _ _ _ e=>x.keep _ _ e) fun _ _ _ _ hb e _=>⟨hb,x.keep _ _ e⟩
  inj:=r.inj
  low:=fun a e=>let ⟨o,ho⟩:=r.low a e;⟨o,x.keep _ _ ho⟩
  good:=r.good
  dat:=r.dat
end

structure Room (k:Nat) (A:Around):Prop where
  handled:A.handled=none
  depth:A.depth+10 * k≤900
  units:A.units+100 * k≤9000
theorem Room.in1 {k:Nat} {A:Around} (r:Room (k+1) A):Room k A.in1:=⟨r.handled,by have:=r.depth;show A.depth+_≤_;exact aF 0xf113841910ab0a0f38419181a0ab0a0f rfl this,by have:=r.units;show A.units+1+_≤_;exact aF 0xf11232829164b180aa0f232829181a64b0a0f rfl this⟩

noncomputable abbrev noE:Value→Shared→Prop:=fun _ _=>False

noncomputable def Ev (X:Cx) (k:Nat) (env:Env) (ρ:List (Str×B)) (e:Expr) (d:PyData):Prop :=
  ∀ (A:Around) (bad:Addr→Prop) (O:Str→Option Addr) (s:Shared),Room k A→Rel X bad O env ρ s →
    wpAny (model X.prog X.w) A (eval e env) (fun v s'=>Ext s s'∧Rep (aS bad O) s'.heap d v) noE s
noncomputable def Tst (X:Cx) (k:Nat) (env:Env) (ρ:List (Str×B)) (e:Expr) (b:Bool):Prop :=
  ∀ (A:Around) (bad:Addr→Prop) (O:Str→Option Addr) (s:Shared),Room k A→Rel X bad O env ρ s →
    wpAny (model X.prog X.w) A (isTrue e env (eval e env)) (fun v s'=>Ext s s'∧v=b) noE s
section
variable {X:Cx} {k:Nat} {env:Env} {ρ:List (Str×B)}

theorem Ev.use {e:Expr} {d:PyData} (h:Ev X k env ρ e d) {A:Around} {bad:Addr→Prop} {O:Str→Option Addr} {s:Shared} {Q:Value→Shared→Prop} (R:Room k A) (r:Rel X bad O env ρ s)
    (hq:∀ v s',Ext s s'→Rel X bad O env ρ s'→Rep (aS bad O) s'.heap d v→Q v s'):wpAny (model X.prog X.w) A (eval e env) Q noE s :=
  wpAny_mono (h A bad O s R r) (fun v s' q=>hq v s' q.1 (r.ext q.1) q.2) fun _ _ x=>x
theorem Tst.use {e:Expr} {b:Bool} (h:Tst X k env ρ e b) {A:Around} {bad:Addr→Prop} {O:Str→Option Addr} {s:Shared} {Q:Bool→Shared→Prop} (R:Room k A) (r:Rel X bad O env ρ s)
    (hq:∀ s',Ext s s'→Rel X bad O env ρ s'→Q b s'):wpAny (model X.prog X.w) A (isTrue e env (eval e env)) Q noE s :=
  wpAny_mono (h A bad O s R r) (fun v s' q=>q.2 ▸ hq s' q.1 (r.ext q.1)) fun _ _ x=>x

theorem aA {x:Str} {pos:Pos} {d:PyData} (h:ρ.lookup x=some (.val d)) (hd:(x == ("__debug__":Str))=false:=by decide):Ev X k env ρ (.Name x pos) d:=fun A bad O s R r=>by
  obtain ⟨v,l,q⟩:=r.val x d h
  exact wpAny_Name (Lk.load r.ok.kind l ⟨Ext.refl s,q⟩) hd
theorem aJ {i:Int} {n:Nat} {pos:Pos}:Ev X k env ρ (.Constant (.int i) n pos) (.int i):=fun _ _ _ s _ _=>wpAny_Constant_int ⟨Ext.toks s _,.int _ _⟩
theorem ev_str {x:Str} {n:Nat} {pos:Pos}:Ev X k env ρ (.Constant (.str x) n pos) (.str x):=fun _ _ _ s _ _=>Calls.Constant_str ⟨Ext.toks s _,.str _ _⟩
theorem ev_none {n:Nat} {pos:Pos}:Ev X k env ρ (.Constant .none n pos) .none:=fun _ _ _ s _ _=>wpAny_pure (a:=Value.none) ⟨Ext.refl s,.none⟩
theorem ev_bool {b:Bool} {n:Nat} {pos:Pos}:Ev X k env ρ (.Constant (.bool b) n pos) (.bool b):=fun _ _ _ s _ _=>wpAny_pure (a:=Value.bool b) ⟨Ext.refl s,.bool _⟩

theorem aU {l r:Expr} {pos:Pos} {a b:Int} (hl:Ev X k env ρ l (.int a)) (hr:Ev X k env ρ r (.int b)):Ev X k env ρ (.BinOp l .Add r pos) (.int (a+b)):=fun A bad O s R q =>
  wpAny_BinOp (hl.use R q fun v s1 x1 r1 q1=>hr.use R r1 fun u s2 x2 r2 q2=>by cases q1;cases q2;exact add_int ⟨(x1.trans x2).trans (Ext.toks _ _),.int _ _⟩)
theorem ev_sub {l r:Expr} {pos:Pos} {a b:Int} (hl:Ev X k env ρ l (.int a)) (hr:Ev X k env ρ r (.int b)):Ev X k env ρ (.BinOp l .Sub r pos) (.int (a - b)):=fun A bad O s R q =>
  wpAny_BinOp (hl.use R q fun v s1 x1 r1 q1=>hr.use R r1 fun u s2 x2 r2 q2=>by cases q1;cases q2;exact sub_int ⟨(x1.trans x2).trans (Ext.toks _ _),.int _ _⟩)
theorem ev_div {l r:Expr} {pos:Pos} {a b:Int} (hl:Ev X k env ρ l (.int a)) (hr:Ev X k env ρ r (.int b)) (hb:b ≠ 0) (hp:Builtin.divisionGoesByPylong a b=false):Ev X k env ρ (.BinOp l .FloorDiv r pos) (.int (a.fdiv b)):=fun A bad O s R q =>
  wpAny_BinOp (hl.use R q fun v s1 x1 r1 q1=>hr.use R r1 fun u s2 x2 r2 q2=>by cases q1;cases q2;exact floordiv_int hb ⟨(x1.trans x2).trans (Ext.toks _ _),.int _ _⟩ (.inl hp))
theorem ev_mod {l r:Expr} {pos:Pos} {a b:Int} (hl:Ev X k env ρ l (.int a)) (hr:Ev X k env ρ r (.int b)) (hb:b ≠ 0):Ev X k env ρ (.BinOp l .Mod r pos) (.int (a.fmod b)):=fun A bad O s R q =>
  wpAny_BinOp (hl.use R q fun v s1 x1 r1 q1=>hr.use R r1 fun u s2 x2 r2 q2=>by cases q1;cases q2;exact mod_int' hb ⟨(x1.trans x2).trans (Ext.toks _ _),.int _ _⟩)
theorem ev_neg {x:Expr} {pos:Pos} {a:Int} (h:Ev X k env ρ x (.int a)):Ev X k env ρ (.UnaryOp .USub x pos) (.int (-a)):=fun A bad O s R q =>
  wpAny_UnaryOp (h.use R q fun v s1 x1 r1 q1=>by cases q1;exact neg_int ⟨x1.trans (Ext.toks _ _),.int _ _⟩)

noncomputable def cmpI (op:CmpOp) (a b:Int):Option Bool:=match op with
  | .Eq=>some (a == b) | .NotEq=>some (a != b) | .Lt=>some (decide (a < b)) | .LtE=>some (decide (a≤b)) | .Gt=>some (decide (b < a)) | .GtE=>some (decide (b≤a)) | _=>none
theorem cmpI_ok {A:Around} {s:Shared} {op:CmpOp} {a b:Int} {t u:Tok} {c:Bool} (h:cmpI op a b=some c) {Q:Value→Shared→Prop} {E:Value→Shared→Prop} (q:Q (.bool c) s):wpAny (model X.prog X.w) A (compareOp op (.int a t) (.int b u)) Q E s:=by
  cases op <;> simp only [cmpI,Option.some.injEq,reduceCtorEq] at h <;> subst h
  · exact eq_int q
  · exact ne_int q
  · exact lt_int q
  · exact le_int q
  · exact gt_int q
  · exact ge_int q
theorem aL {l r:Expr} {op:CmpOp} {pos:Pos} {a b:Int} {c:Bool} (hl:Ev X k env ρ l (.int a)) (hr:Ev X k env ρ r (.int b)) (h:cmpI op a b=some c)
    (hm:behindInMarks op r=false:=by with_unfolding_all rfl):Tst X k env ρ (.Compare l [op] [r] pos) c:=fun A bad O s R q =>
  wpAny_isTrue_Compare1 (hl.use R q fun v s1 x1 r1 q1=>hr.use R r1 fun u s2 x2 r2 q2=>by cases q1;cases q2;exact cmpI_ok h (wpAny_truthy_bool ⟨x1.trans x2,rfl⟩)) hm
theorem tst_eq {l r:Expr} {pos:Pos} {da db:PyData} (hl:Ev X k env ρ l da) (hr:Ev X k env ρ r db) (sa:SeqAt.shaped da=true) (sb:SeqAt.shaped db=true) (hk:0 < k)
    (hm:behindInMarks .Eq r=false:=by with_unfolding_all rfl):Tst X k env ρ (.Compare l [.Eq] [r] pos) (PyData.eqv da db):=fun A bad O s R q =>
  wpAny_isTrue_Compare1 (hl.use R q fun v s1 x1 r1 q1=>hr.use R r1 fun u s2 x2 r2 q2=>by
    obtain ⟨as,ra⟩:=(q1.ext x2).reads (SeqAt.canLay_of_shaped sa)
    obtain ⟨bs,rb⟩:=q2.reads (SeqAt.canLay_of_shaped sb)
    exact SeqAt.compareEq_shaped ra rb sa sb (by have:=R.units;show A.units+64 < 9900;exact aF 0xf1126ac2940090a1f232829164b0a0f rfl this) (wpAny_truthy_bool ⟨x1.trans x2,rfl⟩)) hm
theorem tst_ne {l r:Expr} {pos:Pos} {da db:PyData} (hl:Ev X k env ρ l da) (hr:Ev X k env ρ r db) (sa:SeqAt.shaped da=true) (sb:SeqAt.shaped db=true) (hk:0 < k)
    (hm:behindInMarks .NotEq r=false:=by with_unfolding_all rfl):Tst X k env ρ (.Compare l [.NotEq] [r] pos) (!PyData.eqv da db):=fun A bad O s R q =>
  wpAny_isTrue_Compare1 (hl.use R q fun v s1 x1 r1 q1=>hr.use R r1 fun u s2 x2 r2 q2=>by
    obtain ⟨as,ra⟩:=(q1.ext x2).reads (SeqAt.canLay_of_shaped sa)
    obtain ⟨bs,rb⟩:=q2.reads (SeqAt.canLay_of_shaped sb)
    exact SeqAt.compareNe_shaped ra rb sa sb (by have:=R.units;show A.units+64 < 9900;exact aF 0xf1126ac2940090a1f232829164b0a0f rfl this) (wpAny_truthy_bool ⟨x1.trans x2,rfl⟩)) hm
theorem tst_bool {e:Expr} {b:Bool} (h:Ev X k env ρ e (.bool b)) (he:∀ whole,isTrue e env whole=(do let v ← whole;standAt e.pos;holding [v] (truthy v)):=by intro _;rfl):Tst X k env ρ e b:=fun A bad O s R r =>
  isTrue_plain (h.use R r fun v s1 x1 r1 q1=>by cases q1;exact wpAny_truthy_bool ⟨x1,rfl⟩) (he _)
theorem tst_int {e:Expr} {a:Int} (h:Ev X k env ρ e (.int a)) (he:∀ whole,isTrue e env whole=(do let v ← whole;standAt e.pos;holding [v] (truthy v)):=by intro _;rfl):Tst X k env ρ e (a != 0):=fun A bad O s R r =>
  isTrue_plain (h.use R r fun v s1 x1 r1 q1=>by cases q1;exact PySem.P.truthy_int ⟨x1,rfl⟩) (he _)
theorem tst_not {x:Expr} {pos:Pos} {b:Bool} (h:Tst X k env ρ x b):Tst X k env ρ (.UnaryOp .Not x pos) (!b):=fun A bad O s R r =>
  wpAny_isTrue_Not (h.use R r fun s1 x1 r1=>⟨x1,rfl⟩)
theorem tst_and0 {pos:Pos}:Tst X k env ρ (.BoolOp .And [] pos) true:=fun A bad O s R r=>isTrue_and_nil ⟨Ext.refl s,rfl⟩
theorem tst_or0 {pos:Pos}:Tst X k env ρ (.BoolOp .Or [] pos) false:=fun A bad O s R r=>isTrue_or_nil ⟨Ext.refl s,rfl⟩
theorem aW {x:Expr} {rest:List Expr} {pos:Pos} {b c:Bool} (h:Tst X k env ρ x b) (hr:b=true→Tst X k env ρ (.BoolOp .And rest pos) c):Tst X k env ρ (.BoolOp .And (x :: rest) pos) (b && c):=fun A bad O s R r =>
  isTrue_and (h.use R r fun s1 x1 r1=>by
    cases b with
    | false=>exact ⟨x1,rfl⟩
    | true=>exact (hr rfl).use R r1 fun s2 x2 r2=>⟨x1.trans x2,by simp⟩)
theorem tst_or {x:Expr} {rest:List Expr} {pos:Pos} {b c:Bool} (h:Tst X k env ρ x b) (hr:b=false→Tst X k env ρ (.BoolOp .Or rest pos) c):Tst X k env ρ (.BoolOp .Or (x :: rest) pos) (b || c):=fun A bad O s R r =>
  isTrue_or (h.use R r fun s1 x1 r1=>by
    cases b with
    | true=>exact ⟨x1,rfl⟩
    | false=>exact (hr rfl).use R r1 fun s2 x2 r2=>⟨x1.trans x2,by simp⟩)
theorem ev_if {test body orelse:Expr} {pos:Pos} {b:Bool} {d d':PyData} (h:Tst X k env ρ test b) (h1:b=true→Ev X k env ρ body d) (h2:b=false→Ev X k env ρ orelse d'):Ev X k env ρ (.IfExp test body orelse pos) (if b then d else d'):=fun A bad O s R r =>
  wpAny_IfExp (h.use R r fun s1 x1 r1=>by
    cases b with
    | true=>exact (h1 rfl).use R r1 fun v s2 x2 r2 q2=>⟨x1.trans x2,q2⟩
    | false=>exact (h2 rfl).use R r1 fun v s2 x2 r2 q2=>⟨x1.trans x2,q2⟩)

noncomputable def EvL (X:Cx) (k:Nat) (env:Env) (ρ:List (Str×B)) (pos:Pos) (es:List Expr) (ds:List PyData):Prop :=
  ∀ (A:Around) (bad:Addr→Prop) (O:Str→Option Addr) (s:Shared),Room k A→Rel X bad O env ρ s →
    wpAny (model X.prog X.w) A (spliced (backTo pos (starEach es env))) (fun vs s'=>Ext s s'∧RepL (aS bad O) s'.heap ds vs) noE s
theorem aG {pos:Pos}:EvL X k env ρ pos [] []:=fun A bad O s R r=>wpAny_items_nil ⟨Ext.refl s,.nil⟩
theorem aB {pos:Pos} {e:Expr} {es:List Expr} {d:PyData} {ds:List PyData} (h:Ev X k env ρ e d) (hs:EvL X k env ρ pos es ds)
    (he:starEach (e :: es) env=(false,eval e env) :: starEach es env:=by rfl):EvL X k env ρ pos (e :: es) (d :: ds):=fun A bad O s R r =>
  wpAny_items_cons (h.use R r fun v s1 x1 r1 q1=>wpAny_mono (hs A bad O s1 R r1) (fun vs s2 q2=>⟨x1.trans q2.1,.cons (q1.ext q2.1) q2.2⟩) fun _ _ x=>x) he
theorem badO_alive {bad:Addr→Prop} {O:Str→Option Addr} {s:Shared} (r:Rel X bad O env ρ s):∀ a,aS bad O a→∃ o,s.heap.get? a=some o:=fun a h=>h.elim (r.low a) fun ⟨x,e⟩=>by
  obtain ⟨_,_,_,b,hd,hb⟩:=r.good x a e
  cases b with
  | own ds =>
    obtain ⟨l,vs,n,ho,_,g,_⟩:=r.own x ds hd
    cases Option.some.inj (ho.symm.trans e)
    exact ⟨_,g⟩
  | «at» a' o =>
    obtain ⟨ho,g⟩:=r.pt x a' o hd
    cases Option.some.inj (ho.symm.trans e)
    exact ⟨_,g⟩
  | val _=>exact hb.elim
  | raw _=>exact hb.elim
  | free=>exact hb.elim
theorem Rel.datO {bad:Addr→Prop} {O:Str→Option Addr} {s:Shared} (r:Rel X bad O env ρ s):∀ d v,X.dat d v→Rep (aS bad O) X.h₀ d v:=fun d v e=>(r.dat d v e).imp fun a o e' h=>by
  rcases h with h | ⟨y,hy⟩
  · exact h
  · rw [(r.good y a hy).2.1] at e';cases e'
theorem Rel.datR {bad:Addr→Prop} {O:Str→Option Addr} {s:Shared} (r:Rel X bad O env ρ s) {d:PyData} {v:Value} (e:X.dat d v):Rep (aS bad O) s.heap d v:=(r.datO d v e).keep fun b o _ _ _ e _=>r.base b o e
theorem new_good {bad:Addr→Prop} {O:Str→Option Addr} {s:Shared} {l:Addr} (r:Rel X bad O env ρ s) (h:s.heap.get? l=none):¬ aS bad O l:=fun hb=>by
  obtain ⟨o,ho⟩:=badO_alive r l hb
  rw [h] at ho;cases ho
theorem get_size (h:Heap):h.get? h.objs.size=none:=by
  cases e:h.get? h.objs.size with
  | none=>rfl
  | some o=>exact absurd (Heap.lt_size e) (Nat.lt_irrefl _)
theorem Ext.none {s s':Shared} (x:Ext s s') {l:Addr} (h:s'.heap.get? l=none):s.heap.get? l=none:=by
  cases e:s.heap.get? l with
  | none=>rfl
  | some o=>rw [x.keep _ _ e] at h;cases h
end
section
variable {X:Cx} {k:Nat} {env:Env} {ρ:List (Str×B)}

theorem rep_new {T:String} {bad:Addr→Prop} {O:Str→Option Addr} {s:Shared} {vs:Array Value} {n:Nat} {ds:List PyData} (r:Rel X bad O env ρ s) (q:RepL (aS bad O) s.heap ds vs.toList) :
    ¬ aS bad O s.heap.objs.size∧(s.heap.push { cls:=.type T,data:=.seq vs n }).get? s.heap.objs.size=some { cls:=.type T,data:=.seq vs n }∧RepL (aS bad O) (s.heap.push { cls:=.type T,data:=.seq vs n }) ds vs.toList :=
  ⟨new_good r (get_size _),Heap.get?_push_size _ rfl,q.keep fun _ _ _ _ _ e _=>Heap.get?_push_of_some _ e⟩
theorem rep_newList {bad:Addr→Prop} {O:Str→Option Addr} {s:Shared} {vs:Array Value} {n:Nat} {ds:List PyData} (r:Rel X bad O env ρ s) (q:RepL (aS bad O) s.heap ds vs.toList) :
    Rep (aS bad O) (s.heap.push { cls:=.type "list",data:=.seq vs n }) (.list ds) (.ref s.heap.objs.size):=let ⟨a,b,c⟩:=rep_new (T:="list") (n:=n) r q;.list a b c
theorem rep_newTuple {bad:Addr→Prop} {O:Str→Option Addr} {s:Shared} {vs:Array Value} {n:Nat} {ds:List PyData} (r:Rel X bad O env ρ s) (q:RepL (aS bad O) s.heap ds vs.toList) :
    Rep (aS bad O) (s.heap.push { cls:=.type "tuple",data:=.seq vs n }) (.tuple ds) (.ref s.heap.objs.size):=let ⟨a,b,c⟩:=rep_new (T:="tuple") (n:=n) r q;.tuple a b c
theorem ev_list {es:List Expr} {pos:Pos} {ds:List PyData} (h:EvL X k env ρ pos es ds) (hz:ds.length≤sizeLine):Ev X k env ρ (.List es pos) (.list ds):=fun A bad O s R r =>
  wpAny_List (wpAny_mono (h A bad O s R r) (fun vs s1 q=>⟨by rw [← q.2.length];exact hz,q.1.trans (Ext.push _ _),rep_newList (r.ext q.1) (by simpa using q.2)⟩) fun _ _ x=>x)
theorem aV {es:List Expr} {n:Nat} {pos:Pos} {ds:List PyData} (h:EvL X k env ρ pos es ds) (hz:ds.length≤sizeLine):Ev X k env ρ (.Tuple es n pos) (.tuple ds):=fun A bad O s R r =>
  wpAny_Tuple (wpAny_mono (h A bad O s R r) (fun vs s1 q=>⟨by rw [← q.2.length];exact hz,q.1.trans (Ext.push _ _),rep_newTuple (r.ext q.1) (by simpa using q.2)⟩) fun _ _ x=>x)

noncomputable def EvS (X:Cx) (k:Nat) (env:Env) (ρ:List (Str×B)) (e:Expr) (ds:List PyData):Prop :=
  ∀ (A:Around) (bad:Addr→Prop) (O:Str→Option Addr) (s:Shared),Room k A→Rel X bad O env ρ s →
    wpAny (model X.prog X.w) A (eval e env) (fun v s'=>Ext s s'∧∃ a vs,v=.ref a∧s'.heap.PlainList a vs∧RepL (aS bad O) s'.heap ds vs.toList) noE s
theorem Rep.isList {bad:Addr→Prop} {h:Heap} {ds:List PyData} {v:Value} (r:Rep bad h (.list ds) v):∃ a vs,v=.ref a∧h.PlainList a vs∧RepL bad h ds vs.toList:=by
  cases r with | list hb ho hr=>exact ⟨_,_,rfl,⟨_,ho⟩,hr⟩
theorem Rep.isTup {bad:Addr→Prop} {h:Heap} {ds:List PyData} {v:Value} (r:Rep bad h (.tuple ds) v):∃ a vs,v=.ref a∧IsTup h a vs∧RepL bad h ds vs.toList:=by
  cases r with | tuple hb ho hr=>exact ⟨_,_,rfl,⟨_,ho,rfl,_,rfl⟩,hr⟩
theorem bB {e:Expr} {ds:List PyData} (h:Ev X k env ρ e (.list ds)):EvS X k env ρ e ds:=fun A bad O s R r=>h.use R r fun v s1 x1 r1 q1=>⟨x1,q1.isList⟩
theorem evs_own {x:Str} {pos:Pos} {ds:List PyData} (h:ρ.lookup x=some (.own ds)) (hd:(x == ("__debug__":Str))=false:=by decide):EvS X k env ρ (.Name x pos) ds:=fun A bad O s R r=>by
  obtain ⟨l,vs,n,_,lk,g,q⟩:=r.own x ds h
  exact wpAny_Name (Lk.load r.ok.kind lk ⟨Ext.refl s,l,vs,rfl,⟨_,g⟩,q⟩) hd
theorem EvS.use {e:Expr} {ds:List PyData} (h:EvS X k env ρ e ds) {A:Around} {bad:Addr→Prop} {O:Str→Option Addr} {s:Shared} {Q:Value→Shared→Prop} (R:Room k A) (r:Rel X bad O env ρ s)
    (hq:∀ a vs s',Ext s s'→Rel X bad O env ρ s'→s'.heap.PlainList a vs→RepL (aS bad O) s'.heap ds vs.toList→Q (.ref a) s'):wpAny (model X.prog X.w) A (eval e env) Q noE s :=
  wpAny_mono (h A bad O s R r) (fun v s' q=>by obtain ⟨x,a,vs,rfl,l,p⟩:=q;exact hq a vs s' x (r.ext x) l p) fun _ _ x=>x
theorem IsList_ext {s s':Shared} (x:Ext s s') {a:Addr} {vs:Array Value} (l:s.heap.PlainList a vs):s'.heap.IsList a vs:=let ⟨n,ho⟩:=l;⟨_,x.keep _ _ ho,rfl,_,rfl⟩
theorem PL_is {s:Shared} {a:Addr} {vs:Array Value} (l:s.heap.PlainList a vs):s.heap.IsList a vs:=let ⟨n,ho⟩:=l;⟨_,ho,rfl,_,rfl⟩
theorem IsTup_ext {s s':Shared} (x:Ext s s') {a:Addr} {vs:Array Value} (l:IsTup s.heap a vs):IsTup s'.heap a vs:=let ⟨o,ho,r⟩:=l;⟨o,x.keep _ _ ho,r⟩
noncomputable def placeOf (n:Int) (len:Nat):Nat:=if n < 0 then (n+len).toNat else n.toNat
theorem ev_item {value slice:Expr} {pos:Pos} {ds:List PyData} {n:Int} {d:PyData} (hv:EvS X k env ρ value ds) (hi:Ev X k env ρ slice (.int n)) (hlo:-(ds.length:Int)≤n) (hhi:n < ds.length) (hz:ds.length≤sizeLine) (hd:ds[placeOf n ds.length]?=some d)
    (hs:∀ a u,subscripted slice false (.ref a) (.int n u)=operate [.ref a,.int n u] (getItem (.ref a) (.int n u)):=by intro _ _;with_unfolding_all rfl):Ev X k env ρ (.Subscript value slice pos) d:=fun A bad O s R r =>
  Subscript_ (hv.use R r fun a vs s1 x1 r1 l1 q1=>hi.use R r1 fun v s2 x2 r2 q2=>by
    cases q2
    have hl:=q1.length
    have hz':(sizeLine:Int) < 2 ^ 63:=by decide
    have hzz:(ds.length:Int)≤(sizeLine:Int):=by exact_mod_cast hz
    obtain ⟨v,hv,rv⟩:=q1.get hd
    refine tail_any (IsList_ext x2 l1).typeIs slot_list_getitem.lookup ?_ (hs _ _)
    unfold placeOf at hv hd
    split at hv
    · rename_i hn
      refine wpAny_getItem_list_neg (IsList_ext x2 l1) hn (by rw [← Array.length_toList,← hl];exact hlo) (by exact lqx [_,_] [_] 0xf111108000000000000000e9e3f8000000000000000e91c410000ce3f rfl hlo hz hz') (x:=v) ?_ ⟨x1.trans x2,rv.ext x2⟩
      rw [← Array.length_toList,← hl,← Array.getElem?_toList];exact hv
    · refine wpAny_getItem_list (IsList_ext x2 l1) (by exact lqx [] [_] 0xf110083f08046f rfl (by assumption)) (by exact lqx [_,_] [_] 0xf11118000000000000000e904f8000000000000000e91c41000c04f rfl hhi hz hz') (x:=v) (by rw [← Array.getElem?_toList];exact hv) ⟨x1.trans x2,rv.ext x2⟩)
theorem ev_itemT {value slice:Expr} {pos:Pos} {ds:List PyData} {n:Int} {d:PyData} (hv:Ev X k env ρ value (.tuple ds)) (hi:Ev X k env ρ slice (.int n)) (hlo:0≤n) (hhi:n < ds.length) (hz:ds.length≤sizeLine) (hd:ds[n.toNat]?=some d)
    (hs:∀ a u,subscripted slice false (.ref a) (.int n u)=operate [.ref a,.int n u] (getItem (.ref a) (.int n u)):=by intro _ _;with_unfolding_all rfl):Ev X k env ρ (.Subscript value slice pos) d:=fun A bad O s R r =>
  Subscript_ (hv.use R r fun v s1 x1 r1 q1=>hi.use R r1 fun u s2 x2 r2 q2=>by
    cases q2
    obtain ⟨a,vs,rfl,l1,q1⟩:=q1.isTup
    have hl:=q1.length
    have hz':(sizeLine:Int) < 2 ^ 63:=by decide
    have hzz:(ds.length:Int)≤(sizeLine:Int):=by exact_mod_cast hz
    obtain ⟨v,hv,rv⟩:=q1.get hd
    have l2:IsTup s2.heap a vs.toList.toArray:=by simpa using IsTup_ext x2 l1
    refine item_tupleT l2 (by exact lqx [] [_] 0xf1108000000000000000e9e3f0083f rfl hlo) (by exact lqx [_,_] [_] 0xf11118000000000000000e904f8000000000000000e91c41000c04f rfl hhi hz hz') (j:=n.toNat) ?_ hv ⟨x1.trans x2,rv.ext x2⟩ (hs _ _)
    unfold seqIndex?
    rw [← hl]
    simp only [show ¬ n < 0 by exact lqx [] [_] 0xf1108046f0083f rfl hlo,if_false]
    rw [if_pos (by simp only [Bool.and_eq_true,decide_eq_true_eq];exact lqx [_] [_] 0xf101f11f0c0400837f0c040083f rfl hlo hhi)])
end
theorem RepL.pick {bad:Addr→Prop} {h:Heap} {ds:List PyData} {vs:List Value} (r:RepL bad h ds vs):∀ idx:List Nat,RepL bad h (idx.filterMap (ds[·]?)) (idx.filterMap (vs[·]?))
  | []=>.nil
  | i :: idx=>by
    have ih:=r.pick idx
    cases e:ds[i]? with
    | some d =>
      obtain ⟨v,hv,q⟩:=r.get e
      rw [List.filterMap_cons_some e,List.filterMap_cons_some hv]
      exact .cons q ih
    | none =>
      have:vs[i]?=none:=by
        rw [List.getElem?_eq_none_iff] at e ⊢
        rw [← r.length];exact e
      rw [List.filterMap_cons_none e,List.filterMap_cons_none this]
      exact ih
noncomputable def pickD (ds:List PyData) (lo hi st:Option Int):List PyData :=
  (sliceRange (sliceBounds lo hi st ds.length).1 (sliceBounds lo hi st ds.length).2.1 (sliceBounds lo hi st ds.length).2.2).filterMap (ds[·]?)
theorem RepL.slice {bad:Addr→Prop} {h:Heap} {ds:List PyData} {vs:Array Value} (r:RepL bad h ds vs.toList) (lo hi st:Option Int):RepL bad h (pickD ds lo hi st) (slicePick vs lo hi st).toList:=by
  have e:vs.size=ds.length:=by rw [← Array.length_toList,r.length]
  have:=r.pick (sliceRange (sliceBounds lo hi st ds.length).1 (sliceBounds lo hi st ds.length).2.1 (sliceBounds lo hi st ds.length).2.2)
  unfold pickD slicePick
  rw [e]
  simpa using this
section
variable {X:Cx} {k:Nat} {env:Env} {ρ:List (Str×B)}
noncomputable def EvP (X:Cx) (k:Nat) (env:Env) (ρ:List (Str×B)) (e:Option Expr) (i:Option Int):Prop :=
  ∀ (A:Around) (bad:Addr→Prop) (O:Str→Option Addr) (s:Shared),Room k A→Rel X bad O env ρ s →
    wpAny (model X.prog X.w) A (evalPart e env) (fun v s'=>Ext s s'∧IsPart v i) noE s
theorem evp_none:EvP X k env ρ none none:=fun A bad O s R r=>wpAny_pure (a:=Value.none) ⟨Ext.refl s,.none⟩
theorem evp_some {e:Expr} {i:Int} (h:Ev X k env ρ e (.int i)):EvP X k env ρ (some e) (some i):=fun A bad O s R r=>h.use R r fun v s1 x1 r1 q1=>by cases q1;exact ⟨x1,.int _ _⟩
theorem ev_slice {value:Expr} {lower upper step:Option Expr} {p pos:Pos} {ds:List PyData} {lo hi st:Option Int} (hv:EvS X k env ρ value ds) (hl:EvP X k env ρ lower lo) (hu:EvP X k env ρ upper hi) (ht:EvP X k env ρ step st) (h0:st ≠ some 0) (hz:ds.length≤sizeLine) :
    Ev X k env ρ (.Subscript value (.Slice lower upper step p) pos) (.list (pickD ds lo hi st)):=fun A bad O s R r =>
  Subscript_ (hv.use R r fun a vs s1 x1 r1 l1 q1=>wpAny_Slice (wpAny_mono (hl A bad O s1 R r1) (fun v2 s2 q2=>wpAny_mono (hu A bad O s2 R (r1.ext q2.1)) (fun v3 s3 q3=>wpAny_mono (ht A bad O s3 R ((r1.ext q2.1).ext q3.1)) (fun v4 s4 q4=>by
    have x4:Ext s1 s4:=(q2.1.trans q3.1).trans q4.1
    have x5:Ext s1 { s4 with heap:=s4.heap.push { cls:=.type "slice",data:=.fields #[v2,v3,v4] } }:=x4.trans (Ext.push _ _)
    have hs:∃ ops,subscripted (.Slice lower upper step p) false (.ref a) (.ref s4.heap.objs.size)=operate ops (getItem (.ref a) (.ref s4.heap.objs.size)):=by cases step <;> exact ⟨_,rfl⟩
    obtain ⟨ops,hs⟩:=hs
    refine tail_any (IsList_ext x5 l1).typeIs slot_list_getitem.lookup ?_ hs
    refine wpAny_getItem_list_slice (IsList_ext x5 l1) (Heap.IsSliceOf.new ..) q2.2 q3.2 q4.2 h0 ?_ (by rw [← Array.length_toList,← q1.length];exact hz)
    exact ⟨(x1.trans x5).trans (Ext.push _ _),rep_newList (r1.ext x5) ((q1.ext x5).slice lo hi st)⟩) fun _ _ x=>x) fun _ _ x=>x) fun _ _ x=>x))
theorem add_lists_at {A:Around} {s:Shared} {l b:Addr} {vs ws:Array Value} {Q:Value→Shared→Prop} {E:Value→Shared→Prop} (hl:s.heap.IsList l vs) (hb:s.heap.IsList b ws) (hz:vs.size+ws.size≤sizeLine)
    (h:Q (.ref s.heap.objs.size) { s with heap:=s.heap.push { cls:=.type "list",data:=.seq (vs++ws) } }):wpAny (model X.prog X.w) A (binaryOp .Add (.ref l) (.ref b)) Q E s:=by
  obtain ⟨⟨cls,dd,data,sl⟩,ho,hc,n,hd⟩:=id hl
  obtain ⟨⟨cls2,dd2,data2,sl2⟩,ho2,hc2,n2,hd2⟩:=id hb
  simp only at hc hd hc2 hd2
  subst hc hd hc2 hd2
  exact concat_meets ⟨_,ho,rfl⟩ ⟨_,ho2,rfl⟩ noFill_list_add seq_list_add PySem.F.slot_list_add PySem.F.entry_list_add (PySem.F.args_list_add_2 _ _) (list_addW l b vs ws n n2 dd dd2 sl sl2 hz) ⟨ho,ho2,h⟩
theorem ev_cat {l r:Expr} {pos:Pos} {ds es:List PyData} (hl:EvS X k env ρ l ds) (hr:EvS X k env ρ r es) (hz:ds.length+es.length≤sizeLine):Ev X k env ρ (.BinOp l .Add r pos) (.list (ds++es)):=fun A bad O s R q =>
  wpAny_BinOp (hl.use R q fun a vs s1 x1 r1 l1 q1=>hr.use R r1 fun b ws s2 x2 r2 l2 q2 =>
    add_lists_at (IsList_ext x2 l1) (PL_is l2) (by rw [← Array.length_toList,← Array.length_toList,← q1.length,← q2.length];exact hz) ⟨(x1.trans x2).trans (Ext.push _ _),rep_newList r2 (by simpa using (q1.ext x2).append q2)⟩)
theorem glob_use {A:Around} {bad:Addr→Prop} {O:Str→Option Addr} {s:Shared} {x:Str} {pos:Pos} {v:Value} {Q:Value→Shared→Prop} (r:Rel X bad O env ρ s) (hx:X.gl x=some v) (hk:env.kindOf x=some .globalImplicit) (hq:Q v s)
    (hd:(x == ("__debug__":Str))=false:=by decide):wpAny (model X.prog X.w) A (eval (.Name x pos) env) Q noE s:=by
  refine wpAny_Name ?_ hd
  rw [loadName_read r.ok.kind hk]
  unfold loadGlobal
  rw [r.ok.globals,r.ok.builtins]
  rcases r.wf.gl x v hx with e | ⟨e,e'⟩
  · refine wpAny_bind (wpAny_nsGet (r.wf.g.keeps r.base) ?_)
    rw [e];exact wpAny_pure hq
  · refine wpAny_bind (wpAny_nsGet (r.wf.g.keeps r.base) ?_)
    rw [e]
    refine wpAny_bind (wpAny_nsGet (r.wf.b.keeps r.base) ?_)
    rw [e'];exact wpAny_pure hq
theorem EvL.args {f:Value} {pos:Pos} {e:Expr} {es:List Expr} {ds:List PyData} (h:EvL X k env ρ pos (e :: es) ds) (he:starEach (e :: es) env=(false,eval e env) :: starEach es env)
    {A:Around} {bad:Addr→Prop} {O:Str→Option Addr} {s:Shared} {Q:Args→Shared→Prop} (R:Room k A) (r:Rel X bad O env ρ s)
    (hq:∀ vs s',Ext s s'→Rel X bad O env ρ s'→RepL (aS bad O) s'.heap ds vs→Q ⟨vs,[]⟩ s'):wpAny (model X.prog X.w) A (evalArgs f true (backTo pos (starEach (e :: es) env)) []) Q noE s:=by
  have h':=h A bad O s R r
  rw [he] at h' ⊢
  exact Calls.evalArgs_plain (wpAny_mono h' (fun vs s1 q=>hq vs s1 q.1 (r.ext q.1) q.2) fun _ _ x=>x)
end
noncomputable def put:List (Str×B)→Str→B→List (Str×B)
  | [],x,b=>[(x,b)]
  | (y,c) :: r,x,b=>if x=y then (y,b) :: r else (y,c) :: put r x b
theorem put_self (x:Str) (b:B):∀ ρ:List (Str×B),(put ρ x b).lookup x=some b
  | []=>by simp [put]
  | (y,c) :: r=>by
    unfold put
    by_cases h:x=y
    · rw [if_pos h,List.lookup_cons];simp [h]
    · rw [if_neg h,List.lookup_cons,put_self x b r]
      have:(x == y)=false:=beq_eq_false_iff_ne.mpr h
      rw [this]
theorem bA {x z:Str} (b:B) (hz:z ≠ x):∀ ρ:List (Str×B),(put ρ x b).lookup z=ρ.lookup z
  | []=>by
    have:(z == x)=false:=beq_eq_false_iff_ne.mpr hz
    simp [put,List.lookup_cons,this]
  | (y,c) :: r=>by
    unfold put
    by_cases h:x=y
    · rw [if_pos h,List.lookup_cons,List.lookup_cons]
      have:(z == y)=false:=beq_eq_false_iff_ne.mpr (h ▸ hz)
      rw [this]
    · rw [if_neg h,List.lookup_cons,List.lookup_cons,bA b hz r]

noncomputable def neS (a b:Str):Bool:=!decide (a=b)
theorem hs {x:Str} {b:B} {ρ:List (Str×B)}:(put ρ x b).lookup x=some b:=put_self x b ρ
theorem hn2 {z x:Str} {c b:B} {ρ:List (Str×B)} (q:z ≠ x) (h:ρ.lookup z=some c):(put ρ x b).lookup z=some c:=(bA b q ρ).trans h
theorem hn {z x:Str} {c b:B} {ρ:List (Str×B)} (h:ρ.lookup z=some c) (q:neS z x=true):(put ρ x b).lookup z=some c:=hn2 (by simpa [neS] using q) h
noncomputable def Own (env:Env) (x:Str):Prop:=env.kindOf x=some .local∨(env.kindOf x=some .cell∧∃ c,env.cells.lookup x=some c)

structure Step (env:Env) (O O':Str→Option Addr) (s s':Shared):Prop where
  keep:∀ b o,¬ Place env b→(∀ x,O x ≠ some b)→s.heap.get? b=some o→s'.heap.get? b=some o
  alive:∀ b o,s.heap.get? b=some o→∃ o',s'.heap.get? b=some o'
  new:∀ x l,O' x=some l→(∃ y,O y=some l)∨s.heap.get? l=none
theorem Step.refl (env:Env) (O:Str→Option Addr) (s:Shared):Step env O O s s:=⟨fun _ _ _ _ e=>e,fun b o e=>⟨o,e⟩,fun x l e=>.inl ⟨x,e⟩⟩
theorem Step.of_ext {env:Env} {O:Str→Option Addr} {s s':Shared} (x:Ext s s'):Step env O O s s':=⟨fun _ _ _ _ e=>x.keep _ _ e,fun b o e=>⟨o,x.keep _ _ e⟩,fun x l e=>.inl ⟨x,e⟩⟩
theorem Step.trans {env:Env} {O O' O'':Str→Option Addr} {s s' s'':Shared} (a:Step env O O' s s') (b:Step env O' O'' s' s''):Step env O O'' s s'' where
  keep:=fun c o hp ho e=>b.keep c o hp (fun x hx=>by
    rcases a.new x c hx with ⟨y,hy⟩ | h
    · exact ho y hy
    · rw [e] at h;cases h) (a.keep c o hp ho e)
  alive:=fun c o e=>let ⟨o',e'⟩:=a.alive c o e;b.alive c o' e'
  new:=fun x l e=>by
    rcases b.new x l e with ⟨y,hy⟩ | h
    · exact a.new y l hy
    · refine .inr ?_
      cases q:s.heap.get? l with
      | none=>rfl
      | some o=>obtain ⟨o',e'⟩:=a.alive l o q;rw [e'] at h;cases h
theorem same_alive {p:Addr} {h h':Heap} (hs:Heap.SameBut p h h') {o':Obj} (hp:h'.get? p=some o'):∀ b o,h.get? b=some o→∃ o',h'.get? b=some o':=fun b o e=>by
  by_cases q:b=p
  · subst q;exact ⟨o',hp⟩
  · exact ⟨o,(hs.2 b q).trans e⟩

section
variable {X:Cx} {k:Nat} {env:Env} {ρ:List (Str×B)}
theorem store_at {A:Around} {s:Shared} {x:Str} {v:Value} {h₀:Heap} {Q:Unit→Shared→Prop} {E:Value→Shared→Prop} {M:Model} (ok:EnvOk env) (f:FrameOk h₀ env s.heap) (hx:Own env x)
    (hq:∀ h' t p,Place env p→(env.kindOf x=some .local→p=env.locals)→Heap.SameBut p s.heap h'→Lk h' env x v→(∀ y u,y ≠ x→Lk s.heap env y u→Lk h' env y u)→FrameOk h₀ env h'→Q () { s with heap:=h',toks:=t }) :
    wpAny M A (storeName env x v) Q E s:=by
  obtain ⟨m,hm⟩:=f.ns
  rcases hx with hl | ⟨hl,c,hc⟩
  · refine wpAny_storeName_local hl hm (fun h' hn hs=>hq h' _ env.locals (.inl rfl) (fun _=>rfl) hs (.inl ⟨hl,_,hn,by simp⟩) (fun y u hy lk=>?_) ⟨⟨_,hn⟩,fun n c e=>let ⟨v,a⟩:=f.cell n c e;⟨v,a.sameBut hs (f.ne n c e)⟩,f.ne,f.inj,f.new,f.newc⟩) (by rw [ok.kind];rfl)
    rcases lk with ⟨a,m',b,c⟩ | ⟨a,c,b,d⟩ | ⟨a,n,c,b,d⟩
    · refine .inl ⟨a,_,hn,?_⟩
      have e:m'=m:=by
        obtain ⟨o,es,ep,ho,hd,_,hf⟩:=b
        obtain ⟨o',es',ep',ho',hd',_,hf'⟩:=hm
        rw [ho] at ho';cases ho'
        rw [hd] at hd';cases hd'
        funext z;rw [← hf z,hf' z]
      show (if y=x then some v else m y)=some u
      rw [if_neg hy,← e];exact c
    · exact .inr (.inl ⟨a,c,b,d.sameBut hs (f.ne y c b)⟩)
    · exact .inr (.inr ⟨a,n,c,b,d.sameBut hs (f.ne y c b)⟩)
  · obtain ⟨v₀,hv⟩:=f.cell x c hc
    refine wpAny_storeName_cell ok.kind hl hc hv fun h' hn hs=>hq h' _ c (.inr ⟨x,hc⟩) (fun q=>by rw [hl] at q;cases q) hs (.inr (.inl ⟨hl,c,hc,hn⟩)) (fun y u hy lk=>?_) ⟨⟨m,hm.sameBut hs (Ne.symm (f.ne x c hc))⟩,fun n d e=>?_,f.ne,f.inj,f.new,f.newc⟩
    · rcases lk with ⟨a,m',b,e⟩ | ⟨a,d,b,e⟩ | ⟨a,n,d,b,e⟩
      · exact .inl ⟨a,m',b.sameBut hs (Ne.symm (f.ne x c hc)),e⟩
      · exact .inr (.inl ⟨a,d,b,e.sameBut hs fun q=>hy (f.inj y x d b (q ▸ hc))⟩)
      · exact .inr (.inr ⟨a,n,d,b,e.sameBut hs fun q=>hy (f.inj y x d b (q ▸ hc))⟩)
    · by_cases q:d=c
      · exact ⟨_,q ▸ hn⟩
      · obtain ⟨v,a⟩:=f.cell n d e;exact ⟨v,a.sameBut hs q⟩
theorem place_noseq {h₀ h h':Heap} {p:Addr} (f:FrameOk h₀ env h) (hp:Place env p) (hs:Heap.SameBut p h h') (bad:Addr→Prop):KeepSeq bad h h':=fun b o vs n _ e ed=>by
  refine (hs.2 b fun q=>?_).trans e
  subst q
  rcases hp with rfl | ⟨n,hn⟩
  · obtain ⟨m,o',es,ep,ho,hd,_⟩:=f.ns
    rw [ho] at e;cases e;rw [hd] at ed;cases ed
  · obtain ⟨v,o',ho,hd⟩:=f.cell n b hn
    rw [ho] at e;cases e;rw [hd] at ed;cases ed
theorem place_alive {h₀ h:Heap} {p:Addr} (f:FrameOk h₀ env h) (hp:Place env p):∃ o,h.get? p=some o:=by
  rcases hp with rfl | ⟨n,hn⟩
  · obtain ⟨m,o',es,ep,ho,_⟩:=f.ns;exact ⟨_,ho⟩
  · obtain ⟨v,o',ho,_⟩:=f.cell n p hn;exact ⟨_,ho⟩
theorem place_new {h₀ h:Heap} {p:Addr} (f:FrameOk h₀ env h) (hp:Place env p):h₀.get? p=none:=by
  rcases hp with rfl | ⟨n,hn⟩
  · exact f.new
  · exact f.newc n p hn
noncomputable def del (O:Str→Option Addr) (x:Str):Str→Option Addr:=fun y=>if y=x then none else O y
theorem badO_del {bad:Addr→Prop} {O:Str→Option Addr} {x:Str} {a:Addr} (h:aS bad (del O x) a):aS bad O a:=h.imp id fun ⟨y,e⟩=>⟨y,by unfold del at e;split at e;cases e;exact e⟩
theorem del_some {O:Str→Option Addr} {x y:Str} {l:Addr} (e:del O x y=some l):y ≠ x∧O y=some l:=by
  unfold del at e
  by_cases h:y=x
  · rw [if_pos h] at e;cases e
  · rw [if_neg h] at e;exact ⟨h,e⟩
theorem del_ne {O:Str→Option Addr} {x y:Str} {l:Addr} (h:y ≠ x) (e:O y=some l):del O x y=some l:=(if_neg h).trans e
theorem put_some {ρ:List (Str×B)} {x y:Str} {b c:B} (e:(put ρ x b).lookup y=some c):(y=x∧c=b)∨(y ≠ x∧ρ.lookup y=some c):=by
  by_cases h:y=x
  · subst h;rw [put_self] at e;exact .inl ⟨rfl,(Option.some.inj e).symm⟩
  · rw [bA _ h] at e;exact .inr ⟨h,e⟩
noncomputable def GoodAt (X:Cx) (bad:Addr→Prop) (env:Env) (ρ:List (Str×B)) (x:Str) (l:Addr):Prop:=¬ bad l∧X.h₀.get? l=none∧¬ Place env l∧∃ b,ρ.lookup x=some b∧b.owns
theorem GoodAt.pt {bad:Addr→Prop} {x y:Str} {l:Addr} {b:B} (g:GoodAt X bad env ρ y l) (h:y ≠ x):GoodAt X bad env (put ρ x b) y l :=
  ⟨g.1,g.2.1,g.2.2.1,let ⟨c,h1,h2⟩:=g.2.2.2;⟨c,hn2 h h1,h2⟩⟩
theorem GoodAt.new {bad:Addr→Prop} {x y:Str} {l:Addr} {b:B} (g:GoodAt X bad env ρ y l) (hb:b.owns):GoodAt X bad env (put ρ x b) x l:=⟨g.1,g.2.1,g.2.2.1,b,hs,hb⟩
theorem Rel.drops {bad:Addr→Prop} {O:Str→Option Addr} {s s':Shared} {x:Str} {b:B} (r:Rel X bad O env ρ s) (base:∀ b o,X.h₀.get? b=some o→s'.heap.get? b=some o) (gens:s'.gens=s.gens) (os:s'.os=s.os) (frm:FrameOk X.h₀ env s'.heap) (low:∀ b o,s.heap.get? b=some o→∃ o',s'.heap.get? b=some o')
    (hold:Holds bad (del O x) env s' x b) (mv:∀ y c,y ≠ x→Holds bad O env s y c→Holds bad (del O x) env s' y c):Rel X bad (del O x) env (put ρ x b) s' where
  wf:=r.wf
  base:=base
  gens:=gens.trans r.gens
  os:=os.trans r.os
  ok:=r.ok
  frm:=frm
  holds:=fun y c e=>by
    rcases put_some e with ⟨h,h'⟩ | ⟨hy,e⟩
    · rw [h,h'];exact hold
    · exact mv y c hy (r.holds y c e)
  inj:=fun y z l e e'=>r.inj y z l (del_some e).2 (del_some e').2
  low:=fun a e=>let ⟨o,ho⟩:=r.low a e;low a o ho
  good:=fun y l e=>GoodAt.pt (r.good y l (del_some e).2) (del_some e).1
  dat:=r.dat
theorem Rel.turns {bad:Addr→Prop} {O:Str→Option Addr} {s s':Shared} {x:Str} {l:Addr} {b:B} (r:Rel X bad O env ρ s) (base:∀ b o,X.h₀.get? b=some o→s'.heap.get? b=some o) (gens:s'.gens=s.gens) (os:s'.os=s.os) (frm:FrameOk X.h₀ env s'.heap) (low:∀ b o,s.heap.get? b=some o→∃ o',s'.heap.get? b=some o')
    (hO:O x=some l) (hb:b.owns) (hold:Holds bad O env s' x b) (mv:∀ y c,y ≠ x→Holds bad O env s y c→Holds bad O env s' y c):Rel X bad O env (put ρ x b) s' where
  wf:=r.wf
  base:=base
  gens:=gens.trans r.gens
  os:=os.trans r.os
  ok:=r.ok
  frm:=frm
  holds:=fun y c e=>by
    rcases put_some e with ⟨h,h'⟩ | ⟨hy,e⟩
    · rw [h,h'];exact hold
    · exact mv y c hy (r.holds y c e)
  inj:=r.inj
  low:=fun a e=>let ⟨o,ho⟩:=r.low a e;low a o ho
  good:=fun y l' e=>by
    by_cases h:y=x
    · subst h;exact GoodAt.new (r.good y l' e) hb
    · exact GoodAt.pt (r.good y l' e) h
  dat:=r.dat
noncomputable def ins (O:Str→Option Addr) (x:Str) (l:Addr):Str→Option Addr:=fun y=>if y=x then some l else O y
theorem ins_some {O:Str→Option Addr} {x y:Str} {l l':Addr} (e:ins O x l y=some l'):(y=x∧l'=l)∨(y ≠ x∧O y=some l'):=by
  unfold ins at e
  by_cases h:y=x
  · rw [if_pos h] at e;exact .inl ⟨h,(Option.some.inj e).symm⟩
  · rw [if_neg h] at e;exact .inr ⟨h,e⟩
theorem ins_ne {O:Str→Option Addr} {x y:Str} {l l':Addr} (h:y ≠ x) (e:O y=some l'):ins O x l y=some l':=(if_neg h).trans e
theorem ins_self {O:Str→Option Addr} {x:Str} {l:Addr}:ins O x l x=some l:=if_pos rfl
theorem badO_ins {bad:Addr→Prop} {O:Str→Option Addr} {x:Str} {l a:Addr} (h:aS bad (ins O x l) a):aS bad O a∨a=l:=by
  rcases h with h | ⟨y,e⟩
  · exact .inl (.inl h)
  · exact (ins_some e).elim (fun h=>.inr h.2) fun h=>.inl (.inr ⟨y,h.2⟩)
theorem Rel.joins {bad:Addr→Prop} {O:Str→Option Addr} {s s':Shared} {x:Str} {l:Addr} {b:B} (r:Rel X bad O env ρ s) (base:∀ b o,X.h₀.get? b=some o→s'.heap.get? b=some o) (gens:s'.gens=s.gens) (os:s'.os=s.os) (frm:FrameOk X.h₀ env s'.heap) (low:∀ b o,s.heap.get? b=some o→∃ o',s'.heap.get? b=some o')
    (hl:¬ aS bad O l) (h0:X.h₀.get? l=none) (hp:¬ Place env l) (hb:b.owns) (hold:Holds bad (ins O x l) env s' x b) (mv:∀ y c,y ≠ x→Holds bad O env s y c→Holds bad (ins O x l) env s' y c):Rel X bad (ins O x l) env (put ρ x b) s' where
  wf:=r.wf
  base:=base
  gens:=gens.trans r.gens
  os:=os.trans r.os
  ok:=r.ok
  frm:=frm
  holds:=fun y c e=>by
    rcases put_some e with ⟨h,h'⟩ | ⟨hy,e⟩
    · rw [h,h'];exact hold
    · exact mv y c hy (r.holds y c e)
  inj:=fun y z l' e e'=>by
    rcases ins_some e with ⟨h,q⟩ | ⟨_,e⟩
    · rcases ins_some e' with ⟨h',_⟩ | ⟨_,e'⟩
      · exact h.trans h'.symm
      · exact absurd (.inr ⟨z,q ▸ e'⟩) hl
    · rcases ins_some e' with ⟨_,q⟩ | ⟨_,e'⟩
      · exact absurd (.inr ⟨y,q ▸ e⟩) hl
      · exact r.inj y z l' e e'
  low:=fun a e=>let ⟨o,ho⟩:=r.low a e;low a o ho
  good:=fun y l' e=>by
    rcases ins_some e with ⟨h,q⟩ | ⟨h,e⟩
    · subst h q;exact ⟨fun h=>hl (.inl h),h0,hp,b,hs,hb⟩
    · exact GoodAt.pt (r.good y l' e) h
  dat:=r.dat
theorem store_b {A:Around} {bad:Addr→Prop} {O:Str→Option Addr} {s:Shared} {x:Str} {v:Value} {b:B} {Q:Unit→Shared→Prop} {E:Value→Shared→Prop} {M:Model} (r:Rel X bad O env ρ s) (hx:Own env x)
    (hb:∀ s',Lk s'.heap env x v→(∀ {d u},Rep (aS bad O) s.heap d u→Rep (aS bad (del O x)) s'.heap d u)→Holds bad (del O x) env s' x b)
    (hq:∀ s',Step env O (del O x) s s'→Rel X bad (del O x) env (put ρ x b) s'→(env.kindOf x=some .local→(∀ b o,b ≠ env.locals→s.heap.get? b=some o→s'.heap.get? b=some o))→Q () s'):wpAny M A (storeName env x v) Q E s:=by
  refine store_at r.ok r.frm hx fun h' t p hp hpl hs hl hk f'=>?_
  have nb:∀ b o,b ≠ p→s.heap.get? b=some o→h'.get? b=some o:=fun b o n e=>(hs.2 b n).trans e
  obtain ⟨op,hop⟩:=place_alive f' hp
  have al:=same_alive hs hop
  have km:∀ a o vs n,¬ aS bad O a→s.heap.get? a=some o→o.data=.seq vs n→¬ aS bad (del O x) a∧h'.get? a=some o:=fun a o vs n h e ed=>⟨fun h'=>h (badO_del h'),place_noseq r.frm hp hs (aS bad O) a o vs n h e ed⟩
  exact hq _ ⟨fun b o hb _ e=>nb b o (fun q=>hb (q ▸ hp)) e,al,fun y l e=>.inl ⟨y,(del_some e).2⟩⟩
    (r.drops (fun b o e=>nb b o (fun q=>by rw [q,place_new r.frm hp] at e;cases e) (r.base b o e)) rfl rfl f' al (hb _ hl fun q=>q.map km) fun y c hy h =>
      h.move (fun u=>hk y u hy) (fun l=>del_ne hy) (fun l o h=>nb l o fun q=>(r.good y l h).2.2.1 (q ▸ hp)) km) (fun q b o hb e=>nb b o (fun z=>hb (z.trans (hpl q))) e)
theorem store_val' {A:Around} {bad:Addr→Prop} {O:Str→Option Addr} {s:Shared} {x:Str} {v:Value} {d:PyData} {Q:Unit→Shared→Prop} {E:Value→Shared→Prop} {M:Model} (r:Rel X bad O env ρ s) (hx:Own env x) (q:Rep (aS bad O) s.heap d v)
    (hq:∀ s',Step env O (del O x) s s'→Rel X bad (del O x) env (put ρ x (.val d)) s'→(env.kindOf x=some .local→(∀ b o,b ≠ env.locals→s.heap.get? b=some o→s'.heap.get? b=some o))→Q () s'):wpAny M A (storeName env x v) Q E s:=store_b r hx (fun _ l k=>.val l (k q)) hq
theorem store_raw {A:Around} {bad:Addr→Prop} {O:Str→Option Addr} {s:Shared} {x:Str} {v:Value} {Q:Unit→Shared→Prop} {E:Value→Shared→Prop} {M:Model} (r:Rel X bad O env ρ s) (hx:Own env x)
    (hq:∀ s',Step env O (del O x) s s'→Rel X bad (del O x) env (put ρ x (.raw v)) s'→(env.kindOf x=some .local→(∀ b o,b ≠ env.locals→s.heap.get? b=some o→s'.heap.get? b=some o))→Q () s'):wpAny M A (storeName env x v) Q E s:=store_b r hx (fun _ l _=>.raw l) hq
theorem store_val {A:Around} {bad:Addr→Prop} {O:Str→Option Addr} {s:Shared} {x:Str} {v:Value} {d:PyData} {Q:Unit→Shared→Prop} {E:Value→Shared→Prop} {M:Model} (r:Rel X bad O env ρ s) (hx:Own env x) (q:Rep (aS bad O) s.heap d v)
    (hq:∀ s',Step env O (del O x) s s'→Rel X bad (del O x) env (put ρ x (.val d)) s'→Q () s'):wpAny M A (storeName env x v) Q E s:=store_val' r hx q fun s' a b _=>hq s' a b
end
end Mine
local macro_rules | `(tactic| k_mem)=>`(tactic| ((repeat (first | with_reducible exact Mine.hs | refine Mine.hn ?_ rfl)) <;> first | assumption | exact Mine.hs | rfl))
namespace Mine
inductive Fl where
  | next | brk | cont
  | ret (d:PyData)
noncomputable def FlIs (bad:Addr→Prop) (h:Heap):Fl→Flow→Prop
  | .next,f=>f=.next
  | .brk,f=>f=.brk
  | .cont,f=>f=.cont
  | .ret d,f=>∃ v,f=.ret v∧Rep bad h d v
noncomputable def Post (X:Cx) (env:Env) (bad:Addr→Prop) (O:Str→Option Addr) (s:Shared) (Q:Fl→List (Str×B)→Prop) (fl:Flow) (s':Shared):Prop :=
  ∃ f ρ' O',Q f ρ'∧FlIs bad s'.heap f fl∧Step env O O' s s'∧Rel X bad O' env ρ' s'
noncomputable def Exs (X:Cx) (k:Nat) (env:Env) (ρ:List (Str×B)) (ss:List Stmt) (Q:Fl→List (Str×B)→Prop):Prop :=
  ∀ (A:Around) (bad:Addr→Prop) (O:Str→Option Addr) (s:Shared),Room k A→Rel X bad O env ρ s→wpAny (model X.prog X.w) A (execs ss env) (Post X env bad O s Q) noE s
noncomputable def Ex1 (X:Cx) (k:Nat) (env:Env) (ρ:List (Str×B)) (st:Stmt) (Q:Fl→List (Str×B)→Prop):Prop :=
  ∀ (A:Around) (bad:Addr→Prop) (O:Str→Option Addr) (s:Shared),Room k A→Rel X bad O env ρ s→wpAny (model X.prog X.w) A (exec st env) (Post X env bad O s Q) noE s
section
variable {X:Cx} {k:Nat} {env:Env} {ρ:List (Str×B)} {Q:Fl→List (Str×B)→Prop}
theorem Post.from {bad:Addr→Prop} {O O':Str→Option Addr} {s s' s'':Shared} {fl:Flow} (a:Step env O O' s s') (p:Post X env bad O' s' Q fl s''):Post X env bad O s Q fl s'' :=
  let ⟨f,ρ',O'',q,i,b,r⟩:=p;⟨f,ρ',O'',q,i,a.trans b,r⟩
theorem Exs.from {ss:List Stmt} (h:Exs X k env ρ ss Q) {A:Around} {bad:Addr→Prop} {O O':Str→Option Addr} {s s':Shared} (R:Room k A) (a:Step env O O' s s') (r:Rel X bad O' env ρ s') :
    wpAny (model X.prog X.w) A (execs ss env) (Post X env bad O s Q) noE s':=wpAny_mono (h A bad O' s' R r) (fun _ _ p=>p.from a) fun _ _ x=>x
theorem aE (h:Q .next ρ):Exs X k env ρ [] Q:=fun A bad O s R r=>wpAny_execs_nil ⟨.next,ρ,O,h,rfl,Step.refl _ _ _,r⟩
noncomputable def Nx (X:Cx) (k:Nat) (env:Env) (ss:List Stmt) (Q:Fl→List (Str×B)→Prop) (f:Fl) (ρ':List (Str×B)):Prop:=match f with | .next=>Exs X k env ρ' ss Q | f=>Q f ρ'
theorem aC {st:Stmt} {ss:List Stmt} (h:Ex1 X k env ρ st (Nx X k env ss Q)):Exs X k env ρ (st :: ss) Q:=fun A bad O s R r =>
  wpAny_execs_cons (wpAny_mono (h A bad O s R r) (fun fl s' p=>by
    obtain ⟨f,ρ',O',q,i,b,r'⟩:=p
    cases f with
    | next=>cases i;exact q.from R b r'
    | brk=>cases i;exact ⟨.brk,ρ',O',q,rfl,b,r'⟩
    | cont=>cases i;exact ⟨.cont,ρ',O',q,rfl,b,r'⟩
    | ret d=>obtain ⟨v,rfl,rv⟩:=i;exact ⟨.ret d,ρ',O',q,⟨v,rfl,rv⟩,b,r'⟩) fun _ _ x=>x)
theorem bK {x:Str} {p pos:Pos} {e:Expr} {d:PyData} (he:Ev X k env ρ e d) (hx:Own env x) (hq:Q .next (put ρ x (.val d))) (hs:swapsWith e (some (.Name x p)) pos.line env=pure false:=by rfl) :
    Ex1 X k env ρ (.Assign [.Name x p] e pos) Q:=fun A bad O s R r =>
  wpAny_Assign_Name (he.use R r fun v s1 x1 r1 q1=>store_val r1 hx q1 fun s2 st r2=>⟨.next,_,_,hq,rfl,(Step.of_ext x1).trans st,r2⟩) hs
theorem ex_if {test:Expr} {body orelse:List Stmt} {pos:Pos} {b:Bool} (ht:Tst X k env ρ test b) (h1:b=true→Exs X k env ρ body Q) (h2:b=false→Exs X k env ρ orelse Q):Ex1 X k env ρ (.If test body orelse pos) Q:=fun A bad O s R r =>
  wpAny_If (ht.use R r fun s1 x1 r1=>by
    cases b with
    | true=>exact (h1 rfl).from R (Step.of_ext x1) r1
    | false=>exact (h2 rfl).from R (Step.of_ext x1) r1)
theorem Rep.weak {bad:Addr→Prop} {O:Str→Option Addr} {h:Heap} {d:PyData} {v:Value} (r:Rep (aS bad O) h d v):Rep bad h d v:=r.imp fun _ _ _ h=>.inl h
theorem ex_return {e:Expr} {pos:Pos} {d:PyData} (he:Ev X k env ρ e d) (hq:Q (.ret d) ρ):Ex1 X k env ρ (.Return (some e) pos) Q:=fun A bad O s R r =>
  wpAny_Return_some (he.use R r fun v s1 x1 r1 q1=>⟨.ret d,ρ,O,hq,⟨v,rfl,q1.weak⟩,Step.of_ext x1,r1⟩)
theorem ex_returnOwn {x:Str} {p pos:Pos} {ds:List PyData} (hx:ρ.lookup x=some (.own ds)) (hq:Q (.ret (.list ds)) ρ) (hd:(x == ("__debug__":Str))=false:=by decide):Ex1 X k env ρ (.Return (some (.Name x p)) pos) Q:=fun A bad O s R r=>by
  obtain ⟨l,vs,n,o,lk,g,q⟩:=r.own x ds hx
  refine wpAny_Return_some (wpAny_Name (Lk.load r.ok.kind lk ⟨.ret (.list ds),ρ,O,hq,⟨_,rfl,.list (r.good x l o).1 g ?_⟩,Step.refl _ _ _,r⟩) hd)
  exact q.imp fun _ _ _ h=>.inl h
theorem ex_continue {pos:Pos} (hq:Q .cont ρ):Ex1 X k env ρ (.Continue pos) Q:=fun A bad O s R r=>wpAny_Continue ⟨.cont,ρ,O,hq,rfl,Step.refl _ _ _,r⟩
theorem ex_break {pos:Pos} (hq:Q .brk ρ):Ex1 X k env ρ (.Break pos) Q:=fun A bad O s R r=>wpAny_Break ⟨.brk,ρ,O,hq,rfl,Step.refl _ _ _,r⟩
structure Loop (J:List (Str×B)→Prop) (Q Q':Fl→List (Str×B)→Prop):Prop where
  next:∀ {ρ},J ρ→Q' .next ρ
  cont:∀ {ρ},J ρ→Q' .cont ρ
  brk:∀ {ρ},Q .next ρ→Q' .brk ρ
  ret:∀ {ρ d},Q (.ret d) ρ→Q' (.ret d) ρ
noncomputable def LoopQ (J:List (Str×B)→Prop) (Q:Fl→List (Str×B)→Prop) (f:Fl) (ρ:List (Str×B)):Prop:=match f with
  | .next | .cont=>J ρ
  | .brk=>Q .next ρ
  | .ret d=>Q (.ret d) ρ
theorem loopQ {J:List (Str×B)→Prop} {Q:Fl→List (Str×B)→Prop}:Loop J Q (LoopQ J Q):=⟨id,id,id,id⟩
theorem ex_while {test:Expr} {body:List Stmt} {pos:Pos} (I:Nat→List (Str×B)→Prop) {n:Nat} (h0:I n ρ)
    (turn:∀ n ρ',I n ρ'→∀ Q',Loop (fun ρ=>∃ m,m < n∧I m ρ) Q Q'→∃ b,Tst X k env ρ' test b∧(b=true→Exs X k env ρ' body Q')∧(b=false→Q .next ρ')):Ex1 X k env ρ (.While test body [] pos) Q:=fun A bad O s R r=>by
  refine wpAny_While (codeAny_whileLoop (fun n s'=>∃ ρ' O',I n ρ'∧Step env O O' s s'∧Rel X bad O' env ρ' s') ?_ n ⟨ρ,O,h0,Step.refl _ _ _,r⟩)
  rintro n s' ⟨ρ',O',hI,st,r'⟩
  obtain ⟨b,ht,h1,h2⟩:=turn n ρ' hI _ loopQ
  refine wpAny_mono (ht.use R r' (Q:=fun b' s₂=>if b' then wpAny (model X.prog X.w) A (execs body env) (fun f s₃=>match f with
            | .next | .cont=>∃ m,m < n∧∃ ρ' O',I m ρ'∧Step env O O' s s₃∧Rel X bad O' env ρ' s₃
            | .brk=>Post X env bad O s Q .next s₃
            | .ret v=>Post X env bad O s Q (.ret v) s₃) noE s₂
        else wpAny (model X.prog X.w) A (execs [] env) (fun f s₃=>Post X env bad O s Q f s₃) noE s₂) fun s1 x1 r1=>?_) (fun b' s₂ h=>?_) fun _ _ x=>x.elim
  · cases b with
    | false=>exact wpAny_execs_nil ⟨.next,ρ',O',h2 rfl,rfl,st.trans (Step.of_ext x1),r1⟩
    | true =>
      refine wpAny_mono (h1 rfl A bad O' s1 R r1) (fun fl s2 p=>?_) fun _ _ x=>x
      obtain ⟨f,ρ'',O'',q,i,b,r2⟩:=p
      have st2:=(st.trans (Step.of_ext x1)).trans b
      cases f with
      | next=>cases i;obtain ⟨m,hm,hI⟩:=q;exact ⟨m,hm,ρ'',O'',hI,st2,r2⟩
      | cont=>cases i;obtain ⟨m,hm,hI⟩:=q;exact ⟨m,hm,ρ'',O'',hI,st2,r2⟩
      | brk=>cases i;exact ⟨.next,ρ'',O'',q,rfl,st2,r2⟩
      | ret d=>obtain ⟨v,rfl,rv⟩:=i;exact ⟨.ret d,ρ'',O'',q,⟨v,rfl,rv⟩,st2,r2⟩
  · cases b' with
    | true=>exact wpAny_mono h (fun f _ x=>by cases f <;> exact x) fun _ _ x=>x.elim
    | false=>exact wpAny_mono h (fun _ _ x=>x) fun _ _ x=>x.elim
end
theorem bindL_keep {kindOf:Str→Option NameKind} {x:Str}:∀ (binds:List (Str×Value)) (m:Str→Option Value),(∀ v,(x,v) ∉ binds)→bindL kindOf binds m x=m x
  | [],_,_=>rfl
  | (n,v) :: r,m,h=>by
    unfold bindL
    rw [bindL_keep r _ fun u hu=>h u (.tail _ hu)]
    have hn:x ≠ n:=fun e=>h v (e ▸ .head _)
    split
    · exact if_neg hn
    · rfl
theorem bindL_get {kindOf:Str→Option NameKind} {x:Str} {v:Value} (hk:kindOf x=some .local):∀ (binds:List (Str×Value)) (m:Str→Option Value),(binds.map (·.1)).Nodup→(x,v)∈binds→bindL kindOf binds m x=some v
  | (n,u) :: r,m,nd,h=>by
    unfold bindL
    rw [List.map_cons,List.nodup_cons] at nd
    cases h with
    | head=>rw [bindL_keep r _ fun u hu=>nd.1 (List.mem_map.mpr ⟨_,hu,rfl⟩),if_pos hk];simp
    | tail _ h=>exact bindL_get hk r _ nd.2 h
theorem bindC_keep {kindOf:Str→Option NameKind} {x:Str}:∀ (binds:List (Str×Value)) (m:Str→Option Value),(∀ v,(x,v) ∉ binds)→bindC kindOf binds m x=m x
  | [],_,_=>rfl
  | (n,v) :: r,m,h=>by
    unfold bindC
    rw [bindC_keep r _ fun u hu=>h u (.tail _ hu)]
    have hn:x ≠ n:=fun e=>h v (e ▸ .head _)
    split
    · rfl
    · exact if_neg hn
theorem bindC_get {kindOf:Str→Option NameKind} {x:Str} {v:Value} (hk:kindOf x ≠ some .local):∀ (binds:List (Str×Value)) (m:Str→Option Value),(binds.map (·.1)).Nodup→(x,v)∈binds→bindC kindOf binds m x=some v
  | (n,u) :: r,m,nd,h=>by
    unfold bindC
    rw [List.map_cons,List.nodup_cons] at nd
    cases h with
    | head=>rw [bindC_keep r _ fun u hu=>nd.1 (List.mem_map.mpr ⟨_,hu,rfl⟩),if_neg hk];simp
    | tail _ h=>exact bindC_get hk r _ nd.2 h

structure At (X:Cx) (s:Shared):Prop where
  wf:Wf X
  base:∀ b o,X.h₀.get? b=some o→s.heap.get? b=some o
  gens:s.gens=#[]
  os:s.os=X.os₀
theorem Rel.at {X:Cx} {bad:Addr→Prop} {O:Str→Option Addr} {env:Env} {ρ:List (Str×B)} {s:Shared} (r:Rel X bad O env ρ s):At X s:=⟨r.wf,r.base,r.gens,r.os⟩
theorem At.ext {X:Cx} {s s':Shared} (a:At X s) (x:Ext s s'):At X s':=⟨a.wf,fun b o e=>x.keep _ _ (a.base b o e),x.gens.trans a.gens,x.os.trans a.os⟩

noncomputable def Fun (X:Cx) (k:Nat) (f:Addr) (F:List PyData→PyData→Prop):Prop :=
  ∀ (A:Around) (bad:Addr→Prop) (s:Shared) (vs:List Value) (ds:List PyData) (d:PyData),Room k A→At X s→(∀ a,bad a→∃ o,s.heap.get? a=some o)→(∀ d v,X.dat d v→Rep bad X.h₀ d v)→RepL bad s.heap ds vs→F ds d →
    codeAny (model X.prog X.w) A (.call (.ref f) ⟨vs,[]⟩) (fun r s'=>∃ v,r=.ok (.ret v)∧Ext s s'∧Rep bad s'.heap d v) s

theorem lookup_zip_vals:∀ {names:List Str} {ds:List PyData} {vs:List Value} {bad:Addr→Prop} {h:Heap} {x:Str} {b:B},RepL bad h ds vs→(names.zip (ds.map B.val)).lookup x=some b →
    ∃ v d,(x,v)∈names.zip vs∧b=.val d∧Rep bad h d v
  | [],_,_,_,_,_,_,_,e=>by simp at e
  | n :: names,[],_,_,_,_,_,_,e=>by simp at e
  | n :: names,d :: ds,_,bad,h,x,b,.cons (v:=v) (vs:=vs) r q,e=>by
    simp only [List.map_cons,List.zip_cons_cons,List.lookup_cons] at e
    split at e
    · rename_i hx
      cases e
      have:=beq_iff_eq.mp hx
      subst this
      exact ⟨v,d,.head _,rfl,r⟩
    · obtain ⟨v',d',m,e',q'⟩:=lookup_zip_vals q e
      exact ⟨v',d',.tail _ m,e',q'⟩
theorem zip_fst_nodup:∀ {names:List Str} {vs:List Value},names.Nodup→((names.zip vs).map (·.1)).Nodup
  | [],_,_=>by simp
  | n :: names,[],_=>by simp
  | n :: names,v :: vs,h=>by
    rw [List.nodup_cons] at h
    simp only [List.zip_cons_cons,List.map_cons,List.nodup_cons]
    refine ⟨fun hm=>?_,zip_fst_nodup h.2⟩
    obtain ⟨⟨a,b⟩,hp,rfl⟩:=List.mem_map.mp hm
    exact h.1 (List.of_mem_zip hp).1

theorem Step.ext {env:Env} {O O':Str→Option Addr} {s s₁ s':Shared} (st:Step env O O' s₁ s') (hk:∀ b o,s.heap.get? b=some o→s₁.heap.get? b=some o) (hp:∀ b o,s.heap.get? b=some o→¬ Place env b) (hO:∀ x,O x=none) :
    ∀ b o,s.heap.get? b=some o→s'.heap.get? b=some o:=fun b o e=>st.keep b o (hp b o e) (fun x h=>by rw [hO x] at h;cases h) (hk b o e)

theorem fun_of_body {X:Cx} {k:Nat} {f:Addr} {o:Obj} {fd:FuncData} {body:List Stmt} {names:List Str} {F:List PyData→PyData→Prop}
    (ho:X.h₀.get? f=some o) (hdata:o.data=.func fd) (hcd:X.h₀.CodeRec fd.code fd.qualname) (hbody:fd.body=.stmts body) (hclo:fd.closure=[]) (hg:fd.globals=mainGlobals) (hb:fd.builtins=builtinsNs)
    (hbind:∀ vs:List Value,vs.length=names.length→bindArgs fd ⟨vs,[]⟩=pure (names.zip vs)) (hnd:names.Nodup) (hpar:∀ x∈names,fd.scope.names.lookup x=some .local∨(fd.scope.names.lookup x=some .cell∧∀ n,((cellsFrom n fd.scope.names []).lookup x).isSome=true))
    (hlen:∀ ds d,F ds d→ds.length=names.length)
    (hco:fd.scope.isCoroutine=false) (hgen:fd.scope.isGenerator=false) (hk:fd.scope.kind=.function)
    (h:∀ L ds d,F ds d→Exs X k (callEnvC fd L f) (names.zip (ds.map B.val)) body fun fl _=>fl=.ret d):Fun X (k+1) f F:=fun A bad s vs ds d R a low hdat q hF=>by
  have hl:=hlen ds d hF
  have hv:vs.length=names.length:=by rw [← q.length];exact hl
  refine codeAny_call_cells (o:=o) (fd:=fd) (body:=body) (binds:=names.zip vs) (by have:=R.depth;show A.depth < 1000;exact aF 0xf113e81901f38419181a0ab0a0f rfl this) (a.base _ _ ho) hdata (a.wf.nolimit.keeps a.base) (hcd.keeps a.base) hbody (hbind vs hv) hclo (fun x hx=>?_) (fun s₁ I=>?_) hco hgen hk
  · rcases hpar x.1 (List.of_mem_zip (a:=x.1) (b:=x.2) hx).1 with e | ⟨e,e'⟩
    · exact .inl e
    · exact .inr ⟨e,e' _⟩
  · obtain ⟨⟨⟨h',tk,rfl⟩,ns,keep,fresh⟩,cell,apart,above⟩:=I
    have nodup:=zip_fst_nodup (vs:=vs) hnd
    have hnone:∀ c,s.heap.objs.size≤c→X.h₀.get? c=none:=fun c hc=>by
      cases e:X.h₀.get? c with
      | none=>rfl
      | some o=>exact absurd (Heap.lt_size (a.base _ _ e)) (Nat.not_lt.mpr hc)
    have hcs:∀ n c,(callEnvC fd s.heap.objs.size f).cells.lookup n=some c→s.heap.objs.size < c:=fun n c e=>above n c (mem_of_lookup e)
    have hpl:∀ b o,s.heap.get? b=some o→¬ Place (callEnvC fd s.heap.objs.size f) b:=fun b o e hp=>by
      have:=Heap.lt_size e
      rcases hp with rfl | ⟨n,hn⟩
      · exact Nat.lt_irrefl _ this
      · exact Nat.lt_irrefl _ (Nat.lt_trans this (hcs n b hn))
    have hlk:∀ x v,(x,v)∈names.zip vs→Lk h' (callEnvC fd s.heap.objs.size f) x v:=fun x v hm=>by
      rcases hpar x (List.of_mem_zip hm).1 with e | ⟨e,e'⟩
      · exact .inl ⟨e,_,ns,bindL_get (kindOf:=(callEnvC fd s.heap.objs.size f).kindOf) e _ _ nodup hm⟩
      · obtain ⟨c,hc⟩:=Option.isSome_iff_exists.mp (e' (s.heap.objs.size+1))
        refine .inr (.inl ⟨e,c,hc,?_⟩)
        have:=cell x c hc
        rwa [bindC_get (kindOf:=(callEnvC fd s.heap.objs.size f).kindOf) (by show fd.scope.names.lookup x ≠ _;rw [e];exact fun q=>by cases q) _ _ nodup hm] at this
    have r:Rel X bad (fun _=>none) (callEnvC fd s.heap.objs.size f) (names.zip (ds.map B.val)) { s with heap:=h',toks:=tk }:={
      wf:=a.wf
      base:=fun b o e=>keep _ _ (a.base b o e)
      gens:=a.gens
      os:=a.os
      ok:=⟨hk,hg,hb⟩
      frm:=⟨⟨_,ns⟩,fun n c e=>⟨_,cell n c e⟩,fun n c e=>Nat.ne_of_gt (hcs n c e),fun n n' c e e'=>name_of_addr apart (mem_of_lookup e) (mem_of_lookup e'),hnone _ (Nat.le_refl _),fun n c e=>hnone _ (Nat.le_of_lt (hcs n c e))⟩
      holds:=fun x b e=>by
        obtain ⟨v,d'',hm,e',rv⟩:=lookup_zip_vals q e
        subst e'
        exact .val (hlk x v hm) (rv.map fun a o _ _ hb e _=>⟨fun h=>h.elim hb fun ⟨_,e⟩=>(by cases e),keep _ _ e⟩)
      inj:=fun x y l e=>by cases e
      low:=fun b e=>let ⟨o,ho⟩:=low b e;⟨o,keep _ _ ho⟩
      good:=fun x l e=>by cases e
      dat:=hdat }
    refine wpAny_mono (h s.heap.objs.size ds d hF _ bad _ _ ⟨R.handled,?_,?_⟩ r) (fun fl s' p=>?_) fun _ _ x=>x.elim
    · have:=R.depth;show A.depth+1+_≤_;exact aF 0xf113841910ab180aa0f38419181a0ab0a0f rfl this
    · have:=R.units;show A.units+3+_≤_;exact aF 0xf11232829164b380aa0f232829181a64b0a0f rfl this
    · obtain ⟨f',ρ',O',rfl,⟨v,rfl,rv⟩,st,r'⟩:=p
      exact ⟨v,rfl,⟨st.ext keep hpl fun _=>rfl,r'.gens.trans a.gens.symm,r'.os.trans a.os.symm⟩,rv⟩
section
variable {X:Cx} {k:Nat} {env:Env} {ρ:List (Str×B)} {Q:Fl→List (Str×B)→Prop}
theorem ev_call {x:Str} {p pos:Pos} {e:Expr} {es:List Expr} {ds:List PyData} {d:PyData} {f:Addr} {o:Obj} {fd:FuncData} {F:List PyData→PyData→Prop} (hx:X.gl x=some (.ref f)) (hk:env.kindOf x=some .globalImplicit)
    (ho:X.h₀.get? f=some o) (hdat:o.data=.func fd) (hf:Fun X k f F) (ha:EvL X k env ρ pos (e :: es) ds) (hF:F ds d) (hd:(x == ("__debug__":Str))=false:=by decide)
    (he:starEach (e :: es) env=(false,eval e env) :: starEach es env:=by rfl):Ev X k env ρ (.Call (.Name x p) (e :: es) [] pos) d:=fun A bad O s R r=>by
  refine wpAny_Call_Name_kw (glob_use r hx hk ?_ hd)
  refine Calls.callWith_function (o:=o) (fd:=fd) (ha.args he R r fun vs s1 x1 r1 q1=>⟨⟨r1.base _ _ ho,hdat⟩,?_⟩)
  refine wpAny_call (codeAny_mono (hf A (aS bad O) s1 vs ds d R r1.at (badO_alive r1) r1.datO q1 hF) fun res s2 h=>?_)
  obtain ⟨v,rfl,x2,q2⟩:=h
  exact ⟨x1.trans x2,q2⟩
theorem ev_len {p pos:Pos} {e:Expr} {ds:List PyData} (hx:X.gl ("len":Str)=some (.builtin "len")) (hk:env.kindOf ("len":Str)=some .globalImplicit) (he:EvS X k env ρ e ds) (hz:ds.length≤sizeLine)
    (hs:starEach [e] env=[(false,eval e env)]:=by rfl):Ev X k env ρ (.Call (.Name "len" p) [e] [] pos) (.int ds.length):=fun A bad O s R r=>by
  refine wpAny_Call_Name_kw (glob_use r hx hk ?_)
  refine callWith_method1 (wpAny_items_cons (he.use R r fun a vs s1 x1 r1 l1 q1=>wpAny_items_nil ?_) hs) hs
  have hz':(sizeLine:Int) < 2 ^ 63:=by decide
  have hzz:(ds.length:Int)≤(sizeLine:Int):=by exact_mod_cast hz
  have hl:vs.size=ds.length:=by rw [← Array.length_toList,q1.length]
  refine len_list (PL_is l1) (by rw [hl];exact aF 0xf1118000000000000000e90c4f8000000000000000e91c4100f rfl hz hz') ⟨x1.trans (Ext.toks _ _),?_⟩
  rw [hl];exact .int _ _
noncomputable def EvF (X:Cx) (k:Nat) (env:Env) (ρ:List (Str×B)) (e:Expr) (ds:List PyData):Prop :=
  ∀ (A:Around) (bad:Addr→Prop) (O:Str→Option Addr) (s:Shared),Room k A→Rel X bad O env ρ s →
    wpAny (model X.prog X.w) A (eval e env) (fun v s'=>Ext s s'∧∃ l vs n,v=.ref l∧s.heap.get? l=none∧s'.heap.get? l=some { cls:=.type "list",data:=.seq vs n }∧RepL (fun a=>aS bad O a∨a=l) s'.heap ds vs.toList) noE s
theorem repL_push {bad:Addr→Prop} {s:Shared} {ob:Obj} {ds:List PyData} {vs:List Value} (q:RepL bad s.heap ds vs):RepL (fun a=>bad a∨a=s.heap.objs.size) (s.heap.push ob) ds vs:=by
  refine RepL.keep (h:=s.heap) (fun b o _ _ _ e _=>Heap.get?_push_of_some _ e) (q.imp fun a o e h=>h.elim id fun h=>?_)
  subst h;exact absurd (Heap.lt_size e) (Nat.lt_irrefl _)
theorem evf_list {es:List Expr} {pos:Pos} {ds:List PyData} (h:EvL X k env ρ pos es ds) (hz:ds.length≤sizeLine):EvF X k env ρ (.List es pos) ds:=fun A bad O s R r =>
  wpAny_List (wpAny_mono (h A bad O s R r) (fun vs s1 q=>⟨by rw [← q.2.length];exact hz,q.1.trans (Ext.push _ _),_,_,_,rfl,q.1.none (get_size _),Heap.get?_push_size _ rfl,by simpa using repL_push q.2⟩) fun _ _ x=>x)
theorem EvF.ev {e:Expr} {ds:List PyData} (h:EvF X k env ρ e ds):Ev X k env ρ e (.list ds):=fun A bad O s R r =>
  wpAny_mono (h A bad O s R r) (fun v s1 q=>by
    obtain ⟨x,l,vs,n,rfl,hl,hg,q⟩:=q
    exact ⟨x,.list (new_good r hl) hg (q.imp fun _ _ _ h=>.inl h)⟩) fun _ _ x=>x
theorem Rel.none0 {bad:Addr→Prop} {O:Str→Option Addr} {s:Shared} {l:Addr} (r:Rel X bad O env ρ s) (h:s.heap.get? l=none):X.h₀.get? l=none:=by
  cases e:X.h₀.get? l with
  | none=>rfl
  | some o=>rw [r.base _ _ e] at h;cases h
theorem store_own' {A:Around} {bad:Addr→Prop} {O:Str→Option Addr} {s s1:Shared} {x:Str} {l:Addr} {vs:Array Value} {n:Nat} {ds:List PyData} {P:Unit→Shared→Prop} {E:Value→Shared→Prop} {M:Model} (r:Rel X bad O env ρ s) (x1:Ext s s1) (hx:Own env x)
    (hl:s.heap.get? l=none) (hg:s1.heap.get? l=some { cls:=.type "list",data:=.seq vs n }) (q:RepL (fun a=>aS bad O a∨a=l) s1.heap ds vs.toList)
    (hq:∀ s',Step env O (ins O x l) s s'→Rel X bad (ins O x l) env (put ρ x (.own ds)) s'→(∃ p,Place env p∧Heap.SameBut p s1.heap s'.heap)→P () s'):wpAny M A (storeName env x (.ref l)) P E s1:=by
  have r1:=r.ext x1
  refine store_at r1.ok r1.frm hx fun h' t p hp _ hs hlk hk f'=>?_
  have kq:=place_noseq r1.frm hp hs
  have nb:∀ b o,b ≠ p→s1.heap.get? b=some o→h'.get? b=some o:=fun b o n e=>(hs.2 b n).trans e
  have hbl:¬ aS bad O l:=new_good r hl
  have hpl:¬ Place env l:=fun h=>by obtain ⟨o,ho⟩:=place_alive r.frm h;rw [hl] at ho;cases ho
  obtain ⟨op,hop⟩:=place_alive f' hp
  have al:∀ b o,s.heap.get? b=some o→∃ o',h'.get? b=some o':=fun b o e=>same_alive hs hop b o (x1.keep _ _ e)
  exact hq _ ⟨fun b o hb ho e=>nb b o (fun q=>hb (q ▸ hp)) (x1.keep _ _ e),al,fun y l' e=>(ins_some e).elim (fun h=>.inr (h.2 ▸ hl)) fun h=>.inl ⟨y,h.2⟩⟩
    (r.joins (fun b o e=>nb b o (fun q=>by rw [q,place_new r1.frm hp] at e;cases e) (r1.base b o e)) x1.gens x1.os f' al hbl (r.none0 hl) hpl trivial
      (.own ins_self hlk (kq (fun _=>False) _ _ _ _ (fun h=>h) hg rfl) ((q.imp fun a o e h=>badO_ins h).keep (kq _))) fun y c hy h =>
      h.move (fun u lu=>hk y u hy (lu.keep x1.keep)) (fun l'=>ins_ne hy) (fun l' o h e=>nb l' o (fun q=>(r.good y l' h).2.2.1 (q ▸ hp)) (x1.keep _ _ e)) fun a o vs n hb e ed =>
        ⟨fun h=>(badO_ins h).elim hb fun z=>(by rw [z,hl] at e;cases e),kq (aS bad O) a o vs n hb (x1.keep _ _ e) ed⟩) ⟨p,hp,hs⟩
theorem store_own {A:Around} {bad:Addr→Prop} {O:Str→Option Addr} {s s1:Shared} {x:Str} {l:Addr} {vs:Array Value} {n:Nat} {ds:List PyData} {P:Unit→Shared→Prop} {E:Value→Shared→Prop} {M:Model} (r:Rel X bad O env ρ s) (x1:Ext s s1) (hx:Own env x)
    (hl:s.heap.get? l=none) (hg:s1.heap.get? l=some { cls:=.type "list",data:=.seq vs n }) (q:RepL (fun a=>aS bad O a∨a=l) s1.heap ds vs.toList)
    (hq:∀ s',Step env O (ins O x l) s s'→Rel X bad (ins O x l) env (put ρ x (.own ds)) s'→P () s'):wpAny M A (storeName env x (.ref l)) P E s1:=store_own' r x1 hx hl hg q fun s' a b _=>hq s' a b
theorem ex_assignF {x:Str} {p pos:Pos} {e:Expr} {ds:List PyData} (he:EvF X k env ρ e ds) (hx:Own env x) (hq:Q .next (put ρ x (.own ds))) (hs:swapsWith e (some (.Name x p)) pos.line env=pure false:=by rfl) :
    Ex1 X k env ρ (.Assign [.Name x p] e pos) Q:=fun A bad O s R r =>
  wpAny_Assign_Name (wpAny_mono (he A bad O s R r) (fun v s1 h=>by
    obtain ⟨x1,l,vs,n,rfl,hl,hg,q⟩:=h
    exact store_own r x1 hx hl hg q fun s2 st r2=>⟨.next,_,_,hq,rfl,st,r2⟩) fun _ _ x=>x) hs
end
section
variable {X:Cx} {k:Nat} {env:Env} {ρ:List (Str×B)} {Q:Fl→List (Str×B)→Prop}
theorem Rel.turn {bad:Addr→Prop} {O:Str→Option Addr} {s:Shared} {x:Str} {l:Addr} {ds ds':List PyData} {vs':Array Value} {n':Nat} {h':Heap} {t:Nat} (r:Rel X bad O env ρ s) (hx:ρ.lookup x=some (.own ds)) (ho:O x=some l)
    (hs:Heap.SameBut l s.heap h') (hg:h'.get? l=some { cls:=.type "list",data:=.seq vs' n' }) (q:RepL (aS bad O) s.heap ds' vs'.toList) :
    Step env O O s { s with heap:=h',toks:=t }∧Rel X bad O env (put ρ x (.own ds')) { s with heap:=h',toks:=t }:=by
  have kq:KeepSeq (aS bad O) s.heap h':=fun b o _ _ hb e _=>(hs.2 b fun q=>hb (q ▸ .inr ⟨x,ho⟩)).trans e
  have nb:∀ b o,b ≠ l→s.heap.get? b=some o→h'.get? b=some o:=fun b o n e=>(hs.2 b n).trans e
  obtain ⟨l₀,vs,n,ho',lk,g,_⟩:=r.own x ds hx
  obtain rfl:l₀=l:=Option.some.inj (ho'.symm.trans ho)
  have np:∀ p,Place env p→p ≠ l₀:=fun p hp e=>by
    subst e
    rcases hp with rfl | ⟨n,hn⟩
    · obtain ⟨m,o',es,ep,ho,hd,_⟩:=r.frm.ns
      rw [g] at ho;cases ho;cases hd
    · obtain ⟨v,o',ho,hd⟩:=r.frm.cell n p hn
      rw [g] at ho;cases ho;cases hd
  have hlk:∀ y u,Lk s.heap env y u→Lk h' env y u:=fun y u lk=>by
    rcases lk with ⟨a,m',b,e⟩ | ⟨a,d,b,e⟩ | ⟨a,n,d,b,e⟩
    · exact .inl ⟨a,m',b.sameBut hs (np _ (.inl rfl)),e⟩
    · exact .inr (.inl ⟨a,d,b,e.sameBut hs (np _ (.inr ⟨y,b⟩))⟩)
    · exact .inr (.inr ⟨a,n,d,b,e.sameBut hs (np _ (.inr ⟨y,b⟩))⟩)
  have al:=same_alive hs hg
  exact ⟨⟨fun b o hb hO e=>nb b o (fun q=>hO x (q ▸ ho)) e,al,fun y l e=>.inl ⟨y,e⟩⟩,
    r.turns (fun b o e=>nb b o (fun q=>by have:=(r.good x l₀ ho).2.1;rw [← q,e] at this;cases this) (r.base b o e)) rfl rfl
      ⟨let ⟨m,a⟩:=r.frm.ns;⟨m,a.sameBut hs (np _ (.inl rfl))⟩,fun n c e=>let ⟨v,a⟩:=r.frm.cell n c e;⟨v,a.sameBut hs (np _ (.inr ⟨n,e⟩))⟩,r.frm.ne,r.frm.inj,r.frm.new,r.frm.newc⟩ al ho trivial
      (.own ho (hlk _ _ lk) hg (q.keep kq)) fun y c hy h=>h.move (hlk y) (fun _ e=>e) (fun l o h=>nb l o fun q=>hy (r.inj y x l₀ (q ▸ h) ho)) kq.map⟩
theorem own_at {bad:Addr→Prop} {O:Str→Option Addr} {s:Shared} {x:Str} {ds:List PyData} (r:Rel X bad O env ρ s) (hx:ρ.lookup x=some (.own ds)) :
    ∃ l vs n,O x=some l∧Lk s.heap env x (.ref l)∧s.heap.get? l=some { cls:=.type "list",data:=.seq vs n }∧RepL (aS bad O) s.heap ds vs.toList:=r.own x ds hx
theorem ex_method {pl:Sem Bool} {x:Str} {name:Str} {id:String} {px apos cpos pos:Pos} {e:Expr} {es:List Expr} {ds as ds':List PyData} (hx:ρ.lookup x=some (.own ds)) (slot:Slot "list" name id) (hty:typeOf (.builtin id)=pure (.type "method_descriptor"))
    (ha:EvL X k env ρ cpos (e :: es) as)
    (hcall:∀ (A:Around) (bad:Addr→Prop) (s:Shared) (l:Addr) (vs:Array Value) (n:Nat) (us:List Value) (P:Value→Shared→Prop),Room k A→s.heap.get? l=some { cls:=.type "list",data:=.seq vs n }→¬ bad l→RepL (fun a=>bad a∨a=l) s.heap ds vs.toList→RepL (fun a=>bad a∨a=l) s.heap as us →
      (∀ h' t vs' n',Heap.SameBut l s.heap h'→h'.get? l=some { cls:=.type "list",data:=.seq vs' n' }→RepL (fun a=>bad a∨a=l) s.heap ds' vs'.toList→P .none { s with heap:=h',toks:=t })→wpAny (model X.prog X.w) A (call (.builtin id) (.ref l :: us)) P noE s)
    (hq:Q .next (put ρ x (.own ds'))) (hd:(x == ("__debug__":Str))=false:=by decide)
    (he:eval (.Call (.Attribute (.Name x px) name apos) (e :: es) [] cpos) env=(do
      let ov ← eval (.Name x px) env
      standAt apos.atName
      let (f,first) ← holding [ov] (getMethod ov name pl)
      callWith cpos f first (backTo cpos (starEach (e :: es) env)) []):=by rfl)
    (hst:starEach (e :: es) env=(false,eval e env) :: starEach es env:=by rfl) (hplain:(backTo cpos (starEach es env)).any (·.1)=false:=by rfl)
    (hi:interactive env=false:=by rfl) (hs:swapsWith (.Call (.Attribute (.Name x px) name apos) (e :: es) [] cpos) none pos.line env=pure false:=by rfl) :
    Ex1 X k env ρ (.Expr (.Call (.Attribute (.Name x px) name apos) (e :: es) [] cpos) pos) Q:=fun A bad O s R r=>by
  obtain ⟨l,vs,n,ho,lk,g,q⟩:=own_at r hx
  refine wpAny_Expr (MethodCall_ (wpAny_Name (Lk.load r.ok.kind lk ?_) hd) he) hi hs
  refine getMethod_list_of slot hty ⟨_,g,rfl,_,rfl⟩ ⟨_,g,rfl⟩ (callWith_method1 (wpAny_mono (ha A bad O s R r) (fun us s1 h1=>?_) fun _ _ x=>x) hst hplain)
  have r1:=r.ext h1.1
  have g1:=h1.1.keep _ _ g
  have bl:∀ a,(aS bad (del O x) a∨a=l)→aS bad O a:=fun a h=>by
    rcases h with h | h
    · exact badO_del h
    · exact .inr ⟨x,h ▸ ho⟩
  have lb:∀ a,aS bad O a→(aS bad (del O x) a∨a=l):=fun a h=>by
    rcases h with h | ⟨y,e⟩
    · exact .inl (.inl h)
    · by_cases hy:y=x
      · subst hy;rw [ho] at e;exact .inr (Option.some.inj e).symm
      · exact .inl (.inr ⟨y,by unfold del;rw [if_neg hy];exact e⟩)
  refine hcall A (aS bad (del O x)) s1 l vs n us _ R g1 (fun h=>?_) ((q.ext h1.1).imp fun a _ _ h=>bl a h) (h1.2.imp fun a _ _ h=>bl a h) fun h' t vs' n' hs' hg' q'=>?_
  · rcases h with h | ⟨y,e⟩
    · exact (r.good x l ho).1 h
    · unfold del at e
      split at e
      · cases e
      · rename_i hy;exact hy (r.inj y x l e ho)
  · obtain ⟨st,r2⟩:=r1.turn (t:=t) hx ho hs' hg' (q'.imp fun a _ _ h=>lb a h)
    exact ⟨.next,_,O,hq,rfl,(Step.of_ext h1.1).trans st,r2⟩
end
section
variable {X:Cx} {k:Nat} {env:Env} {ρ:List (Str×B)} {Q:Fl→List (Str×B)→Prop}
theorem RepL.push {bad:Addr→Prop} {h:Heap} {ds:List PyData} {vs:Array Value} {d:PyData} {v:Value} (q:RepL bad h ds vs.toList) (r:Rep bad h d v):RepL bad h (ds++[d]) (vs.push v).toList:=by
  rw [Array.toList_push];exact q.append (.cons r .nil)
theorem ex_append {pl:Sem Bool} {x:Str} {px apos cpos pos:Pos} {e:Expr} {ds:List PyData} {d:PyData} (hx:ρ.lookup x=some (.own ds)) (he:Ev X k env ρ e d) (hz:ds.length≤sizeLine) (hq:Q .next (put ρ x (.own (ds++[d])))) (hd:(x == ("__debug__":Str))=false:=by decide)
    (hm:eval (.Call (.Attribute (.Name x px) "append" apos) [e] [] cpos) env=(do
      let ov ← eval (.Name x px) env
      standAt apos.atName
      let (f,first) ← holding [ov] (getMethod ov "append" pl)
      callWith cpos f first (backTo cpos (starEach [e] env)) []):=by rfl)
    (hst:starEach [e] env=[(false,eval e env)]:=by rfl) (hi:interactive env=false:=by rfl) (hs:swapsWith (.Call (.Attribute (.Name x px) "append" apos) [e] [] cpos) none pos.line env=pure false:=by rfl) :
    Ex1 X k env ρ (.Expr (.Call (.Attribute (.Name x px) "append" apos) [e] [] cpos) pos) Q :=
  ex_method hx PySem.F.slot_list_append PySem.F.type_list_append (aB he aG hst) (fun A bad s l vs n us P R g hb q qu hP=>by
    refine qu.oneE fun v qv=>?_
    have hl:vs.size=ds.length:=by rw [← Array.length_toList,q.length]
    refine wpAny_list_append_plain ⟨n,g⟩ (fun h' hp hs'=>?_) (by rw [hl];exact hz)
    obtain ⟨n',g'⟩:=hp
    exact hP h' s.toks _ n' hs' g' (q.push qv)) hq hd hm hst rfl hi hs
theorem ex_extend {pl:Sem Bool} {x:Str} {px apos cpos pos:Pos} {e:Expr} {ds es:List PyData} (hx:ρ.lookup x=some (.own ds)) (he:Ev X k env ρ e (.list es)) (hz:ds.length+es.length≤sizeLine) (hq:Q .next (put ρ x (.own (ds++es)))) (hd:(x == ("__debug__":Str))=false:=by decide)
    (hm:eval (.Call (.Attribute (.Name x px) "extend" apos) [e] [] cpos) env=(do
      let ov ← eval (.Name x px) env
      standAt apos.atName
      let (f,first) ← holding [ov] (getMethod ov "extend" pl)
      callWith cpos f first (backTo cpos (starEach [e] env)) []):=by rfl)
    (hst:starEach [e] env=[(false,eval e env)]:=by rfl) (hi:interactive env=false:=by rfl) (hs:swapsWith (.Call (.Attribute (.Name x px) "extend" apos) [e] [] cpos) none pos.line env=pure false:=by rfl) :
    Ex1 X k env ρ (.Expr (.Call (.Attribute (.Name x px) "extend" apos) [e] [] cpos) pos) Q :=
  ex_method hx PySem.F.slot_list_extend PySem.F.type_list_extend (aB he aG hst) (fun A bad s l vs n us P R g hb q qu hP=>by
    refine qu.oneE fun v qv=>?_
    refine qv.listE fun b ws m hb' g' qw=>?_
    have hl:vs.size=ds.length:=by rw [← Array.length_toList,q.length]
    have hl':ws.size=es.length:=by rw [← Array.length_toList,qw.length]
    have hz':vs.size+ws.size≤sizeLine:=by rw [hl,hl'];exact hz
    refine call_meets PySem.F.slot_list_extend ⟨_,g,rfl⟩ PySem.F.entry_list_extend (PySem.F.args_list_extend_2 _ _) (PySem.AutoSeq1.list_extend_list_list_0 l vs n b ws m (extend_door hz') (by exact aO 0xf11200f210a0f rfl hz') (by exact aO 0xf11182a10a0f210a0f rfl hz')) ⟨g,g',?_⟩
    refine hP _ _ (vs++ws) (if (vs++ws).size == vs.size then n else n+1) (Heap.SameBut.update ..) ?_ (by simpa using q.append qw)
    exact Heap.get?_update_self _ g rfl) hq hd hm hst rfl hi hs
theorem RepL.set {bad:Addr→Prop} {h:Heap} {d:PyData} {v:Value} (r:Rep bad h d v) {ds:List PyData} {vs:List Value} (q:RepL bad h ds vs):∀ n,RepL bad h (ds.set n d) (vs.set n v) :=
  q.ind (P:=fun ds vs=>∀ n,RepL bad h (ds.set n d) (vs.set n v)) (fun _=>.nil) fun a b ih n=>by
    cases n with
    | zero=>exact .cons r b
    | succ n=>exact .cons a (ih n)
end
section
variable {X:Cx} {k:Nat} {env:Env} {ρ:List (Str×B)} {Q:Fl→List (Str×B)→Prop}
theorem Rel.keepZ {bad:Addr→Prop} {O:Str→Option Addr} {s:Shared} {h':Heap} {t:Nat} {Z:Addr→Prop} (r:Rel X bad O env ρ s) (hk:∀ b o,¬ Z b→s.heap.get? b=some o→h'.get? b=some o)
    (hp:∀ b,Z b→¬ Place env b) (hO:∀ b,Z b→∀ x,O x ≠ some b) (hb:∀ b,Z b→¬ bad b) (h0:∀ b,Z b→X.h₀.get? b=none) (hs:∀ b o vs n,Z b→s.heap.get? b=some o→o.data ≠ .seq vs n):Rel X bad O env ρ { s with heap:=h',toks:=t }:=by
  have kq:∀ bad,KeepSeq bad s.heap h':=fun bad b o vs n _ e ed=>hk b o (fun z=>hs b o vs n z e ed) e
  have hlk:∀ y u,Lk s.heap env y u→Lk h' env y u:=fun y u lk=>by
    rcases lk with ⟨a,m',b,e⟩ | ⟨a,d,b,e⟩ | ⟨a,n,d,b,e⟩
    · exact .inl ⟨a,m',b.at' fun o ho=>hk _ o (fun z=>hp _ z (.inl rfl)) ho,e⟩
    · obtain ⟨o,ho,hd⟩:=e;exact .inr (.inl ⟨a,d,b,o,hk _ o (fun z=>hp _ z (.inr ⟨y,b⟩)) ho,hd⟩)
    · obtain ⟨o,ho,hd⟩:=e;exact .inr (.inr ⟨a,n,d,b,o,hk _ o (fun z=>hp _ z (.inr ⟨y,b⟩)) ho,hd⟩)
  exact {
    wf:=r.wf
    base:=fun b o e=>hk b o (fun z=>by rw [h0 b z] at e;cases e) (r.base b o e)
    gens:=r.gens
    os:=r.os
    ok:=r.ok
    frm:=⟨let ⟨m,a⟩:=r.frm.ns;⟨m,a.at' fun o ho=>hk _ o (fun z=>hp _ z (.inl rfl)) ho⟩,fun n c e=>let ⟨v,o,ho,hd⟩:=r.frm.cell n c e;⟨v,o,hk _ o (fun z=>hp _ z (.inr ⟨n,e⟩)) ho,hd⟩,r.frm.ne,r.frm.inj,r.frm.new,r.frm.newc⟩
    holds:=fun y c e=>(r.holds y c e).move (hlk y) (fun _ e=>e) (fun l o h e=>hk l o (fun z=>hO _ z y h) e) (kq _).map
    inj:=r.inj
    low:=fun a e=>let ⟨o,ho⟩:=r.low a e;⟨o,hk a o (fun z=>hb a z e) ho⟩
    good:=r.good
    dat:=r.dat }
theorem Rep.step {bad:Addr→Prop} {O O':Str→Option Addr} {s s':Shared} {h₀:Heap} {d:PyData} {v:Value} (q:Rep (aS bad O) s.heap d v) (f:FrameOk h₀ env s.heap) (st:Step env O O' s s'):Rep (aS bad O') s'.heap d v:=by
  have q':Rep (fun a=>aS bad O a∨aS bad O' a) s.heap d v:=q.imp fun a o e h=>h.elim id fun h=>h.imp id fun ⟨x,hx⟩=>by
    rcases st.new x a hx with h | h
    · exact h
    · rw [e] at h;cases h
  refine (q'.keep (h':=s'.heap) fun b o vs n hb e ed=>st.keep b o (fun hp=>?_) (fun x hx=>hb (.inl (.inr ⟨x,hx⟩))) e).imp fun _ _ _ h=>.inr h
  rcases hp with rfl | ⟨n',hn⟩
  · obtain ⟨m,o',es,ep,ho,hd,_⟩:=f.ns
    rw [ho] at e;cases e;rw [hd] at ed;cases ed
  · obtain ⟨v,o',ho,hd⟩:=f.cell n' b hn
    rw [ho] at e;cases e;rw [hd] at ed;cases ed
noncomputable def Asg (X:Cx) (k:Nat) (env:Env) (ρ:List (Str×B)) (target:Expr) (d:PyData) (ρ':List (Str×B)):Prop :=
  ∀ (A:Around) (bad:Addr→Prop) (O:Str→Option Addr) (s:Shared) (v:Value),Room k A→Rel X bad O env ρ s→Rep (aS bad O) s.heap d v →
    wpAny (model X.prog X.w) A (assign target env v) (fun _ s'=>∃ O',Step env O O' s s'∧Rel X bad O' env ρ' s') noE s
theorem aK {x:Str} {p:Pos} {d:PyData} (hx:Own env x):Asg X k env ρ (.Name x p) d (put ρ x (.val d)):=fun A bad O s v R r q =>
  wpAny_assign_Name (store_val r hx q fun s' st r'=>⟨_,st,r'⟩)
noncomputable def AsgL (X:Cx) (k:Nat) (env:Env) (ρ:List (Str×B)) (ts:List Expr) (ds:List PyData) (ρ':List (Str×B)):Prop :=
  ∀ (A:Around) (bad:Addr→Prop) (O:Str→Option Addr) (s:Shared) (vs:List Value),Room k A→Rel X bad O env ρ s→RepL (aS bad O) s.heap ds vs →
    wpAny (model X.prog X.w) A (assignInOrder ((assignEach ts env).map (·.2)) vs) (fun _ s'=>∃ O',Step env O O' s s'∧Rel X bad O' env ρ' s') noE s
theorem asgl_nil:AsgL X k env ρ [] [] ρ:=fun A bad O s vs R r q=>by cases q;exact wpAny_pure ⟨O,Step.refl _ _ _,r⟩
theorem RepL.step {bad:Addr→Prop} {O O':Str→Option Addr} {s s':Shared} {h₀:Heap} (f:FrameOk h₀ env s.heap) (st:Step env O O' s s') {ds:List PyData} {vs:List Value} (q:RepL (aS bad O) s.heap ds vs):RepL (aS bad O') s'.heap ds vs:=q.ind .nil fun a _ ih=>.cons (a.step f st) ih
theorem aP {t:Expr} {ts:List Expr} {d:PyData} {ds:List PyData} {ρ₁ ρ':List (Str×B)} (h:Asg X k env ρ t d ρ₁) (hs:AsgL X k env ρ₁ ts ds ρ') (he:assignEach (t :: ts) env=(false,assign t env) :: assignEach ts env:=by rfl):AsgL X k env ρ (t :: ts) (d :: ds) ρ':=fun A bad O s vs R r q=>by
  cases q with
  | cons qv qs =>
    rw [he]
    rw [List.map_cons]
    unfold assignInOrder
    refine wpAny_bind (wpAny_holding (wpAny_mono (h A bad O s _ R r qv) (fun _ s1 p=>?_) fun _ _ x=>x))
    obtain ⟨O1,st,r1⟩:=p
    refine wpAny_mono (hs A bad O1 s1 _ R r1 (qs.step r.frm st)) (fun _ s2 p=>?_) fun _ _ x=>x
    obtain ⟨O2,st2,r2⟩:=p
    exact ⟨O2,st.trans st2,r2⟩
theorem asg_tuple {ts:List Expr} {n:Nat} {p:Pos} {ds:List PyData} {ρ':List (Str×B)} (h:AsgL X k env ρ ts ds ρ') (hn:(assignEach ts env).length=ds.length) (hstar:(assignEach ts env).findIdx? (·.1)=none):Asg X k env ρ (.Tuple ts n p) (.tuple ds) ρ':=fun A bad O s v R r q=>by
  obtain ⟨a,vs,rfl,l,qs⟩:=q.isTup
  have hl:vs.size=ds.length:=by rw [← Array.length_toList,qs.length]
  refine wpAny_assign_Tuple R.handled l (by rw [hl];exact hn) hstar fun h' he=>?_
  have x1:Ext s { s with heap:=h' }:=⟨fun b o e=>he b o (Nat.ne_of_lt (Heap.lt_size e)) e,rfl,rfl⟩
  refine wpAny_mono (h A bad O { s with heap:=h' } vs.toList R (r.ext x1) (qs.ext x1)) (fun _ s2 p=>?_) fun _ _ x=>x
  obtain ⟨O2,st2,r2⟩:=p
  exact ⟨O2,(Step.of_ext x1).trans st2,r2⟩
end
structure It (X:Cx) (A:Around) (bad:Addr→Prop) (O:Str→Option Addr) (s s2:Shared) (items:List PyData) (I:Addr) (fp wr:List Addr) (P:Nat→Value→Prop) (St:Nat→Heap→Prop):Prop where
  walks:Walks X.prog X.w A I fp wr items.length P St
  start:St 0 s2.heap
  new:∀ b∈wr,s.heap.get? b=none
  live:∀ i h,St i h→∀ b∈fp,∃ o,h.get? b=some o
  noseq:∀ i h,St i h→∀ b∈wr,∀ o vs n,h.get? b=some o→o.data ≠ .seq vs n
  item:∀ i v,P i v→∃ d,items[i]?=some d∧Rep (aS bad O) s2.heap d v
  lets:∀ i (s:Shared) (target:Expr) (v:Value) (Q:Unit→Shared→Prop) (E:Value→Shared→Prop),St i s.heap→Q () s→wpAny (model X.prog X.w) A (letOwnedTupleGo target (.ref I) v) Q E s
noncomputable def Apart (O:Str→Option Addr) (env:Env) (fp wr:List Addr):Prop:=∀ b∈fp,b∈wr∨(¬ Place env b∧∀ x,O x ≠ some b)
noncomputable def EvW (X:Cx) (k:Nat) (env:Env) (ρ:List (Str×B)) (e:Expr) (items:List PyData):Prop :=
  ∀ (A:Around) (bad:Addr→Prop) (O:Str→Option Addr) (s:Shared),Room k A→Rel X bad O env ρ s →
    wpAny (model X.prog X.w) A (eval e env) (fun v s1=>wpAny (model X.prog X.w) A (pyIter v) (fun it s2=>Ext s s2∧∃ I fp wr P St,it=.ref I∧It X A bad O s s2 items I fp wr P St) noE s1) noE s
noncomputable def EvI (X:Cx) (k:Nat) (env:Env) (ρ:List (Str×B)) (e:Expr) (items:List PyData):Prop :=
  ∀ (A:Around) (bad:Addr→Prop) (O:Str→Option Addr) (s:Shared),Room k A→Rel X bad O env ρ s →
    wpAny (model X.prog X.w) A (eval e env) (fun v s1=>wpAny (model X.prog X.w) A (pyIter v) (fun it s2=>Ext s s2∧∃ I fp wr P St,it=.ref I∧It X A bad O s s2 items I fp wr P St∧Apart O env fp wr) noE s1) noE s
theorem EvI.weak {X:Cx} {k:Nat} {env:Env} {ρ:List (Str×B)} {e:Expr} {items:List PyData} (h:EvI X k env ρ e items):EvW X k env ρ e items:=fun A bad O s R r =>
  wpAny_mono (h A bad O s R r) (fun v s1 h1=>wpAny_mono h1 (fun it s2 h2=>let ⟨x,I,fp,wr,P,St,e,t,_⟩:=h2;⟨x,I,fp,wr,P,St,e,t⟩) fun _ _ x=>x) fun _ _ x=>x
structure StZ (wr:List Addr) (env:Env) (O O':Str→Option Addr) (s s':Shared):Prop where
  keep:∀ b o,b ∉ wr→¬ Place env b→(∀ x,O x ≠ some b)→s.heap.get? b=some o→s'.heap.get? b=some o
  alive:∀ b o,s.heap.get? b=some o→∃ o',s'.heap.get? b=some o'
  new:∀ x l,O' x=some l→(∃ y,O y=some l)∨s.heap.get? l=none
theorem StZ.then {wr:List Addr} {env:Env} {O O' O'':Str→Option Addr} {s s' s'':Shared} (a:StZ wr env O O' s s') (b:Step env O' O'' s' s''):StZ wr env O O'' s s'' where
  keep:=fun c o hw hp ho e=>b.keep c o hp (fun x hx=>by
    rcases a.new x c hx with ⟨y,hy⟩ | h
    · exact ho y hy
    · rw [e] at h;cases h) (a.keep c o hw hp ho e)
  alive:=fun c o e=>let ⟨o',e'⟩:=a.alive c o e;b.alive c o' e'
  new:=fun x l e=>by
    rcases b.new x l e with ⟨y,hy⟩ | h
    · exact a.new y l hy
    · refine .inr ?_
      cases q:s.heap.get? l with
      | none=>rfl
      | some o=>obtain ⟨o',e'⟩:=a.alive l o q;rw [e'] at h;cases h
theorem StZ.step {wr:List Addr} {env:Env} {O O':Str→Option Addr} {s s2 s':Shared} (x:Ext s s2) (hw:∀ b∈wr,s.heap.get? b=none) (a:StZ wr env O O' s2 s'):Step env O O' s s' where
  keep:=fun b o hp ho e=>a.keep b o (fun h=>by rw [hw b h] at e;cases e) hp ho (x.keep _ _ e)
  alive:=fun b o e=>a.alive b o (x.keep _ _ e)
  new:=fun y l e=>(a.new y l e).imp id x.none
section
variable {X:Cx} {k:Nat} {env:Env} {ρ:List (Str×B)} {Q:Fl→List (Str×B)→Prop}
theorem Rep.stz {wr:List Addr} {bad:Addr→Prop} {O O':Str→Option Addr} {s s':Shared} {h₀:Heap} {d:PyData} {v:Value} (q:Rep (aS bad O) s.heap d v) (f:FrameOk h₀ env s.heap) (hns:∀ b∈wr,∀ o vs n,s.heap.get? b=some o→o.data ≠ .seq vs n) (st:StZ wr env O O' s s'):Rep (aS bad O') s'.heap d v:=by
  have q':Rep (fun a=>aS bad O a∨aS bad O' a) s.heap d v:=q.imp fun a o e h=>h.elim id fun h=>h.imp id fun ⟨x,hx⟩=>by
    rcases st.new x a hx with h | h
    · exact h
    · rw [e] at h;cases h
  refine (q'.keep (h':=s'.heap) fun b o vs n hb e ed=>st.keep b o (fun hw=>hns b hw o vs n e ed) (fun hp=>?_) (fun x hx=>hb (.inl (.inr ⟨x,hx⟩))) e).imp fun _ _ _ h=>.inr h
  rcases hp with rfl | ⟨n',hn⟩
  · obtain ⟨m,o',es,ep,ho,hd,_⟩:=f.ns
    rw [ho] at e;cases e;rw [hd] at ed;cases ed
  · obtain ⟨v,o',ho,hd⟩:=f.cell n' b hn
    rw [ho] at e;cases e;rw [hd] at ed;cases ed
structure Dr (X:Cx) (A:Around) (bad:Addr→Prop) (O:Str→Option Addr) (env:Env) (s s2:Shared) (target:Expr) (items:List PyData) (I:Addr) (fp wr:List Addr) (St:Nat→Heap→Prop):Prop where
  sub:∀ b∈wr,b∈fp
  frame:∀ i h h',St i h→(∀ b∈fp,∀ o,h.get? b=some o→h'.get? b=some o)→St i h'
  start:St 0 s2.heap
  new:∀ b∈wr,s.heap.get? b=none
  live:∀ i h,St i h→∀ b∈fp,∃ o,h.get? b=some o
  noseq:∀ i h,St i h→∀ b∈wr,∀ o vs n,h.get? b=some o→o.data ≠ .seq vs n
  apart:Apart O env fp wr
  item:∀ i d (s':Shared) (N:Shared→Prop) (K:Value→Shared→Prop) (E E':Value→Shared→Prop),items[i]?=some d→St i s'.heap →
    (∀ v h' tk,St (i+1) h'→(∀ b o,b ∉ wr→s'.heap.get? b=some o→h'.get? b=some o) →
      (∀ bd:Addr→Prop,(∀ a,s'.heap.get? a=none→¬ bd a)→(∀ d v,Rep (aS bad O) s2.heap d v→Rep bd h' d v)→Rep bd h' d v)→K v { s' with heap:=h',toks:=tk }) →
    wpAny (model X.prog X.w) A (pyNext (.ref I)) (fun r s1=>match r with
      | none=>N s1
      | some v=>wpAny (model X.prog X.w) A (letOwnedTupleGo target (.ref I) v) (fun _ s2=>K v s2) E s1) E' s'
  done:∀ (s':Shared) (Q:Option Value→Shared→Prop) (E:Value→Shared→Prop),St items.length s'.heap →
    (∀ h' tk,(∀ b o,b ∉ wr→s'.heap.get? b=some o→h'.get? b=some o)→Q none { s' with heap:=h',toks:=tk })→wpAny (model X.prog X.w) A (pyNext (.ref I)) Q E s'
theorem It.dr {A:Around} {bad:Addr→Prop} {O:Str→Option Addr} {s s2:Shared} {items:List PyData} {I:Addr} {fp wr:List Addr} {P:Nat→Value→Prop} {St:Nat→Heap→Prop} {target:Expr} (T:It X A bad O s s2 items I fp wr P St) (ap:Apart O env fp wr):Dr X A bad O env s s2 target items I fp wr St where
  sub:=T.walks.sub
  frame:=T.walks.frame
  start:=T.start
  new:=T.new
  live:=T.live
  noseq:=T.noseq
  apart:=ap
  item:=fun i d s' N K E E' hd hSt hK=>T.walks.item i s' _ _ (List.getElem?_eq_some_iff.mp hd).1 hSt fun v h' tk hP hSt' hk=>T.lets (i+1) _ _ _ _ _ hSt' (hK v h' tk hSt' hk fun bd _ tr=>by
    obtain ⟨d',hd',q⟩:=T.item i v hP
    cases hd.symm.trans hd'
    exact tr _ _ q)
  done:=T.walks.done
theorem new_place {h₀ h:Heap} {b:Addr} (f:FrameOk h₀ env h) (e:h.get? b=none):¬ Place env b:=fun p=>by
  obtain ⟨o,ho⟩:=place_alive f p
  cases e.symm.trans ho
theorem keep_new {h h':Heap} {b:Addr} (k:∀ b o,h.get? b=some o→∃ o',h'.get? b=some o') (e:h'.get? b=none):h.get? b=none:=by
  cases q:h.get? b with
  | none=>rfl
  | some o=>obtain ⟨o',e'⟩:=k b o q;cases e.symm.trans e'
theorem StZ.refl {wr:List Addr} {O:Str→Option Addr} {s:Shared}:StZ wr env O O s s:=⟨fun _ _ _ _ _ e=>e,fun b o e=>⟨o,e⟩,fun x l e=>.inl ⟨x,e⟩⟩
section
variable {A:Around} {bad:Addr→Prop} {O O':Str→Option Addr} {s s2 s':Shared} {target:Expr} {items:List PyData} {I:Addr} {fp wr:List Addr} {St:Nat→Heap→Prop}
theorem Dr.out (T:Dr X A bad O env s s2 target items I fp wr St) (r:Rel X bad O env ρ s) (st:StZ wr env O O' s2 s'):Apart O' env fp []:=fun b hb=>.inr (by
  have key:¬ Place env b∧∀ x,O x ≠ some b:=(T.apart b hb).elim (fun h=>⟨new_place r.frm (T.new b h),fun x hx=>new_good r (T.new b h) (.inr ⟨x,hx⟩)⟩) id
  refine ⟨key.1,fun x hx=>?_⟩
  obtain ⟨o,ho⟩:=T.live 0 _ T.start b hb
  rcases st.new x b hx with ⟨y,hy⟩ | h
  · exact key.2 y hy
  · cases h.symm.trans ho)
theorem Apart.keep (a:Apart O env fp []) (st:Step env O O' s s') {b:Addr} (hb:b∈fp) {o:Obj} (e:s.heap.get? b=some o):s'.heap.get? b=some o :=
  (a b hb).elim (fun h=>nomatch h) fun h=>st.keep b o h.1 h.2 e
theorem Dr.drawn (T:Dr X A bad O env s s2 target items I fp wr St) (r:Rel X bad O env ρ s) (st:StZ wr env O O' s2 s') {ρ':List (Str×B)} (r':Rel X bad O' env ρ' s') {i:Nat} (hSt:St i s'.heap) {h':Heap} {tk:Nat} (hk:∀ b o,b ∉ wr→s'.heap.get? b=some o→h'.get? b=some o):Rel X bad O' env ρ' { s' with heap:=h',toks:=tk } :=
  r'.keepZ (Z:=fun b=>b∈wr) hk (fun b hb=>new_place r.frm (T.new b hb)) (fun b hb=>(T.out r st b (T.sub b hb)).elim (fun h=>nomatch h) And.right) (fun b hb h=>new_good r (T.new b hb) (.inl h)) (fun b hb=>keep_new (fun b o e=>⟨o,r.base b o e⟩) (T.new b hb)) (fun b o vs n hb e=>T.noseq i _ hSt b hb o vs n e)
theorem Dr.turned (T:Dr X A bad O env s s2 target items I fp wr St) (st:StZ wr env O O' s2 s') {i:Nat} {h':Heap} {tk:Nat} (hSt:St i h') (hk:∀ b o,b ∉ wr→s'.heap.get? b=some o→h'.get? b=some o):StZ wr env O O' s2 { s' with heap:=h',toks:=tk } :=
  ⟨fun b o hw hp ho e=>hk b o hw (st.keep b o hw hp ho e),fun b o e=>by
    obtain ⟨o',e'⟩:=st.alive b o e
    by_cases hw:b∈wr
    · exact T.live i _ hSt b (T.sub b hw)
    · exact ⟨o',hk b o' hw e'⟩,st.new⟩
end
theorem turn_lt {n i:Nat} (h:i < n):n+1 - (i+1) < n+1 - i:=Nat.sub_lt_sub_left (Nat.lt_succ_of_lt h) (Nat.lt_succ_self i)
theorem for_draw {target:Expr} {body:List Stmt} {items:List PyData} {A:Around} {bad:Addr→Prop} {O:Str→Option Addr} {s s2:Shared} {I:Addr} {fp wr:List Addr} {St:Nat→Heap→Prop} (R:Room k A) (r:Rel X bad O env ρ s)
    (x2:Ext s s2) (T:Dr X A bad O env s s2 target items I fp wr St) (J:Nat→List (Str×B)→Prop) (h0:J 0 ρ)
    (turn:∀ i d ρ',items[i]?=some d→J i ρ'→∀ Q',Loop (J (i+1)) Q Q'→∃ ρ₁,Asg X k env ρ' target d ρ₁∧Exs X k env ρ₁ body Q')
    (hend:∀ ρ',J items.length ρ'→Q .next ρ'):codeAny (model X.prog X.w) A (.forLoop target (.ref I) body [] env) (fun r s'=>match r with | .ok f=>Post X env bad O s Q f s' | .error e=>cameBackBy (model X.prog X.w) A env noE e s') s2:=by
  refine codeAny_forLoop_any (fun n s'=>∃ i ρ' O',n=items.length+1 - i∧i≤items.length∧J i ρ'∧StZ wr env O O' s2 s'∧St i s'.heap∧Rel X bad O' env ρ' s') ?_ (items.length+1)
    ⟨0,ρ,O,rfl,Nat.zero_le _,h0,.refl,T.start,r.ext x2⟩
  rintro n s' ⟨i,ρ',O',rfl,hi,hJ,st,hSt,r'⟩
  rcases Nat.lt_or_eq_of_le hi with hlt | rfl
  · obtain ⟨d,hd⟩:∃ d,items[i]?=some d:=⟨_,List.getElem?_eq_getElem hlt⟩
    refine T.item i d s' _ _ _ _ hd hSt fun v h' tk hSt' hk hv=>?_
    have st1:=T.turned (tk:=tk) st hSt' hk
    have qv:=hv _ (fun a e=>new_good r' e) fun d v q=>q.stz (r.ext x2).frm (T.noseq 0 _ T.start) st1
    obtain ⟨ρ₁,ha,hb⟩:=turn i d ρ' hd hJ _ loopQ
    refine wpAny_mono (ha A bad O' _ v R (T.drawn r st r' hSt hk) qv) (fun _ s3 p=>?_) fun _ _ x=>x.elim
    obtain ⟨O3,st3,r3⟩:=p
    have hSt3:St (i+1) s3.heap:=T.frame _ _ _ hSt' fun b hb o=>(T.out r st1).keep st3 hb
    replace st1:=st1.then st3
    clear hv qv ha st3 hSt' hk r' st hJ hd hSt
    refine wpAny_mono (hb A bad O3 s3 R r3) (fun fl s4 p=>?_) fun _ _ x=>x.elim
    obtain ⟨f,ρ₂,O4,q,fi,st4,r4⟩:=p
    have st14:=st1.then st4
    have hSt4:St (i+1) s4.heap:=T.frame _ _ _ hSt3 fun b hb o=>(T.out r st1).keep st4 hb
    clear st1 hSt3 hb
    have hs:=st14.step x2 T.new
    cases f with
    | next=>cases fi;exact ⟨_,turn_lt hlt,i+1,ρ₂,O4,rfl,hlt,q,st14,hSt4,r4⟩
    | cont=>cases fi;exact ⟨_,turn_lt hlt,i+1,ρ₂,O4,rfl,hlt,q,st14,hSt4,r4⟩
    | brk=>cases fi;exact ⟨.next,ρ₂,O4,q,rfl,hs,r4⟩
    | ret d=>obtain ⟨v,rfl,rv⟩:=fi;exact ⟨.ret d,ρ₂,O4,q,⟨v,rfl,rv⟩,hs,r4⟩
  · refine T.done s' _ _ hSt fun h' tk hk=>wpAny_execs_nil ⟨.next,ρ',O',hend ρ' hJ,rfl,?_,T.drawn r st r' hSt hk⟩
    have s0:=st.step x2 T.new
    have out:∀ b o,s.heap.get? b=some o→b ∉ wr:=fun b o e hw=>by rw [T.new b hw] at e;cases e
    exact ⟨fun b o hp ho e=>hk b o (out b o e) (s0.keep b o hp ho e),fun b o e=>let ⟨o',e'⟩:=s0.alive b o e;⟨o',hk b o' (out b o e) e'⟩,s0.new⟩
theorem for_core {target:Expr} {body:List Stmt} {items:List PyData} {A:Around} {bad:Addr→Prop} {O:Str→Option Addr} {s s2:Shared} {it:Value} (R:Room k A) (r:Rel X bad O env ρ s)
    (h2:Ext s s2∧∃ I fp wr P St,it=.ref I∧It X A bad O s s2 items I fp wr P St∧Apart O env fp wr) (J:Nat→List (Str×B)→Prop) (h0:J 0 ρ)
    (turn:∀ i d ρ',items[i]?=some d→J i ρ'→∀ Q',Loop (J (i+1)) Q Q'→∃ ρ₁,Asg X k env ρ' target d ρ₁∧Exs X k env ρ₁ body Q')
    (hend:∀ ρ',J items.length ρ'→Q .next ρ'):codeAny (model X.prog X.w) A (.forLoop target it body [] env) (fun r s'=>match r with | .ok f=>Post X env bad O s Q f s' | .error e=>cameBackBy (model X.prog X.w) A env noE e s') s2:=by
  obtain ⟨x2,I,fp,wr,P,St,rfl,T,Tap⟩:=h2
  exact for_draw R r x2 (T.dr Tap) J h0 turn hend
theorem ex_for {target iter:Expr} {body:List Stmt} {pos:Pos} {items:List PyData} (hit:EvI X k env ρ iter items) (J:Nat→List (Str×B)→Prop) (h0:J 0 ρ)
    (turn:∀ i d ρ',items[i]?=some d→J i ρ'→∀ Q',Loop (J (i+1)) Q Q'→∃ ρ₁,Asg X k env ρ' target d ρ₁∧Exs X k env ρ₁ body Q')
    (hend:∀ ρ',J items.length ρ'→Q .next ρ') (hs:∀ x,foldedSetIterable iter env x=pure x:=by intro _;rfl):Ex1 X k env ρ (.For target iter body [] pos) Q:=fun A bad O s R r=>by
  exact wpAny_For (wpAny_mono (hit A bad O s R r) (fun v s1 h1=>wpAny_mono h1 (fun it s2 h2=>for_core R r h2 J h0 turn hend) fun _ _ x=>x) fun _ _ x=>x) hs
end
theorem lets_plain {M:Model} {A:Around} {s:Shared} {I:Addr} {o:Obj} {T:String} {target:Expr} {v:Value} {Q:Unit→Shared→Prop} {E:Value→Shared→Prop} (ho:s.heap.get? I=some o) (hc:o.cls=.type T)
    (hT:["enumerate","zip","dict_itemiterator","dict_reverseitemiterator","odict_iterator","itertools.zip_longest","itertools.pairwise"].contains T=false) (h:Q () s):wpAny M A (letOwnedTupleGo target (.ref I) v) Q E s:=by
  unfold letOwnedTupleGo
  split
  all_goals first
    | exact wpAny_pure h
    | skip
  all_goals
    cases v <;> first
      | exact wpAny_pure h
      | (refine wpAny_bind (wpAny_load ho ?_)
         rw [hc]
         cases o.data <;> first
           | exact wpAny_pure h
           | (dsimp only;rw [hT];exact wpAny_pure h))
section
variable {X:Cx} {k:Nat} {env:Env} {ρ:List (Str×B)} {Q:Fl→List (Str×B)→Prop}
theorem it_list {A:Around} {bad:Addr→Prop} {O:Str→Option Addr} {s s1:Shared} {a:Addr} {vs:Array Value} {n:Nat} {items:List PyData} {P:Value→Shared→Prop} (R:Room k A) (x1:Ext s s1) (g:s1.heap.get? a=some { cls:=.type "list",data:=.seq vs n }) (qs:RepL (aS bad O) s1.heap items vs.toList)
    (hP:∀ s2 I,Ext s s2→(∃ P St,It X A bad O s s2 items I [I,a] [I] P St)→P (.ref I) s2):wpAny (model X.prog X.w) A (pyIter (.ref a)) P noE s1:=by
  have il:s1.heap.IsList a vs:=⟨_,g,rfl,_,rfl⟩
  have hl:vs.size=items.length:=by rw [← Array.length_toList,qs.length]
  have hne:a ≠ s1.heap.objs.size:=Nat.ne_of_lt (Heap.lt_size g)
  refine wpAny_pyIter_list il (hP _ _ (x1.trans (Ext.push _ _)) ⟨fun i v=>vs[i]?=some v,fun i h=>h.IsListIter s1.heap.objs.size a i∧h.IsList a vs,?_⟩)
  exact {
    walks:=hl ▸ Walks.list R.handled _ _ hne vs
    start:=⟨⟨_,Heap.get?_push_size _ rfl,rfl,rfl⟩,⟨_,Heap.get?_push_of_some _ g,rfl,_,rfl⟩⟩
    new:=fun b hb=>by simp at hb;subst hb;exact x1.none (get_size _)
    live:=fun i h st b hb=>by
      simp at hb
      rcases hb with rfl | rfl
      · obtain ⟨o,ho,_⟩:=st.1;exact ⟨o,ho⟩
      · obtain ⟨o,ho,_⟩:=st.2;exact ⟨o,ho⟩
    noseq:=fun i h st b hb o vs n e ed=>by
      simp at hb;subst hb
      obtain ⟨o',ho,hc,hd⟩:=st.1
      rw [ho] at e;cases e;rw [hd] at ed;cases ed
    item:=fun i v hv=>by
      obtain ⟨d,hd,q⟩:=qs.getV (by rw [Array.getElem?_toList];exact hv)
      exact ⟨d,hd,q.keep fun b o _ _ _ e _=>Heap.get?_push_of_some _ e⟩
    lets:=fun i s target v Q E st hq=>by
      obtain ⟨o',ho,hc,hd⟩:=st.1
      exact lets_plain ho hc (by decide) hq }
theorem noplace_seq {h₀ h:Heap} {a:Addr} {o:Obj} {vs:Array Value} {n:Nat} (f:FrameOk h₀ env h) (g:h.get? a=some o) (ed:o.data=.seq vs n):¬ Place env a:=fun hp=>by
  rcases hp with rfl | ⟨n',hn⟩
  · obtain ⟨m,o',es,ep,ho,hd,_⟩:=f.ns
    rw [g] at ho;cases ho;rw [hd] at ed;cases ed
  · obtain ⟨v,o',ho,hd⟩:=f.cell n' _ hn
    rw [g] at ho;cases ho;rw [hd] at ed;cases ed
theorem evi_list {e:Expr} {items:List PyData} (h:Ev X k env ρ e (.list items)):EvI X k env ρ e items:=fun A bad O s R r=>h.use R r fun v s1 x1 r1 q1=>by
  refine q1.listE fun a vs n hb g qs=>?_
  refine it_list R x1 g qs fun s2 I x2 t=>?_
  obtain ⟨P,St,t⟩:=t
  refine ⟨x2,I,_,_,P,St,rfl,t,fun b hb'=>?_⟩
  simp at hb'
  rcases hb' with rfl | rfl
  · exact .inl (by simp)
  · exact .inr ⟨noplace_seq r1.frm g rfl,fun x hx=>hb (.inr ⟨x,hx⟩)⟩
theorem Rel.freeze {bad:Addr→Prop} {O:Str→Option Addr} {s:Shared} {x:Str} {ds:List PyData} (r:Rel X bad O env ρ s) (hx:ρ.lookup x=some (.own ds)):Rel X bad (del O x) env (put ρ x (.val (.list ds))) s:=by
  obtain ⟨l,vs,n,ho,lk,g,q⟩:=r.own x ds hx
  have hb:¬ aS bad (del O x) l:=fun h=>by
    rcases h with h | ⟨y,e⟩
    · exact (r.good x l ho).1 h
    · exact (del_some e).1 (r.inj y x l (del_some e).2 ho)
  have km:∀ a o vs n,¬ aS bad O a→s.heap.get? a=some o→o.data=.seq vs n→¬ aS bad (del O x) a∧s.heap.get? a=some o:=fun a o vs n h e ed=>⟨fun h'=>h (badO_del h'),e⟩
  exact r.drops r.base rfl rfl r.frm (fun b o e=>⟨o,e⟩) (.val lk (.list hb g (q.map km))) fun y c hy h=>h.move (fun _ l=>l) (fun l=>del_ne hy) (fun _ _ _ e=>e) km
theorem exs_freeze {x:Str} {ds:List PyData} {ss:List Stmt} (hx:ρ.lookup x=some (.own ds)) (h:Exs X k env (put ρ x (.val (.list ds))) ss Q):Exs X k env ρ ss Q:=fun A bad O s R r =>
  h.from R (O':=del O x) ⟨fun _ _ _ _ e=>e,fun b o e=>⟨o,e⟩,fun y l e=>.inl ⟨y,by unfold del at e;split at e;cases e;exact e⟩⟩ (r.freeze hx)
end
noncomputable def aY (a c:Int) (n:Nat):List PyData:=(List.range n).map fun (i:Nat)=>PyData.int (a+(i:Int) * c)
theorem bI (a c:Int) (n:Nat):(aY a c n).length=n:=by simp [aY]
theorem intsBy_get {a c:Int} {n i:Nat} (h:i < n):(aY a c n)[i]?=some (.int (a+(i:Int) * c)):=by simp [aY,h]
section
variable {X:Cx} {k:Nat} {env:Env} {ρ:List (Str×B)} {Q:Fl→List (Str×B)→Prop}
theorem it_range {A:Around} {bad:Addr→Prop} {O:Str→Option Addr} {s s1:Shared} {r:Addr} {a b c:Int} {t u v:Tok} (R:Room k A) (x1:Ext s s1) (hr:IsRange s1.heap r a b c t u v) (hs:Builtin.Range.small a b c=true) (m:Nat) (h0:Builtin.Range.rangeSize a b c=m) :
    wpAny (model X.prog X.w) A (pyIter (.ref r)) (fun it s2=>Ext s s2∧∃ I fp wr P St,it=.ref I∧It X A bad O s s2 (aY a c m) I fp wr P St∧Apart O env fp wr) noE s1:=by
  refine wpAny_pyIter_range hr hs ⟨x1.trans (Ext.push _ _),s1.heap.objs.size,[s1.heap.objs.size],[s1.heap.objs.size],fun i v=>i < m∧∃ t,v=.int (a+i * c) t,fun i h=>IsRangeIter h s1.heap.objs.size (a+(i:Nat) * c) ((m:Int) - (i:Nat)) c,rfl,?_,fun b hb=>.inl hb⟩
  exact {
    walks:=by
      have W:=Walks.range (prog:=X.prog) (w:=X.w) (A:=A) R.handled s1.heap.objs.size a c m
      rw [bI]
      exact { sub:=W.sub,frame:=W.frame,done:=W.done,self:=W.self,item:=fun i s Q E hi st hQ=>W.item i s Q E hi st fun v h' tk hP=>hQ v h' tk ⟨hi,hP⟩ }
    start:=by
      show Heap.get? _ _=_
      rw [Heap.get?_push_size _ rfl]
      simp [h0]
    new:=fun b hb=>by simp at hb;subst hb;exact x1.none (get_size _)
    live:=fun i h st b hb=>by simp at hb;subst hb;exact ⟨_,st⟩
    noseq:=fun i h st b hb o vs n e ed=>by
      simp at hb;subst hb
      have:=st.symm.trans e;cases this;cases ed
    item:=fun i v hv=>by
      obtain ⟨hi,t,rfl⟩:=hv
      exact ⟨_,intsBy_get hi,.int _ _⟩
    lets:=fun i s target v Q E st hq=>lets_plain st rfl (by decide) hq }
theorem rangeSize_up {a b:Int}:Builtin.Range.rangeSize a b 1=((b - a).toNat:Int):=by
  unfold Builtin.Range.rangeSize
  simp only [show ((1:Int) > 0)=True by simp,if_true,Int.ediv_one]
  split <;> lia
theorem small_up {a b:Int} (ha:-(2 ^ 40)≤a∧a≤2 ^ 40) (hb:-(2 ^ 40)≤b∧b≤2 ^ 40):Builtin.Range.small a b 1=true:=by
  unfold Builtin.Range.small
  rw [rangeSize_up]
  simp only [Builtin.Range.rangeFitsLong,Bool.and_eq_true,decide_eq_true_eq,Bool.or_eq_true,beq_iff_eq]
  simp only [show ((1:Int) > 0)=True by simp,if_true,Bool.and_eq_true,decide_eq_true_eq]
  exact lqx [] [_,_] 0xf1f1f100010f10010f108f100118ff1f1f1f10001f1001f101f11f8000000000000000e91818d1a41818d1a8000000000000000e9e37080c588000000000000000e90c40c8000000000000000e9e378000000000000000e9184188000000000000000e9e378000000000000000e91418000000000000000e9e378000000000000000e90408000000000000000e9e377777f10000000000991311000000000099e310000000000990301000000000099e3f0801d5 rfl ha.1 ha.2 hb.1 hb.2
theorem type_use {A:Around} {bad:Addr→Prop} {O:Str→Option Addr} {s:Shared} {x:Str} {T:String} {p pos:Pos} {e:Expr} {es:List Expr} {ds:List PyData} {P:Value→Shared→Prop} (R:Room k A) (r:Rel X bad O env ρ s)
    (hx:X.gl x=some (.type T)) (hk:env.kindOf x=some .globalImplicit) (ha:EvL X k env ρ pos (e :: es) ds)
    (hq:∀ vs s',Ext s s'→Rel X bad O env ρ s'→RepL (aS bad O) s'.heap ds vs→wpAny (model X.prog X.w) A (call (.type T) vs) P noE s')
    (hd:(x == ("__debug__":Str))=false:=by decide) (he:starEach (e :: es) env=(false,eval e env) :: starEach es env:=by rfl) (hplain:(backTo pos (starEach (e :: es) env)).any (·.1)=false:=by rfl) :
    wpAny (model X.prog X.w) A (eval (.Call (.Name x p) (e :: es) [] pos) env) P noE s:=by
  refine wpAny_Call_Name_kw (glob_use r hx hk ?_ hd)
  exact PySem.callWith_type hplain (ha.args he R r fun vs s1 x1 r1 q1=>hq vs s1 x1 r1 q1)
theorem evi_range1 {p pos:Pos} {e:Expr} {n:Int} (hx:X.gl ("range":Str)=some (.type "range")) (hk:env.kindOf ("range":Str)=some .globalImplicit) (h:Ev X k env ρ e (.int n)) (hn:-(2 ^ 40)≤n∧n≤2 ^ 40)
    (he:starEach [e] env=[(false,eval e env)]:=by rfl):EvI X k env ρ (.Call (.Name "range" p) [e] [] pos) (aY 0 1 n.toNat):=fun A bad O s R r =>
  type_use R r hx hk (aB h aG he) (fun vs s1 x1 r1 q1=>by
    refine q1.oneE fun v qa=>qa.intE fun t=>?_
    refine call_range_1 ?_
    refine it_range (a:=0) (b:=n) (c:=1) R ?_ (Heap.get?_push_size _ rfl) (small_up (by exact lqx [] [] 0xf1f1f1000000000099083081000000000099e37ff rfl) hn) _ (by rw [rangeSize_up,Int.sub_zero])
    exact x1.trans ⟨fun b o e=>Heap.get?_push_of_some _ e,rfl,rfl⟩) (by decide) he (by rw [he];rfl)
theorem evi_range2 {p pos:Pos} {e e':Expr} {a b:Int} (hx:X.gl ("range":Str)=some (.type "range")) (hk:env.kindOf ("range":Str)=some .globalImplicit) (h:Ev X k env ρ e (.int a)) (h':Ev X k env ρ e' (.int b)) (ha:-(2 ^ 40)≤a∧a≤2 ^ 40) (hb:-(2 ^ 40)≤b∧b≤2 ^ 40)
    (he:starEach [e,e'] env=[(false,eval e env),(false,eval e' env)]:=by rfl) (he':starEach [e'] env=[(false,eval e' env)]:=by rfl):EvI X k env ρ (.Call (.Name "range" p) [e,e'] [] pos) (aY a 1 (b - a).toNat):=fun A bad O s R r =>
  type_use R r hx hk (aB h (aB h' aG he') (by rw [he,he'])) (fun vs s1 x1 r1 q1=>by
    refine q1.twoE fun v w qa qb=>qa.intE fun t=>qb.intE fun u=>?_
    refine call_range_2 ?_
    refine it_range (a:=a) (b:=b) (c:=1) R ?_ (Heap.get?_push_size _ rfl) (small_up ha hb) _ rangeSize_up
    exact x1.trans ⟨fun b o e=>Heap.get?_push_of_some _ e,rfl,rfl⟩) (by decide) (by rw [he,he']) (by rw [he];rfl)
end
theorem compTurn_last {elt t i:Expr} {ifs:List Expr} {gens:List Comprehension} {sc:Scope} {p:Pos} {d:Nat} {it acc:Value} {env:Env} (hg:gens[d]?=some ⟨t,i,ifs,0⟩) (hn:gens[d+1]?=none) :
    compTurn (.ListComp elt gens sc p) d it acc env=(do
      standAt i.pos
      match ← pyNext it with
      | none=>pure (.done .next)
      | some v =>
        letOwnedTupleGo t it v
        assign t env v
        let mut ok:=true
        for c in ifs do
          if ok then ok ← isTrue c env (eval c env)
        if ok then
          (do let _ ← call (.builtin "list.append") [acc,← eval elt env])
        again (.compLoop (.ListComp elt gens sc p) d it acc env)):=by
  unfold compTurn
  dsimp only
  rw [hg,hn]
  rfl
theorem compTurn_mid {elt t i t' i':Expr} {ifs ifs':List Expr} {gens:List Comprehension} {sc:Scope} {p:Pos} {d:Nat} {it acc:Value} {env:Env} (hg:gens[d]?=some ⟨t,i,ifs,0⟩) (hn:gens[d+1]?=some ⟨t',i',ifs',0⟩) :
    compTurn (.ListComp elt gens sc p) d it acc env=(do
      standAt i.pos
      match ← pyNext it with
      | none=>pure (.done .next)
      | some v =>
        letOwnedTupleGo t it v
        assign t env v
        let mut ok:=true
        for c in ifs do
          if ok then ok ← isTrue c env (eval c env)
        if ok then
          let x ← eval i' env
          standAt i'.pos
          let x ← foldedSetIterable i' env x
          let it' ← holding [x] (pyIter x)
          let _ ← runOwn (.compStart (.ListComp elt gens sc p) (d+1) it' acc env) env
        again (.compLoop (.ListComp elt gens sc p) d it acc env)):=by
  unfold compTurn
  dsimp only
  rw [hg,hn]
  rfl
theorem compStart_gen {prog:Program} {w:World} {A:Around} {R:Result→Shared→Prop} {s:Shared} {elt t i:Expr} {ifs:List Expr} {gens:List Comprehension} {sc:Scope} {p:Pos} {d:Nat} {it acc:Value} {env:Env} (hg:gens[d]?=some ⟨t,i,ifs,0⟩)
    (h0:codeAny (model prog w) A (.compLoop (.ListComp elt gens sc p) d it acc env) R s)
    (h:wpAny (model prog w) A (pyIter it) (fun it' s'=>codeAny (model prog w) A (.compLoop (.ListComp elt gens sc p) d it' acc env) R s') noE s) :
    codeAny (model prog w) A (.compStart (.ListComp elt gens sc p) d it acc env) R s:=by
  refine codeAny_of_tree ?_
  show wpAny _ _ ((compStart (.ListComp elt gens sc p) d it acc env).onRaise (fun x=>do noteFrame x env;standAt theWindowsPlace)) _ _ s
  refine wpAny_notedAt ?_
  unfold compStart
  have e1:(clausesOf (.ListComp elt gens sc p))[d]?=some ⟨t,i,ifs,0⟩:=hg
  rw [e1]
  show wpAny _ _ (ask >>= _) _ _ s
  refine wpAny_bind (wpAny_askSetting (wpAny_ite ?_))
  split
  · first
      | exact wpAny_bind (wpAny_pure (wpAny_pure (And.intro rfl h0)))
      | exact wpAny_pure (And.intro rfl h0)
  · first
      | exact wpAny_bind (wpAny_rule (wpAny_bind (wpAny_standAt (wpAny_bind (wpAny_mono h (fun it' s' h'=>wpAny_pure (And.intro rfl h')) fun _ _ x=>x.elim)))))
      | exact wpAny_rule (wpAny_bind (wpAny_standAt (wpAny_bind (wpAny_mono h (fun it' s' h'=>wpAny_pure (And.intro rfl h')) fun _ _ x=>x.elim))))
noncomputable abbrev nO:Str→Option Addr:=fun _=>none
theorem badO_nO {bad:Addr→Prop} {a:Addr} (h:aS bad nO a):bad a:=h.elim id fun ⟨_,e⟩=>by cases e
structure CAt (X:Cx) (bad:Addr→Prop) (env:Env) (ρ:List (Str×B)) (D:Addr) (outs:List PyData) (s:Shared):Prop where
  rel:Rel X bad nO env ρ s
  acc:∃ vs n,s.heap.get? D=some { cls:=.type "list",data:=.seq vs n }∧RepL bad s.heap outs vs.toList
  new:X.h₀.get? D=none
noncomputable def CKeep (env:Env) (D:Addr) (s s':Shared):Prop:=∀ b o,b ≠ env.locals→b ≠ D→s.heap.get? b=some o→s'.heap.get? b=some o
theorem CKeep.of_ext {env:Env} {D:Addr} {a b:Shared} (x:Ext a b):CKeep env D a b:=fun p o _ _ e=>x.keep _ _ e
theorem CAt.ext {X:Cx} {bad:Addr→Prop} {env:Env} {ρ:List (Str×B)} {D:Addr} {outs:List PyData} {s s':Shared} (c:CAt X bad env ρ D outs s) (x:Ext s s'):CAt X bad env ρ D outs s' :=
  ⟨c.rel.ext x,let ⟨vs,n,g,q⟩:=c.acc;⟨vs,n,x.keep _ _ g,q.ext x⟩,c.new⟩
theorem Rel.sub {X:Cx} {bad:Addr→Prop} {env:Env} {ρ ρ':List (Str×B)} {s:Shared} (r:Rel X bad nO env ρ' s) (h:∀ y b,ρ.lookup y=some b→ρ'.lookup y=some b):Rel X bad nO env ρ s :=
  ⟨r.wf,r.base,r.gens,r.os,r.ok,r.frm,fun y c e=>r.holds y c (h y _ e),r.inj,r.low,fun y l e=>(by cases e),r.dat⟩
section
variable {X:Cx} {k:Nat} {env:Env} {ρ:List (Str×B)}
theorem Rel.turnB {bad:Addr→Prop} {s:Shared} {D:Addr} {h':Heap} {t:Nat} {o':Obj} (r:Rel X bad nO env ρ s) (hD:bad D) (h0:X.h₀.get? D=none) (hp:¬ Place env D) (hs:Heap.SameBut D s.heap h') (ha:h'.get? D=some o'):Rel X bad nO env ρ { s with heap:=h',toks:=t }:=by
  have nb:∀ b o,b ≠ D→s.heap.get? b=some o→h'.get? b=some o:=fun b o n e=>(hs.2 b n).trans e
  have kq:KeepSeq (aS bad nO) s.heap h':=fun b o vs n hb e ed=>nb b o (fun q=>hb (.inl (q ▸ hD))) e
  have hlk:∀ y u,Lk s.heap env y u→Lk h' env y u:=fun y u lk=>by
    rcases lk with ⟨a,m',b,e⟩ | ⟨a,d,b,e⟩ | ⟨a,n,d,b,e⟩
    · exact .inl ⟨a,m',b.at' fun o ho=>nb _ o (fun z=>hp (z ▸ .inl rfl)) ho,e⟩
    · obtain ⟨o,ho,hd⟩:=e;exact .inr (.inl ⟨a,d,b,o,nb _ o (fun z=>hp (z ▸ .inr ⟨y,b⟩)) ho,hd⟩)
    · obtain ⟨o,ho,hd⟩:=e;exact .inr (.inr ⟨a,n,d,b,o,nb _ o (fun z=>hp (z ▸ .inr ⟨y,b⟩)) ho,hd⟩)
  exact {
    wf:=r.wf
    base:=fun b o e=>nb b o (fun z=>by rw [z,h0] at e;cases e) (r.base b o e)
    gens:=r.gens
    os:=r.os
    ok:=r.ok
    frm:=⟨let ⟨m,a⟩:=r.frm.ns;⟨m,a.at' fun o ho=>nb _ o (fun z=>hp (z ▸ .inl rfl)) ho⟩,fun n c e=>let ⟨v,o,ho,hd⟩:=r.frm.cell n c e;⟨v,o,nb _ o (fun z=>hp (z ▸ .inr ⟨n,e⟩)) ho,hd⟩,r.frm.ne,r.frm.inj,r.frm.new,r.frm.newc⟩
    holds:=fun y c e=>(r.holds y c e).move (hlk y) (fun _ e=>e) (fun _ _ h=>by cases h) kq.map
    inj:=r.inj
    low:=fun a e=>let ⟨o,ho⟩:=r.low a e;same_alive hs ha a o ho
    good:=fun _ _ e=>by cases e
    dat:=r.dat }
noncomputable def AsgC (X:Cx) (k:Nat) (env:Env) (ρ:List (Str×B)) (target:Expr) (d:PyData) (ρ':List (Str×B)):Prop :=
  ∀ (A:Around) (bad:Addr→Prop) (s:Shared) (v:Value),Room k A→Rel X bad nO env ρ s→Rep (aS bad nO) s.heap d v →
    wpAny (model X.prog X.w) A (assign target env v) (fun _ s'=>(∀ b o,b ≠ env.locals→s.heap.get? b=some o→s'.heap.get? b=some o)∧Rel X bad nO env ρ' s') noE s
theorem del_nO (x:Str):del nO x=nO:=by funext y;unfold del;split <;> rfl
theorem bE {x:Str} {p:Pos} {d:PyData} (hx:env.kindOf x=some .local):AsgC X k env ρ (.Name x p) d (put ρ x (.val d)):=fun A bad s v R r q =>
  wpAny_assign_Name (store_val' r (.inl hx) q fun s' st r' hk=>by rw [del_nO] at r';exact ⟨hk hx,r'⟩)
noncomputable def AsgCL (X:Cx) (k:Nat) (env:Env) (ρ:List (Str×B)) (ts:List Expr) (ds:List PyData) (ρ':List (Str×B)):Prop :=
  ∀ (A:Around) (bad:Addr→Prop) (s:Shared) (vs:List Value),Room k A→Rel X bad nO env ρ s→RepL (aS bad nO) s.heap ds vs →
    wpAny (model X.prog X.w) A (assignInOrder ((assignEach ts env).map (·.2)) vs) (fun _ s'=>(∀ b o,b ≠ env.locals→s.heap.get? b=some o→s'.heap.get? b=some o)∧Rel X bad nO env ρ' s') noE s
theorem asgcl_nil:AsgCL X k env ρ [] [] ρ:=fun A bad s vs R r q=>by cases q;exact wpAny_pure ⟨fun _ _ _ e=>e,r⟩
theorem locals_noseq {h₀ h h':Heap} (f:FrameOk h₀ env h) (hk:∀ b o,b ≠ env.locals→h.get? b=some o→h'.get? b=some o) (bad:Addr→Prop):KeepSeq bad h h':=fun b o vs n _ e ed=>hk b o (fun q=>by
  subst q
  obtain ⟨m,o',es,ep,ho,hd,_⟩:=f.ns
  rw [ho] at e;cases e;rw [hd] at ed;cases ed) e
theorem asgcl_cons {t:Expr} {ts:List Expr} {d:PyData} {ds:List PyData} {ρ₁ ρ':List (Str×B)} (h:AsgC X k env ρ t d ρ₁) (hs:AsgCL X k env ρ₁ ts ds ρ') (he:assignEach (t :: ts) env=(false,assign t env) :: assignEach ts env:=by rfl):AsgCL X k env ρ (t :: ts) (d :: ds) ρ':=fun A bad s vs R r q=>by
  cases q with
  | cons qv qs =>
    rw [he,List.map_cons]
    unfold assignInOrder
    refine wpAny_bind (wpAny_holding (wpAny_mono (h A bad s _ R r qv) (fun _ s1 p=>?_) fun _ _ x=>x))
    refine wpAny_mono (hs A bad s1 _ R p.2 (qs.keep (locals_noseq r.frm p.1 _))) (fun _ s2 p2=>⟨fun b o hb e=>p2.1 b o hb (p.1 b o hb e),p2.2⟩) fun _ _ x=>x
theorem asgc_tuple {ts:List Expr} {n:Nat} {p:Pos} {ds:List PyData} {ρ':List (Str×B)} (h:AsgCL X k env ρ ts ds ρ') (hn:(assignEach ts env).length=ds.length) (hstar:(assignEach ts env).findIdx? (·.1)=none):AsgC X k env ρ (.Tuple ts n p) (.tuple ds) ρ':=fun A bad s v R r q=>by
  obtain ⟨a,vs,rfl,l,qs⟩:=q.isTup
  have hl:vs.size=ds.length:=by rw [← Array.length_toList,qs.length]
  refine wpAny_assign_Tuple R.handled l (by rw [hl];exact hn) hstar fun h' he=>?_
  have x1:Ext s { s with heap:=h' }:=⟨fun b o e=>he b o (Nat.ne_of_lt (Heap.lt_size e)) e,rfl,rfl⟩
  exact wpAny_mono (h A bad { s with heap:=h' } vs.toList R (r.ext x1) (qs.ext x1)) (fun _ s2 p2=>⟨fun b o hb e=>p2.1 b o hb (x1.keep _ _ e),p2.2⟩) fun _ _ x=>x
noncomputable def TstL (X:Cx) (k:Nat) (env:Env) (ρ:List (Str×B)) (ifs:List Expr) (b:Bool):Prop :=
  ∀ (A:Around) (bad:Addr→Prop) (s:Shared),Room k A→Rel X bad nO env ρ s →
    wpAny (model X.prog X.w) A (forIn ifs true fun c r=>if r=true then do let ok ← isTrue c env (eval c env);pure (ForInStep.yield ok) else pure (ForInStep.yield r)) (fun ok s'=>Ext s s'∧ok=b) noE s
theorem tstl_nil:TstL X k env ρ [] true:=fun A bad s R r=>wpAny_tests_nil ⟨Ext.refl s,rfl⟩
theorem tstl_one {c:Expr} {b:Bool} (h:Tst X k env ρ c b):TstL X k env ρ [c] b:=fun A bad s R r=>wpAny_tests_one (h A bad nO s R r)
noncomputable def CmB (X:Cx) (k:Nat) (env:Env) (ρ:List (Str×B)) (tree:Value→Sem PUnit) (o:List PyData):Prop :=
  ∀ (A:Around) (bad:Addr→Prop) (D:Addr) (s:Shared) (outs:List PyData),Room k A→bad D→outs.length+o.length≤sizeLine→CAt X bad env ρ D outs s →
    wpAny (model X.prog X.w) A (tree (.ref D)) (fun _ s'=>CKeep env D s s'∧CAt X bad env ρ D (outs++o) s') noE s
theorem cmb_item {elt:Expr} {d:PyData} (h:Ev X k env ρ elt d):CmB X k env ρ (fun acc=>do let _ ← call (.builtin "list.append") [acc,← eval elt env]) [d]:=fun A bad D s outs R hD hz c =>
  wpAny_bind (h.use R c.rel fun v s1 x1 r1 q1=>by
    have c1:=c.ext x1
    obtain ⟨vs,n,g,q⟩:=c1.acc
    have hl:vs.size=outs.length:=by rw [← Array.length_toList,q.length]
    simp at hz
    refine wpAny_bind (wpAny_list_append_plain ⟨n,g⟩ (fun h' hp hs=>wpAny_pure ?_) (by exact aO 0xf181200f2181a0102f rfl hl hz))
    obtain ⟨n',g'⟩:=hp
    refine ⟨fun b o _ hb e=>(hs.2 b hb).trans (x1.keep _ _ e),r1.turnB hD c.new (noplace_seq r1.frm g rfl) hs g',⟨_,n',g',?_⟩,c.new⟩
    refine RepL.push (q.keep fun b o _ _ hb e _=>(hs.2 b fun z=>hb (z ▸ hD)).trans e) ?_
    exact (q1.imp fun a _ _ h=>.inl h).keep fun b o _ _ hb e _=>(hs.2 b fun z=>hb (z ▸ hD)).trans e)
end
noncomputable abbrev testsOf (ifs:List Expr) (env:Env):Sem Bool:=forIn ifs true fun c r=>if r=true then do let ok ← isTrue c env (eval c env);pure (ForInStep.yield ok) else pure (ForInStep.yield r)
theorem turn_last {X:Cx} {A:Around} {env:Env} {elt t i:Expr} {ifs:List Expr} {gens:List Comprehension} {sc:Scope} {p:Pos} {d:Nat} {acc:Value} (hg:gens[d]?=some ⟨t,i,ifs,0⟩) (hn:gens[d+1]?=none) {it:Value} {P:Fin→Shared→Prop} {s:Shared}
    (h:wpAny (model X.prog X.w) A (pyNext it) (fun r s1=>match r with
    | none=>P (.done .next) s1
    | some v=>wpAny (model X.prog X.w) A (letOwnedTupleGo t it v) (fun _ s2=>wpAny (model X.prog X.w) A (assign t env v) (fun _ s3=>wpAny (model X.prog X.w) A (testsOf ifs env) (fun ok s4 =>
        if ok=true then wpAny (model X.prog X.w) A (do let _ ← call (.builtin "list.append") [acc,← eval elt env]) (fun (_:PUnit) s5=>P (.again (.compLoop (.ListComp elt gens sc p) d it acc env)) s5) noE s4 else P (.again (.compLoop (.ListComp elt gens sc p) d it acc env)) s4) noE s3) noE s2) noE s1) noE s) :
    wpAny (model X.prog X.w) A (compTurn (.ListComp elt gens sc p) d it acc env) P noE s:=by
  rw [compTurn_last hg hn]
  refine wpAny_bind (wpAny_standAt (wpAny_bind (wpAny_mono h (fun r s₁ h₁=>?_) fun _ _ h'=>h')))
  cases r with
  | none=>exact wpAny_pure h₁
  | some v =>
    refine wpAny_bind (wpAny_mono h₁ (fun _ s₂ h₂=>wpAny_bind (wpAny_mono h₂ (fun _ s₃ h₃=>wpAny_bind (wpAny_mono h₃ (fun ok s₄ h₄=>?_) fun _ _ h'=>h')) fun _ _ h'=>h')) fun _ _ h'=>h')
    cases ok with
    | false=>exact wpAny_pure h₄
    | true=>exact wpAny_bind (wpAny_mono h₄ (fun _ s₅ h₅=>wpAny_pure h₅) fun _ _ h'=>h')
theorem turn_mid {X:Cx} {A:Around} {env:Env} {elt t i t' i':Expr} {ifs ifs':List Expr} {gens:List Comprehension} {sc:Scope} {p:Pos} {d:Nat} {acc:Value} (hg:gens[d]?=some ⟨t,i,ifs,0⟩) (hn:gens[d+1]?=some ⟨t',i',ifs',0⟩) {it:Value} {P:Fin→Shared→Prop} {s:Shared}
    (h:wpAny (model X.prog X.w) A (pyNext it) (fun r s1=>match r with
    | none=>P (.done .next) s1
    | some v=>wpAny (model X.prog X.w) A (letOwnedTupleGo t it v) (fun _ s2=>wpAny (model X.prog X.w) A (assign t env v) (fun _ s3=>wpAny (model X.prog X.w) A (testsOf ifs env) (fun ok s4 =>
        if ok=true then wpAny (model X.prog X.w) A (do
          let x ← eval i' env
          standAt i'.pos
          let x ← foldedSetIterable i' env x
          let it' ← holding [x] (pyIter x)
          let _ ← runOwn (.compStart (.ListComp elt gens sc p) (d+1) it' acc env) env) (fun (_:PUnit) s5=>P (.again (.compLoop (.ListComp elt gens sc p) d it acc env)) s5) noE s4 else P (.again (.compLoop (.ListComp elt gens sc p) d it acc env)) s4) noE s3) noE s2) noE s1) noE s) :
    wpAny (model X.prog X.w) A (compTurn (.ListComp elt gens sc p) d it acc env) P noE s:=by
  rw [compTurn_mid hg hn]
  refine wpAny_bind (wpAny_standAt (wpAny_bind (wpAny_mono h (fun r s₁ h₁=>?_) fun _ _ h'=>h')))
  cases r with
  | none=>exact wpAny_pure h₁
  | some v =>
    refine wpAny_bind (wpAny_mono h₁ (fun _ s₂ h₂=>wpAny_bind (wpAny_mono h₂ (fun _ s₃ h₃=>wpAny_bind (wpAny_mono h₃ (fun ok s₄ h₄=>?_) fun _ _ h'=>h')) fun _ _ h'=>h')) fun _ _ h'=>h')
    cases ok with
    | false=>exact wpAny_pure h₄
    | true =>
      have e:=wpAny_bind (f:=fun (_:PUnit)=>again (.compLoop (.ListComp elt gens sc p) d it acc env)) (wpAny_mono h₄ (fun _ s₅ h₅=>wpAny_pure (a:=Fin.again (.compLoop (.ListComp elt gens sc p) d it acc env)) (M:=model X.prog X.w) (A:=A) (E:=noE) (Q:=P) h₅) fun _ _ h'=>h')
      simpa [bind_assoc] using e
section
variable {X:Cx} {k:Nat} {env:Env} {ρ:List (Str×B)}
noncomputable def ClB (X:Cx) (k:Nat) (env:Env) (ρ:List (Str×B)) (t:Expr) (ifs:List Expr) (tree:Value→Sem PUnit) (x:PyData) (o:List PyData):Prop :=
  ∃ ρ₁ b,AsgC X k env ρ t x ρ₁∧(∀ y c,ρ.lookup y=some c→ρ₁.lookup y=some c)∧TstL X k env ρ₁ ifs b∧(b=true→CmB X k env ρ₁ tree o)∧(b=false→o=[])
noncomputable def LoopPost (c:Code) (P I:Shared→Prop):Fin→Shared→Prop
  | .done f,s=>f=.next∧P s
  | .again c',s=>c'=c∧I s
noncomputable def Trn (X:Cx) (c:Expr) (d:Nat) (t:Expr) (ifs:List Expr) (tree:Value→Sem PUnit) (env:Env):Prop :=
  ∀ {A:Around} {D I:Addr} {P:Fin→Shared→Prop} {s:Shared},wpAny (model X.prog X.w) A (pyNext (.ref I)) (fun r s1=>match r with
      | none=>P (.done .next) s1
      | some v=>wpAny (model X.prog X.w) A (letOwnedTupleGo t (.ref I) v) (fun _ s2=>wpAny (model X.prog X.w) A (assign t env v) (fun _ s3=>wpAny (model X.prog X.w) A (testsOf ifs env) (fun ok s4 =>
          if ok=true then wpAny (model X.prog X.w) A (tree (.ref D)) (fun _ s5=>P (.again (.compLoop c d (.ref I) (.ref D) env)) s5) noE s4 else P (.again (.compLoop c d (.ref I) (.ref D) env)) s4) noE s3) noE s2) noE s1) noE s →
      wpAny (model X.prog X.w) A (compTurn c d (.ref I) (.ref D) env) P noE s
noncomputable abbrev itemTree (elt:Expr) (env:Env):Value→Sem PUnit:=fun acc=>do let _ ← call (.builtin "list.append") [acc,← eval elt env]
theorem trn_last {elt t i:Expr} {ifs:List Expr} {gens:List Comprehension} {sc:Scope} {p:Pos} {d:Nat} (hg:gens[d]?=some ⟨t,i,ifs,0⟩) (hn:gens[d+1]?=none):Trn X (.ListComp elt gens sc p) d t ifs (itemTree elt env) env:=by
  intro A D I P s h;exact turn_last hg hn h
theorem comp_loop {A:Around} {bad:Addr→Prop} {D I:Addr} {s:Shared} {elt t:Expr} {gens:List Comprehension} {sc:Scope} {p:Pos} {d:Nat} {ifs:List Expr} {tree:Value→Sem PUnit} {items outs:List PyData} {g:PyData→List PyData} {fp wr:List Addr} {P:Nat→Value→Prop} {St:Nat→Heap→Prop}
    (hturn:Trn X (.ListComp elt gens sc p) d t ifs tree env)
    (hb:∀ x∈items,ClB X k env ρ t ifs tree x (g x)) (R:Room k A) (hD:bad D) (hz:outs.length+(items.flatMap g).length≤sizeLine)
    (W:Walks X.prog X.w A I fp wr items.length P St) (hfD:D ∉ fp) (hfL:env.locals ∉ fp) (hfc:∀ n c,env.cells.lookup n=some c→c ∉ wr) (hwb:∀ b∈wr,¬ bad b) (hw0:∀ b∈wr,X.h₀.get? b=none)
    (hns:∀ i h,St i h→∀ b∈wr,∀ o vs n,h.get? b=some o→o.data ≠ .seq vs n) (hit:∀ i v,P i v→∃ d,items[i]?=some d∧Rep bad s.heap d v)
    (lets:∀ i (s:Shared) (target:Expr) (v:Value) (Q:Unit→Shared→Prop) (E:Value→Shared→Prop),St i s.heap→Q () s→wpAny (model X.prog X.w) A (letOwnedTupleGo target (.ref I) v) Q E s)
    (c:CAt X bad env ρ D outs s) (h0:St 0 s.heap) :
    codeAny (model X.prog X.w) A (.compLoop (.ListComp elt gens sc p) d (.ref I) (.ref D) env) (fun r s'=>r=.ok .next∧CAt X bad env ρ D (outs++items.flatMap g) s'∧∀ b o,b ∉ wr→b ≠ env.locals→b ≠ D→s.heap.get? b=some o→s'.heap.get? b=some o) s:=by
  have wrfp:=W.sub
  have hwp:∀ b∈wr,¬ Place env b:=fun b hb hp=>by
    rcases hp with rfl | ⟨n,hn⟩
    · exact hfL (wrfp _ hb)
    · exact hfc n b hn hb
  refine codeAny_loop rfl (fun n s'=>∃ i,n=items.length+1 - i∧i≤items.length∧CAt X bad env ρ D (outs++(items.take i).flatMap g) s'∧St i s'.heap∧∀ b o,b ∉ wr→b ≠ env.locals→b ≠ D→s.heap.get? b=some o→s'.heap.get? b=some o) ?_ (items.length+1)
    ⟨0,rfl,Nat.zero_le _,by simpa using c,h0,fun _ _ _ _ _ e=>e⟩
  rintro n s' ⟨i,rfl,hi,c',hSt,hk'⟩
  show wpAny _ A ((compTurn (.ListComp elt gens sc p) d (.ref I) (.ref D) env).onRaise (fun x=>do noteFrame x env;theTreesLotGoes x)) _ _ s'
  refine wpAny_noted ?_
  refine wpAny_mono (Q:=LoopPost (.compLoop (.ListComp elt gens sc p) d (.ref I) (.ref D) env) (fun s'=>CAt X bad env ρ D (outs++items.flatMap g) s'∧∀ b o,b ∉ wr→b ≠ env.locals→b ≠ D→s.heap.get? b=some o→s'.heap.get? b=some o) (fun s'=>∃ m,m < items.length+1 - i∧∃ i,m=items.length+1 - i∧i≤items.length∧CAt X bad env ρ D (outs++(items.take i).flatMap g) s'∧St i s'.heap∧∀ b o,b ∉ wr→b ≠ env.locals→b ≠ D→s.heap.get? b=some o→s'.heap.get? b=some o)) (E:=noE) ?_ (fun fin s' h=>?_) fun _ _ x=>x.elim
  rotate_left
  · cases fin with
    | done f=>obtain ⟨rfl,h⟩:=h;exact ⟨rfl,h⟩
    | again c=>exact h
  have drawn:∀ (h':Heap) (tk:Nat),(∀ b o,b ∉ wr→s'.heap.get? b=some o→h'.get? b=some o)→CAt X bad env ρ D (outs++(items.take i).flatMap g) { s' with heap:=h',toks:=tk }:=fun h' tk hk =>
    ⟨c'.rel.keepZ (Z:=fun b=>b∈wr) hk hwp (fun b hb x hx=>by cases hx) hwb hw0 (fun b o vs n hb e=>hns i _ hSt b hb o vs n e),by
      obtain ⟨vs,n,e,q⟩:=c'.acc
      exact ⟨vs,n,hk D _ (fun h=>hfD (wrfp _ h)) e,q.keep fun b o vs n _ e ed=>hk b o (fun z=>hns i _ hSt b z o vs n e ed) e⟩,c'.new⟩
  refine hturn ?_
  rcases Nat.lt_or_ge i items.length with hlt | hge
  · refine W.item i s' _ _ hlt hSt fun v h' tk hP hSt' hk=>?_
    have c1:=drawn h' tk hk
    have k1:∀ b o,b ∉ wr→b ≠ env.locals→b ≠ D→s.heap.get? b=some o→h'.get? b=some o:=fun b o a1 a2 a3 e=>hk b o a1 (hk' b o a1 a2 a3 e)
    obtain ⟨x,hx,qx⟩:=hit i v hP
    have qv:Rep bad h' x v:=qx.keep fun b o vs n hb e ed=>k1 b o (fun z=>hns 0 _ h0 b z o vs n e ed) (fun z=>by
      subst z
      obtain ⟨m,o',es,ep,ho,hd,_⟩:=c.rel.frm.ns
      rw [ho] at e;cases e;rw [hd] at ed;cases ed) (fun z=>hb (z ▸ hD)) e
    obtain ⟨ρ₁,b,ha,hsub,ht,hB,hN⟩:=hb x (List.mem_of_getElem? hx)
    have hxs:items.take (i+1)=items.take i++[x]:=by rw [List.take_add_one,hx];rfl
    have fold:(items.take (i+1)).flatMap g=(items.take i).flatMap g++g x:=by rw [hxs,List.flatMap_append];simp
    have hlen:(outs++(items.take i).flatMap g).length+(g x).length≤sizeLine:=by
      have e1:(items.flatMap g).length=((items.take (i+1)).flatMap g).length+((items.drop (i+1)).flatMap g).length:=by rw [← List.length_append,← List.flatMap_append,List.take_append_drop]
      rw [fold,List.length_append] at e1
      rw [List.length_append]
      exact lq6 0xf1112430aa0f543aa12210a0f rfl hz e1
    refine lets (i+1) _ _ _ _ _ hSt' (wpAny_mono (ha A bad _ v R c1.rel (qv.imp fun a _ _ h=>badO_nO h)) (fun _ s3 p3=>?_) fun _ _ x=>x)
    have hSt3:St (i+1) s3.heap:=W.frame _ _ _ hSt' fun b hb o e=>p3.1 b o (fun z=>hfL (z ▸ hb)) e
    refine wpAny_mono (ht A bad s3 R p3.2) (fun ok s4 p4=>?_) fun _ _ x=>x
    obtain ⟨x4,rfl⟩:=p4
    have DL:D ≠ env.locals:=fun z=>by
      obtain ⟨vs,n,e,q⟩:=c1.acc
      obtain ⟨m,o',es,ep,ho,hd,_⟩:=c1.rel.frm.ns
      rw [z,ho] at e;cases e;cases hd
    have c4:CAt X bad env ρ₁ D (outs++(items.take i).flatMap g) s4:=⟨p3.2.ext x4,by
      obtain ⟨vs,n,e,q⟩:=c1.acc
      refine ⟨vs,n,x4.keep _ _ (p3.1 _ _ DL e),(q.keep (locals_noseq c1.rel.frm p3.1 _)).ext x4⟩,c1.new⟩
    have hSt4:St (i+1) s4.heap:=W.frame _ _ _ hSt3 fun b hb o e=>x4.keep _ _ e
    have k4:∀ b o,b ∉ wr→b ≠ env.locals→b ≠ D→s.heap.get? b=some o→s4.heap.get? b=some o:=fun b o a1 a2 a3 e=>x4.keep _ _ (p3.1 b o a2 (k1 b o a1 a2 a3 e))
    cases ok with
    | false =>
      rw [if_neg (by simp)]
      refine ⟨rfl,items.length+1 - (i+1),by exact aF 0xf1018f110108f321f101f0181a1180a181a0 rfl hlt,i+1,rfl,hlt,?_,hSt4,k4⟩
      rw [fold,hN rfl,List.append_nil]
      exact ⟨c4.rel.sub hsub,c4.acc,c4.new⟩
    | true =>
      rw [if_pos rfl]
      refine wpAny_mono (hB rfl A bad D s4 _ R hD hlen c4) (fun _ s5 p5=>?_) fun _ _ x=>x
      refine ⟨rfl,items.length+1 - (i+1),by exact aF 0xf1018f110108f321f101f0181a1180a181a0 rfl hlt,i+1,rfl,hlt,?_,?_,?_⟩
      · rw [fold,← List.append_assoc]
        exact ⟨p5.2.rel.sub hsub,p5.2.acc,p5.2.new⟩
      · exact W.frame _ _ _ hSt4 fun b hb o e=>p5.1 b o (fun z=>hfL (z ▸ hb)) (fun z=>hfD (z ▸ hb)) e
      · exact fun b o a1 a2 a3 e=>p5.1 b o a2 a3 (k4 b o a1 a2 a3 e)
  · have e:i=items.length:=Nat.le_antisymm hi hge
    subst e
    refine W.done s' _ _ hSt fun h' tk hk=>⟨rfl,?_,fun b o a1 a2 a3 e=>hk b o a1 (hk' b o a1 a2 a3 e)⟩
    have:=drawn h' tk hk
    rwa [List.take_length] at this
end
section
variable {X:Cx} {k:Nat} {env:Env} {ρ ρc:List (Str×B)}
structure CapOk (env:Env) (ρ ρc:List (Str×B)) (sc:Scope) (cl:List (Str×Addr)):Prop where
  clos:closureFor sc env=pure cl
  nocell:∀ x∈sc.names,x.2 ≠ .cell
  kind:sc.kind=.function
  names:∀ x∈sc.names,x.2=.local→sc.names.lookup x.1=some .local
  sub:∀ n c,cl.lookup n=some c→env.cells.lookup n=some c
  cap:∀ y b,ρc.lookup y=some b→¬ b.owns∧ρ.lookup y=some b∧env.kindOf y=some .cell∧(relabel sc env).names.lookup y=some .cell∧∃ c,cl.lookup y=some c
theorem comp_block {A:Around} {bad:Addr→Prop} {O:Str→Option Addr} {s s2:Shared} {I:Addr} {fp wr:List Addr} {P:Nat→Value→Prop} {St:Nat→Heap→Prop} {elt t iter:Expr} {gs:List Comprehension} {tree:Env→Value→Sem PUnit} {ifs:List Expr} {sc:Scope} {p:Pos} {cl:List (Str×Addr)} {items:List PyData} {g:PyData→List PyData} {RR:Value→Addr→Result→Shared→Prop}
    (R:Room k A) (r:Rel X bad O env ρ s) (x2:Ext s s2) (T:It X A bad O s s2 items I fp wr P St) (hc:CapOk env ρ ρc sc cl)
    (hturn:∀ C,Trn X (.ListComp elt (⟨t,iter,ifs,0⟩ :: gs) sc p) 0 t ifs (tree (compEnvC sc cl C env)) (compEnvC sc cl C env))
    (hb:∀ C,∀ x∈items,ClB X k (compEnvC sc cl C env) ρc t ifs (tree (compEnvC sc cl C env)) x (g x)) (hz:(items.flatMap g).length≤sizeLine)
    (hRR:∀ D C s' vs n m',s2.heap.get? D=none→s2.heap.get? C=none→D ≠ C→s'.heap.Ns C m'→s'.heap.get? D=some { cls:=.type "list",data:=.seq vs n }→RepL (fun a=>aS bad O a∨a=D) s'.heap (items.flatMap g) vs.toList →
      (∀ b o,b ∉ wr→s2.heap.get? b=some o→s'.heap.get? b=some o)→s'.gens=s2.gens→s'.os=s2.os→RR (.ref D) C (.ok .next) s') :
    wpAny (model X.prog X.w) A (newList []) (fun acc s3=>wpAny (model X.prog X.w) A (newFunctionEnv sc env.globals cl [] env.qual none .none (some env)) (fun cenv s4 =>
      codeAny (model X.prog X.w) A (.compStart (.ListComp elt (⟨t,iter,ifs,0⟩ :: gs) sc p) 0 (.ref I) acc { cenv with scope:=relabel sc env }) (RR acc cenv.locals) s4) noE s3) noE s2:=by
  have r2:=r.ext x2
  refine wpAny_newObj_type (wpAny_newFunctionEnv hc.nocell (by intro y hy;simp at hy) (fun h₁ hns₁ hsb₁=>?_) hc.kind)
  dsimp only at hns₁ hsb₁ ⊢
  generalize hH2:s2.heap.push { cls:=.type "list",dict:=none,data:=.seq ([]:List Value).toArray }=H2 at hns₁ hsb₁ ⊢
  have hC:H2.objs.size=s2.heap.objs.size+1:=by rw [← hH2,Heap.size_push]
  have hDC:s2.heap.objs.size ≠ H2.objs.size:=by rw [hC];exact Nat.ne_of_lt (Nat.lt_succ_self _)
  have old:∀ b o,s2.heap.get? b=some o→h₁.get? b=some o:=fun b o e=>hsb₁.extBut b o (by rw [hC];exact Nat.ne_of_lt (Nat.lt_succ_of_lt (Heap.lt_size e))) (Heap.get?_push_of_some _ (hH2 ▸ Heap.get?_push_of_some _ e))
  have hacc:h₁.get? s2.heap.objs.size=some { cls:=.type "list",data:=.seq #[] }:=hsb₁.extBut _ _ hDC (Heap.get?_push_of_some _ (hH2 ▸ Heap.get?_push_size _ rfl))
  have fresh:∀ a,s2.heap.objs.size≤a→s2.heap.get? a=none:=fun a ha=>by
    cases e:s2.heap.get? a with
    | none=>rfl
    | some o'=>exact absurd (Heap.lt_size e) (Nat.not_lt.mpr ha)
  have fresh0:∀ a,s2.heap.get? a=none→X.h₀.get? a=none:=fun a ha=>by
    cases e:X.h₀.get? a with
    | none=>rfl
    | some o'=>rw [r2.base _ _ e] at ha;cases ha
  have fD:=fresh _ (Nat.le_refl s2.heap.objs.size)
  have fC:=fresh H2.objs.size (by rw [hC];exact aQ 0xf1180a00ff rfl)
  generalize s2.heap.objs.size=D at *
  generalize H2.objs.size=C at *
  have live:=T.live 0 _ T.start
  have hDf:D ∉ fp:=fun h=>by obtain ⟨o,ho⟩:=live _ h;rw [fD] at ho;cases ho
  have hCf:C ∉ fp:=fun h=>by obtain ⟨o,ho⟩:=live _ h;rw [fC] at ho;cases ho
  have celA:∀ n c,cl.lookup n=some c→∃ v,s2.heap.IsCell c v:=fun n c e=>r2.frm.cell n c (hc.sub n c e)
  have up:∀ {d v},Rep (aS bad O) s2.heap d v→Rep (fun a=>aS bad O a∨a=D) h₁ d v:=fun q =>
    (q.imp fun a o e h=>h.elim id fun z=>by rw [z,fD] at e;cases e).keep fun b o _ _ _ e _=>old b o e
  have rel:∀ tk,Rel X (fun a=>aS bad O a∨a=D) nO (compEnvC sc cl C env) ρc { s2 with heap:=h₁,toks:=tk }:=fun tk=>{
    wf:=r.wf
    base:=fun b o e=>old _ _ (r2.base b o e)
    gens:=r2.gens
    os:=r2.os
    ok:=⟨hc.kind,r.ok.globals,r.ok.builtins⟩
    frm:=⟨⟨_,hns₁⟩,fun n c e=>let ⟨v,o,ho,hd⟩:=celA n c e;⟨v,o,old _ _ ho,hd⟩,fun n c e z=>(by
        obtain ⟨v,o,ho,hd⟩:=celA n c e
        have z':c=C:=z
        rw [z',fC] at ho;cases ho),fun n n' c e e'=>r2.frm.inj n n' c (hc.sub n c e) (hc.sub n' c e'),fresh0 _ fC,fun n c e=>r2.frm.newc n c (hc.sub n c e)⟩
    holds:=fun y b e=>by
      obtain ⟨e1,e2,e3,e4,c,e5⟩:=hc.cap y _ e
      have lkc:∀ v,Lk s2.heap env y v→Lk h₁ (compEnvC sc cl C env) y v:=fun v lk=>by
        refine .inr (.inl ⟨e4,c,e5,?_⟩)
        rcases lk with ⟨a,_⟩ | ⟨a,c',b,o,ho,hd⟩ | ⟨a,_⟩
        · rw [e3] at a;cases a
        · rw [hc.sub y c e5] at b;cases b;exact ⟨o,old _ _ ho,hd⟩
        · rw [e3] at a;cases a
      cases r2.holds y b e2 with
      | val lk q=>exact .val (lkc _ lk) ((up q).imp fun a _ _ h=>badO_nO h)
      | raw lk=>exact .raw (lkc _ lk)
      | free=>exact .free
      | own _ _ _ _=>exact (e1 trivial).elim
      | «at» _ _=>exact (e1 trivial).elim
    dat:=fun d v e=>(r.dat d v e).imp fun a o e' h=>by
      rcases h with (h | ⟨y,hy⟩) | h
      · exact h
      · rw [(r.good y a hy).2.1] at e';cases e'
      · rw [h,fresh0 _ fD] at e';cases e'
    inj:=fun x y l e=>by cases e
    low:=fun a e=>e.elim (fun e=>let ⟨o,ho⟩:=badO_alive r2 a e;⟨o,old _ _ ho⟩) fun e=>e ▸ ⟨_,hacc⟩
    good:=fun x l e=>by cases e }
  have loop:codeAny (model X.prog X.w) A (.compLoop (.ListComp elt (⟨t,iter,ifs,0⟩ :: gs) sc p) 0 (.ref I) (.ref D) (compEnvC sc cl C env)) (RR (.ref D) C) { s2 with heap:=h₁,toks:=s2.toks+([]:List (Str×Value)).length }:=by
    refine codeAny_mono (comp_loop (g:=g) (bad:=fun a=>aS bad O a∨a=D) (tree:=tree (compEnvC sc cl C env)) (hturn C) (hb C) R (.inr rfl) (by simpa using hz) T.walks hDf hCf (fun n c e hw=>?_) (fun b hw h=>?_) (fun b hw=>?_) T.noseq (fun i v hP=>?_) T.lets ⟨rel _,⟨#[],_,hacc,.nil⟩,fresh0 _ fD⟩ (T.walks.frame _ _ _ T.start fun b _ o e=>old b o e)) fun res s' hr=>?_
    · obtain ⟨v,o,ho,hd⟩:=r.frm.cell n c (hc.sub n c e)
      rw [T.new c hw] at ho;cases ho
    · rcases h with h | h
      · obtain ⟨o,ho⟩:=badO_alive r b h
        rw [T.new b hw] at ho;cases ho
      · exact hDf (h ▸ T.walks.sub b hw)
    · cases e:X.h₀.get? b with
      | none=>rfl
      | some o=>have:=r.base _ _ e;rw [T.new b hw] at this;cases this
    · obtain ⟨d,hd,q⟩:=T.item i v hP
      exact ⟨d,hd,up q⟩
    · obtain ⟨rfl,c',kp⟩:=hr
      obtain ⟨vs,n,hg,q⟩:=c'.acc
      obtain ⟨m,hm⟩:=c'.rel.frm.ns
      exact hRR D C s' vs n m fD fC hDC hm hg q (fun b o hw e=>kp b o hw (fun z=>by
        have z':b=C:=z
        rw [z',fC] at e;cases e) (fun z=>by rw [z,fD] at e;cases e) (old b o e)) (c'.rel.gens.trans r2.gens.symm) (c'.rel.os.trans r2.os.symm)
  exact compStart_gen (gens:=⟨t,iter,ifs,0⟩ :: gs) rfl loop (T.walks.self 0 _ _ _ (T.walks.frame _ _ _ T.start fun b _ o e=>old b o e) loop)
theorem evf_compX {elt t iter:Expr} {gs:List Comprehension} {tree:Env→Value→Sem PUnit} {ifs:List Expr} {sc:Scope} {p:Pos} {cl:List (Str×Addr)} {items:List PyData} (g:PyData→List PyData) (hit:EvW X k env ρ iter items) (hc:CapOk env ρ ρc sc cl)
    (hturn:∀ C,Trn X (.ListComp elt (⟨t,iter,ifs,0⟩ :: gs) sc p) 0 t ifs (tree (compEnvC sc cl C env)) (compEnvC sc cl C env))
    (hb:∀ C,∀ x∈items,ClB X k (compEnvC sc cl C env) ρc t ifs (tree (compEnvC sc cl C env)) x (g x)) (hz:(items.flatMap g).length≤sizeLine) (hs:∀ x,foldedSetIterable iter env x=pure x:=by intro _;rfl) :
    EvF X k env ρ (.ListComp elt (⟨t,iter,ifs,0⟩ :: gs) sc p) (items.flatMap g):=fun A bad O s R r=>by
  rw [eval_ListComp]
  refine wpAny_comprehension_free (use:=none) (g:=⟨t,iter,ifs,0⟩) (gs:=gs) rfl hs hc.clos hc.kind hc.names (wpAny_mono (hit A bad O s R r) (fun xv s1 h1=>wpAny_mono h1 (fun it s2 h2=>?_) fun _ _ e=>e) fun _ _ e=>e)
  obtain ⟨x2,I,fp,wr,P,St,rfl,T⟩:=h2
  refine comp_block (RR:=fun acc C=>compPost (model X.prog X.w) A noE none _ acc C) R r x2 T hc hturn hb hz ?_
  intro D C s' vs n m' fD fC hDC hn hg q kp eg eo
  refine ⟨m',hn,fun h'' hs''=>?_⟩
  have kp':∀ b o,s.heap.get? b=some o→h''.get? b=some o:=fun b o e=>hs''.extBut b o (fun z=>by rw [z] at e;rw [x2.keep _ _ e] at fC;cases fC) (kp b o (fun hw=>by rw [T.new b hw] at e;cases e) (x2.keep _ _ e))
  refine ⟨⟨kp',eg.trans x2.gens,eo.trans x2.os⟩,D,vs,n,rfl,?_,hs''.extBut _ _ hDC hg,q.keep fun b o vs n _ e ed=>hs''.extBut b o (fun z=>?_) e⟩
  · cases e:s.heap.get? D with
    | none=>rfl
    | some o=>rw [x2.keep _ _ e] at fD;cases fD
  · obtain ⟨o',es,ep,ho,hd,_⟩:=hn
    rw [z,ho] at e;cases e;rw [hd] at ed;cases ed
theorem evf_comp {elt t iter:Expr} {ifs:List Expr} {sc:Scope} {p:Pos} {cl:List (Str×Addr)} {items:List PyData} (g:PyData→List PyData) (hit:EvW X k env ρ iter items) (hc:CapOk env ρ ρc sc cl)
    (hb:∀ C,∀ x∈items,ClB X k (compEnvC sc cl C env) ρc t ifs (itemTree elt (compEnvC sc cl C env)) x (g x)) (hz:(items.flatMap g).length≤sizeLine) (hs:∀ x,foldedSetIterable iter env x=pure x:=by intro _;rfl) :
    EvF X k env ρ (.ListComp elt [⟨t,iter,ifs,0⟩] sc p) (items.flatMap g):=evf_compX (tree:=itemTree elt) g hit hc (fun _=>trn_last rfl rfl) hb hz hs
end
section
variable {X:Cx} {k:Nat} {env:Env} {ρ ρc:List (Str×B)} {Q:Fl→List (Str×B)→Prop}
theorem ex_assignCX {y:Str} {py spos:Pos} {elt t iter:Expr} {gs:List Comprehension} {tree:Env→Value→Sem PUnit} {ifs:List Expr} {sc:Scope} {p:Pos} {cl:List (Str×Addr)} {items:List PyData} (g:PyData→List PyData) (hit:EvW X k env ρ iter items) (hc:CapOk env ρ ρc sc cl)
    (hturn:∀ C,Trn X (.ListComp elt (⟨t,iter,ifs,0⟩ :: gs) sc p) 0 t ifs (tree (compEnvC sc cl C env)) (compEnvC sc cl C env))
    (hb:∀ C,∀ x∈items,ClB X k (compEnvC sc cl C env) ρc t ifs (tree (compEnvC sc cl C env)) x (g x)) (hz:(items.flatMap g).length≤sizeLine) (hy:Own env y) (hq:Q .next (put ρ y (.own (items.flatMap g))))
    (hsw:swapsWith (.ListComp elt (⟨t,iter,ifs,0⟩ :: gs) sc p) (some (.Name y py)) spos.line env=pure true:=by rfl) (hs:∀ x,foldedSetIterable iter env x=pure x:=by intro _;rfl) :
    Ex1 X k env ρ (.Assign [.Name y py] (.ListComp elt (⟨t,iter,ifs,0⟩ :: gs) sc p) spos) Q:=fun A bad O s R r=>by
  rw [exec_Assign_Name_used _ _ _ _ hsw]
  refine wpAny_bind (wpAny_standAt (wpAny_bind ?_))
  show wpAny _ A (do let _ ← comprehension (.ListComp elt (⟨t,iter,ifs,0⟩ :: gs) sc p) sc env _ (newList []) false (eval iter env) (some (assign (.Name y py) env))) _ _ s
  refine wpAny_bind (wpAny_mono (wpAny_comprehension_free (use:=some (assign (.Name y py) env)) (Q:=fun _ s'=>Post X env bad O s Q .next s') (g:=⟨t,iter,ifs,0⟩) (gs:=gs) rfl hs hc.clos hc.kind hc.names
    (wpAny_mono (hit A bad O s R r) (fun xv s1 h1=>wpAny_mono h1 (fun it s2 h2=>?_) fun _ _ e=>e) fun _ _ e=>e)) (fun _ s' hq=>wpAny_pure (wpAny_pure hq)) fun _ _ e=>e)
  obtain ⟨x2,I,fp,wr,P,St,rfl,T⟩:=h2
  refine comp_block (RR:=fun acc C=>compPost (model X.prog X.w) A noE (some (assign (.Name y py) env)) _ acc C) R r x2 T hc hturn hb hz ?_
  intro D C s' vs n m' fD fC hDC hn hg q kp eg eo
  have x1:Ext s s':=⟨fun b o e=>kp b o (fun hw=>by rw [T.new b hw] at e;cases e) (x2.keep _ _ e),eg.trans x2.gens,eo.trans x2.os⟩
  have none':∀ b,s2.heap.get? b=none→s.heap.get? b=none:=fun b f=>by
    cases e:s.heap.get? b with
    | none=>rfl
    | some o=>rw [x2.keep _ _ e] at f;cases f
  have gC:=none' _ fC
  have hCp:¬ Place env C:=fun hp=>by obtain ⟨o,ho⟩:=place_alive r.frm hp;rw [gC] at ho;cases ho
  show wpAny _ A (assign (.Name y py) env (.ref D)) _ _ s'
  refine wpAny_assign_Name (store_own' r x1 hy (none' _ fD) hg q fun s3 st r3 hpl=>?_)
  obtain ⟨pl,hpl,hsb⟩:=hpl
  have hn3:s3.heap.Ns C m':=hn.sameBut hsb fun z=>hCp (z ▸ hpl)
  refine ⟨m',hn3,fun h' hs'=>⟨.next,_,ins O y D,hq,rfl,?_,?_⟩⟩
  · have ne:∀ b o,s.heap.get? b=some o→b ≠ C:=fun b o e z=>by rw [z,gC] at e;cases e
    exact ⟨fun b o hp ho e=>hs'.extBut b o (ne b o e) (st.keep b o hp ho e),fun b o e=>let ⟨o',e'⟩:=st.alive b o e;⟨o',hs'.extBut b o' (ne b o e) e'⟩,st.new⟩
  · refine r3.keepZ (t:=s3.toks) (Z:=fun b=>b=C) (fun b o hz e=>hs'.extBut b o hz e) (fun b z=>z ▸ hCp) (fun b z x hx=>?_) (fun b z h=>?_) (fun b z=>?_) (fun b o vs n z e ed=>?_)
    · subst z
      unfold ins at hx
      split at hx
      · exact hDC (Option.some.inj hx)
      · obtain ⟨o,ho⟩:=badO_alive r b (.inr ⟨x,hx⟩);rw [gC] at ho;cases ho
    · subst z;obtain ⟨o,ho⟩:=r.low b h;rw [gC] at ho;cases ho
    · subst z
      cases e:X.h₀.get? b with
      | none=>rfl
      | some o=>rw [r.base _ _ e] at gC;cases gC
    · subst z
      obtain ⟨o',es,ep,ho,hd,_⟩:=hn3
      rw [ho] at e;cases e;rw [hd] at ed;cases ed
theorem ex_assignC {y:Str} {py spos:Pos} {elt t iter:Expr} {ifs:List Expr} {sc:Scope} {p:Pos} {cl:List (Str×Addr)} {items:List PyData} (g:PyData→List PyData) (hit:EvW X k env ρ iter items) (hc:CapOk env ρ ρc sc cl)
    (hb:∀ C,∀ x∈items,ClB X k (compEnvC sc cl C env) ρc t ifs (itemTree elt (compEnvC sc cl C env)) x (g x)) (hz:(items.flatMap g).length≤sizeLine) (hy:Own env y) (hq:Q .next (put ρ y (.own (items.flatMap g))))
    (hsw:swapsWith (.ListComp elt [⟨t,iter,ifs,0⟩] sc p) (some (.Name y py)) spos.line env=pure true:=by rfl) (hs:∀ x,foldedSetIterable iter env x=pure x:=by intro _;rfl) :
    Ex1 X k env ρ (.Assign [.Name y py] (.ListComp elt [⟨t,iter,ifs,0⟩] sc p) spos) Q:=ex_assignCX (tree:=itemTree elt) g hit hc (fun _=>trn_last rfl rfl) hb hz hy hq hsw hs
end
section
variable {X:Cx} {k:Nat} {env:Env} {ρ ρ₁ ρ':List (Str×B)} {Q:Fl→List (Str×B)→Prop}
theorem ex_iadd {x:Str} {p pos:Pos} {e:Expr} {a b:Int} (ha:ρ.lookup x=some (.val (.int a))) (he:Ev X k env ρ e (.int b)) (hx:Own env x) (hq:Q .next (put ρ x (.val (.int (a+b))))):Ex1 X k env ρ (.AugAssign (.Name x p) .Add e pos) Q:=fun A bad O s R r=>by
  obtain ⟨v,lk,q⟩:=r.val x _ ha
  refine wpAny_AugAssign_Name (lk.load r.ok.kind (he.use R r fun u s1 x1 r1 q1=>?_))
  refine q.intE fun t=>q1.intE fun t'=>?_
  have x2:=x1.trans (Ext.toks s1 (s1.toks+1))
  exact iadd_int (store_val (r.ext x2) hx (.int _ _) fun s3 st r3=>⟨.next,_,_,hq,rfl,(Step.of_ext x2).trans st,r3⟩)
theorem ex_assign2 {t₁ t₂ e:Expr} {pos:Pos} {d:PyData} (he:Ev X k env ρ e d) (h1:Asg X k env ρ t₁ d ρ₁) (h2:Asg X k env ρ₁ t₂ d ρ') (hq:Q .next ρ') (hm:(assignEach [t₁,t₂] env).map (·.2)=[assign t₁ env,assign t₂ env]:=by rfl)
    (hw:swappedStores [t₁,t₂] e env=pure none:=by rfl):Ex1 X k env ρ (.Assign [t₁,t₂] e pos) Q:=fun A bad O s R r =>
  wpAny_Assign_two (he.use R r fun v s1 x1 r1 q1=>wpAny_mono (h1 A bad O s1 v R r1 q1) (fun _ s2 p2=>by
    obtain ⟨O2,st2,r2⟩:=p2
    refine wpAny_mono (h2 A bad O2 s2 v R r2 (q1.step r1.frm st2)) (fun _ s3 p3=>?_) fun _ _ x=>x
    obtain ⟨O3,st3,r3⟩:=p3
    exact ⟨.next,_,_,hq,rfl,(Step.of_ext x1).trans (st2.trans st3),r3⟩) fun _ _ x=>x) hm hw
theorem ex_assign3 {t₁ t₂ t₃ e:Expr} {pos:Pos} {d:PyData} {ρ₂:List (Str×B)} (he:Ev X k env ρ e d) (h1:Asg X k env ρ t₁ d ρ₁) (h2:Asg X k env ρ₁ t₂ d ρ₂) (h3:Asg X k env ρ₂ t₃ d ρ') (hq:Q .next ρ') (hm:(assignEach [t₁,t₂,t₃] env).map (·.2)=[assign t₁ env,assign t₂ env,assign t₃ env]:=by rfl)
    (hw:swappedStores [t₁,t₂,t₃] e env=pure none:=by rfl):Ex1 X k env ρ (.Assign [t₁,t₂,t₃] e pos) Q:=fun A bad O s R r =>
  wpAny_Assign_three (he.use R r fun v s1 x1 r1 q1=>wpAny_mono (h1 A bad O s1 v R r1 q1) (fun _ s2 p2=>by
    obtain ⟨O2,st2,r2⟩:=p2
    have q2:=q1.step r1.frm st2
    refine wpAny_mono (h2 A bad O2 s2 v R r2 q2) (fun _ s3 p3=>?_) fun _ _ x=>x
    obtain ⟨O3,st3,r3⟩:=p3
    refine wpAny_mono (h3 A bad O3 s3 v R r3 (q2.step r2.frm st3)) (fun _ s4 p4=>?_) fun _ _ x=>x
    obtain ⟨O4,st4,r4⟩:=p4
    exact ⟨.next,_,_,hq,rfl,(Step.of_ext x1).trans (st2.trans (st3.trans st4)),r4⟩) fun _ _ x=>x) hm hw
theorem ex_assignT {t e:Expr} {pos:Pos} {d:PyData} (he:Ev X k env ρ e d) (h1:Asg X k env ρ t d ρ') (hq:Q .next ρ') (hs:swapsWithSole [t] e pos.line env=pure false) (hw:swappedStores [t] e env=pure none) (hm:(assignEach [t] env).map (·.2)=[assign t env]:=by rfl) :
    Ex1 X k env ρ (.Assign [t] e pos) Q:=fun A bad O s R r=>by
  refine wpAny_Assign_stores (he.use R r fun v s1 x1 r1 q1=>?_) hs hw
  rw [hm]
  refine wpAny_mono (h1 A bad O s1 v R r1 q1) (fun _ s2 p2=>?_) fun _ _ x=>x
  obtain ⟨O2,st2,r2⟩:=p2
  exact ⟨.next,_,_,hq,rfl,(Step.of_ext x1).trans st2,r2⟩
noncomputable def AsgN (X:Cx) (k:Nat) (env:Env) (ρ:List (Str×B)) (xs:List Str) (ds:List PyData) (ρ':List (Str×B)):Prop :=
  ∀ (A:Around) (bad:Addr→Prop) (O:Str→Option Addr) (s:Shared) (vs:List Value),Room k A→Rel X bad O env ρ s→RepL (aS bad O) s.heap ds vs →
    wpAny (model X.prog X.w) A (assignInOrder (xs.map fun n=>bindName env n) vs) (fun _ s'=>∃ O',Step env O O' s s'∧Rel X bad O' env ρ' s') noE s
theorem asgn_nil:AsgN X k env ρ [] [] ρ:=fun A bad O s vs R r q=>by cases q;exact wpAny_pure ⟨O,Step.refl _ _ _,r⟩
theorem bJ {x:Str} {xs:List Str} {d:PyData} {ds:List PyData} (hx:Own env x) (h:AsgN X k env (put ρ x (.val d)) xs ds ρ'):AsgN X k env ρ (x :: xs) (d :: ds) ρ':=fun A bad O s vs R r q=>by
  cases q with
  | cons qv qs =>
    rw [List.map_cons]
    unfold assignInOrder
    refine wpAny_bind (wpAny_holding (wpAny_bindName (store_val r hx qv fun s1 st r1=>?_)))
    refine wpAny_mono (h A bad _ s1 _ R r1 (qs.step r.frm st)) (fun _ s2 p=>?_) fun _ _ x=>x
    obtain ⟨O2,st2,r2⟩:=p
    exact ⟨O2,st.trans st2,r2⟩
theorem RepL.rev {bad:Addr→Prop} {h:Heap} {ds:List PyData} {vs:List Value} (q:RepL bad h ds vs):RepL bad h ds.reverse vs.reverse :=
  q.ind (P:=fun ds vs=>RepL bad h ds.reverse vs.reverse) .nil fun a _ ih=>by rw [List.reverse_cons,List.reverse_cons];exact ih.append (.cons a .nil)
theorem ex_swap {t e:Expr} {pos:Pos} {ds:List PyData} {xs:List Str} (he:Ev X k env ρ e (.tuple ds)) (h1:AsgN X k env ρ xs.reverse ds.reverse ρ') (hq:Q .next ρ') (hl:xs.length=ds.length) (hs:swapsWithSole [t] e pos.line env=pure false) (hw:swappedStores [t] e env=pure (some xs)) :
    Ex1 X k env ρ (.Assign [t] e pos) Q:=fun A bad O s R r=>by
  rw [exec_Assign_arm]
  refine wpAny_bind (wpAny_standAt ?_)
  rw [hs]
  refine wpAny_bind (wpAny_pure ?_)
  rw [if_neg (by decide)]
  refine wpAny_bind (he.use R r fun v s1 x1 r1 q1=>?_)
  rw [hw]
  refine wpAny_bind (wpAny_pure ?_)
  obtain ⟨a,vs,rfl,l,qs⟩:=q1.isTup
  have hz:xs.length=vs.size:=by rw [← Array.length_toList,← qs.length];exact hl
  unfold assignStores
  dsimp only
  rw [hz]
  refine wpAny_bind (wpAny_rule (wpAny_bind (wpAny_unpackItems_tuple R.handled l fun h' he'=>?_)))
  have x2:Ext s1 { s1 with heap:=h' }:=⟨fun b o e=>he' b o (Nat.ne_of_lt (Heap.lt_size e)) e,rfl,rfl⟩
  refine wpAny_bind (wpAny_mono (h1 A bad O { s1 with heap:=h' } vs.toList.reverse R (r1.ext x2) (qs.ext x2).rev) (fun _ s2 p=>wpAny_pure ?_) fun _ _ x=>x)
  obtain ⟨O2,st2,r2⟩:=p
  exact ⟨.next,_,_,hq,rfl,(Step.of_ext (x1.trans x2)).trans st2,r2⟩
end
theorem setItem_plain {prog:Program} {w:World} {A:Around} {E:Value→Shared→Prop} {s:Shared} {l:Addr} {items:Array Value} {n:Nat} {i:Int} {t:Tok} {v:Value} {Q:Unit→Shared→Prop} (ho:s.heap.get? l=some { cls:=.type "list",data:=.seq items n })
    (h0:0≤i) (hfit:i < 2 ^ 63) (hn:i < items.size)
    (hQ:∀ h' n',h'.get? l=some { cls:=.type "list",data:=.seq (items.setIfInBounds i.toNat v) n' }→Heap.SameBut l s.heap h'→Q () { s with heap:=h' }) :
    wpAny (model prog w) A (setItem (.ref l) (.int i t) v) Q E s:=by
  have hl:s.heap.IsList l items:=⟨_,ho,rfl,_,rfl⟩
  unfold setItem
  try with_reducible refine wpAny_holding ?_
  first | refine wpAny_bind (wpAny_pure ?_) | skip
  refine wpAny_bind (wpAny_sequenceKey hl.typeIs (by decide) ?_)
  refine wpAny_bind (wpAny_callSpecial?_slot (name:=Str.ofString "__setitem__") hl.typeIs slot_list_setitem
    (wpAny_call_entry slot_list_setitem hl.typeIs entry_list_setitem ?_ (args_list_setitem _ _ _)))
  show wpAny _ _ (Builtin.List.listSubscript? (.int i t) >>= _) _ _ s
  refine wpAny_bind (wpAny_listSubscript_int (fitsIndex_of h0 hfit) ?_)
  clear hfit
  obtain ⟨j,rfl⟩:=Int.eq_ofNat_of_zero_le h0
  have hj:j < items.size:=by exact aF 0xf11101f1c0c4f rfl hn
  have hx':items[j]?=some items[j]:=Array.getElem?_eq_getElem hj
  show wpAny _ _ ((seqItemAt l j >>= fun r=>pure (r.map (j,·))) >>= _) _ _ s
  refine wpAny_bind (wpAny_bind (wpAny_seqItemAt ho rfl (wpAny_pure ?_)))
  rw [hx']
  show wpAny _ _ (setSeqItemAt l j v >>= _) _ _ s
  have e1:∃ n',Obj.mapSeq (·.setIfInBounds j v) { cls:=.type "list",data:=.seq items n }={ cls:=.type "list",data:=.seq (items.setIfInBounds j v) n' }:=by
    refine ⟨if (items.setIfInBounds j v).size == items.size then n else n+1,?_⟩
    simp [Obj.mapSeq]
  obtain ⟨n',e1⟩:=e1
  have hfin:(s.heap.update l (Obj.mapSeq (·.setIfInBounds j v))).get? l=some { cls:=.type "list",data:=.seq (items.setIfInBounds j v) n' }:=by
    rw [Heap.get?_update_self _ ho (by rw [e1];rfl),e1]
  refine wpAny_bind (wpAny_setSeqItemAt ho rfl ?_)
  first
    | exact wpAny_bind (wpAny_pure (wpAny_pure ⟨.none,rfl,wpAny_pure (hQ _ n' hfin (Heap.SameBut.update ..))⟩))
    | exact wpAny_pure ⟨.none,rfl,wpAny_pure (hQ _ n' hfin (Heap.SameBut.update ..))⟩
section
variable {X:Cx} {k:Nat} {env:Env} {ρ ρ₁ ρ':List (Str×B)} {Q:Fl→List (Str×B)→Prop}
theorem ex_setitem {x:Str} {px p pos:Pos} {i e:Expr} {ds:List PyData} {d:PyData} {j:Nat} (hx:ρ.lookup x=some (.own ds)) (hi:Ev X k env ρ i (.int j)) (he:Ev X k env ρ e d) (hj:j < ds.length) (hz:ds.length≤sizeLine) (hq:Q .next (put ρ x (.own (ds.set j d)))) (hd:(x == ("__debug__":Str))=false:=by decide)
    (hs:swapsWith e (some (.Subscript (.Name x px) i p)) pos.line env=pure false:=by rfl):Ex1 X k env ρ (.Assign [.Subscript (.Name x px) i p] e pos) Q:=fun A bad O s R r=>by
  refine wpAny_Assign_Subscript (he.use R r fun v s1 x1 r1 q1=>?_) hs
  obtain ⟨l,vs,n,ho,lk,g,q⟩:=own_at r1 hx
  refine wpAny_Name (lk.load r.ok.kind ?_) hd
  refine hi.use R r1 fun u s2 x2 r2 q2=>?_
  refine q2.intE fun t=>?_
  have hl:vs.size=ds.length:=by rw [← Array.length_toList,q.length]
  have hz':(sizeLine:Int) < 2 ^ 63:=by decide
  have hzz:(ds.length:Int)≤(sizeLine:Int):=by exact_mod_cast hz
  refine setItem_plain (x2.keep _ _ g) (by exact aQ 0xf10c083ff rfl) (by exact aO 0xf11118000000000000000e90c4f8000000000000000e92c4210101f rfl hj hz hz') (by exact aO 0xf1112c0c4f122101f rfl hj hl) fun h' n' g' hs'=>?_
  obtain ⟨st,r3⟩:=r2.turn (t:=s2.toks) hx ho hs' g' (ds':=ds.set j d) (by
    rw [Array.toList_setIfInBounds]
    exact (q.ext x2).set (q1.ext x2) _)
  exact ⟨.next,_,_,hq,rfl,(Step.of_ext (x1.trans x2)).trans st,r3⟩
end
theorem lookIn_ns {o:Obj} {es:Array DictEntry} {ep:Nat} {name:Str} (hd:o.data=.dict es ep) (hk:StrKeys es):lookIn name o=some (nsFind es name):=by
  unfold lookIn nsFind findBy
  rw [hd]
  dsimp only
  have hr:es.toList.any (·.refKey)=false:=by
    rw [List.any_eq_false]
    intro e he
    obtain ⟨n,t,e'⟩:=hk e (Array.mem_toList_iff.mp he)
    simp [DictEntry.refKey,e']
  rw [← Array.find?_toList]
  cases e:es.toList.find? (·.key.isStr name) with
  | none=>simp [hr]
  | some en=>simp
noncomputable def NsB (h:Heap) (a:Addr) (m:Str→Option Value) (N:Nat):Prop:=∃ o es ep,h.get? a=some o∧o.data=.dict es ep∧StrKeys es∧(∀ name,nsFind es name=m name)∧es.size≤N
theorem NsB.ns {h:Heap} {a:Addr} {m:Str→Option Value} {N:Nat} (n:NsB h a m N):h.Ns a m:=let ⟨o,es,ep,a,b,c,d,_⟩:=n;⟨o,es,ep,a,b,c,d⟩
theorem nsB_set {M:Model} {A:Around} {E:Value→Shared→Prop} {s:Shared} {a:Addr} {m:Str→Option Value} {N:Nat} {name:Str} {v:Value} {Q:Unit→Shared→Prop} (hn:NsB s.heap a m N)
    (h:∀ h',NsB h' a (fun x=>if x=name then some v else m x) (if (m name).isSome then N else N+1)→Heap.SameBut a s.heap h'→Q () { s with heap:=h',toks:=s.toks+1 }):wpAny M A (nsSet a name v) Q E s:=fun Γ p hΓ=>by
  obtain ⟨o,es,ep,ho,hd,hk,hm,hN⟩:=hn
  simp only [nsSet,strHash,Sem.wp_bind',Sem.wp_cmd_ask,Sem.wp_pure',Sem.wp_cmd_mkText]
  rw [Sem.wp_loadPart_of M Γ _ p { s with toks:=s.toks+1 } (o:=o) _ ho]
  have hany:es.any (·.refKey)=false:=by
    rw [Array.any_eq_false'];intro e he;obtain ⟨n,t,h⟩:=hk e he;simp [DictEntry.refKey,h]
  simp only [hd,aRefKeyMayBeTheName_eq,aRefKeyMayBeTheNameByArray,hany,Bool.and_false,Bool.false_eq_true,if_false,Sem.wp_cmd_updatePart]
  refine ⟨by rw [ho];rfl,h _ ?_ (Heap.SameBut.update ..)⟩
  obtain ⟨c,d,dt,sl⟩:=o
  subst hd
  cases hi:es.findIdx? (·.key.isStr name) with
  | some i =>
    refine ⟨_,_,ep,Heap.get?_update_self _ ho (by simp only [Obj.putName_eq,Obj.putNameByArray,hi];rfl),by simp only [Obj.putName_eq,Obj.putNameByArray,hi];rfl,hk.modify _ _,fun x=>?_,?_⟩
    · show _=if x=name then some v else m x
      rw [← hm];exact findBy_modify (fun n v=>v.isStr n) Value.isStr_inj es name x v i hi
    · rw [Array.size_modify];split <;> lia
  | none =>
    refine ⟨_,_,ep+1,Heap.get?_update_self _ ho (by simp only [Obj.putName_eq,Obj.putNameByArray,hi];rfl),by simp only [Obj.putName_eq,Obj.putNameByArray,hi];rfl,hk.push _ _ _ _,fun x=>?_,?_⟩
    · show _=if x=name then some v else m x
      rw [← hm]
      exact findBy_push (fun n v=>v.isStr n) es name x _ _ v (fun y=>by
        show (name == y)=decide (y=name)
        by_cases h:y=name
        · subst h;simp
        · simp [h,Ne.symm h]) hi
    · rw [Array.size_push]
      have:m name=none:=by
        rw [← hm]
        unfold nsFind findBy
        have:es.find? (·.key.isStr name)=none:=by
          rw [Array.findIdx?_eq_none_iff] at hi
          rw [Array.find?_eq_none]
          intro e he;simp [hi e he]
        rw [this];rfl
      rw [this];simp;exact hN
structure Inst (h:Heap) (C x dx:Addr) (m:Str→Option Value) (N:Nat):Prop where
  obj:h.get? x=some (instObj C dx)
  nsb:NsB h dx m N
theorem Inst.ns {h:Heap} {C x dx:Addr} {m:Str→Option Value} {N:Nat} (I:Inst h C x dx m N):h.Ns dx m:=I.nsb.ns
theorem Inst.at {h:Heap} {C x dx:Addr} {m:Str→Option Value} {N:Nat} (I:Inst h C x dx m N):∃ od,InstAt h x (instObj C dx) C (some od)∧∀ name,lookIn name od=some (m name):=by
  obtain ⟨o,es,ep,ho,hd,hk,hf⟩:=I.ns
  exact ⟨o,⟨I.obj,rfl,rfl,ho⟩,fun name=>by rw [lookIn_ns hd hk,hf]⟩
structure ClsOk (K:Frag) (C:Addr) (cd:ClassData):Prop where
  cls:clsIn K C=some cd
  dict:cd.hasDict=true
  ga:findIn K (.ref C) "__getattribute__"=some (some (.builtin "object.__getattribute__"))
  gt:findIn K (.ref C) "__getattr__"=some none
  sa:findIn K (.ref C) "__setattr__"=some (some (.builtin "object.__setattr__"))
  plain:plainOver K C=true
section
variable {prog:Program} {w:World} {A:Around} {E:Value→Shared→Prop} {s:Shared} {K:Frag} {C x dx:Addr} {cd:ClassData} {m:Str→Option Value} {name:Str} {N:Nat}
theorem attr_get {expr:Bool} {v:Value} {Q:Value→Shared→Prop} (X:K.In s.heap) (I:Inst s.heap C x dx m N) (hC:ClsOk K C cd) (hn:findIn K (.ref C) name=some none) (hm:m name=some v) (hv:handedIn v=true) (h:Q v { s with toks:=s.toks+1 }) :
    wpAny (model prog w) A (getAttr (.ref x) name expr) Q E s:=by
  obtain ⟨od,J,hl⟩:=I.at
  refine get_value X J hC.ga (v:=v) ?_ hv h
  unfold findObj
  rw [hC.cls,Option.bind_some,hn,Option.bind_some]
  unfold W.ownOf
  rw [hC.dict,if_pos rfl]
  dsimp only
  rw [Option.bind_some,Option.bind_some,hl,hm,Option.bind_some]
theorem attr_method {pl:Sem Bool} {f:Addr} {Q:Value×List Value→Shared→Prop} (X:K.In s.heap) (I:Inst s.heap C x dx m N) (hC:ClsOk K C cd) (hf:findIn K (.ref C) name=some (some (.ref f))) (ht:typeIn K (.ref f)=some (.type "function")) (hm:m name=none) (h:Q (.ref f,[.ref x]) s) :
    wpAny (model prog w) A (getMethod (.ref x) name pl) Q E s:=by
  obtain ⟨od,J,hl⟩:=I.at
  exact method_fn X J hC.ga hC.gt hf ht (by show (lookIn name od).map (·.isSome)=_;rw [hl,hm];rfl) h
theorem attr_set {v:Value} {Q:Unit→Shared→Prop} (X:K.In s.heap) (I:Inst s.heap C x dx m N) (hC:ClsOk K C cd) (hn:takerIn K C name=some none) (hN:N < 1000)
    (h:∀ h' t,Inst h' C x dx (fun y=>if y=name then some v else m y) (if (m name).isSome then N else N+1)→Heap.SameBut dx s.heap h'→Q () { s with heap:=h',toks:=t }) :
    wpAny (model prog w) A (setAttr (.ref x) name v) Q E s:=by
  obtain ⟨od,J,hl⟩:=I.at
  have hxd:x ≠ dx:=fun e=>by
    obtain ⟨o,es,ep,ho,hd,_⟩:=I.ns
    rw [← e,I.obj] at ho;cases ho;cases hd
  refine set_plain X J hC.sa (osa_open (s:={ s with toks:=s.toks+1 }) X J hC.plain hn fun b=>?_)
  dsimp only
  refine wpAny_bind (wpAny_pure (wpAny_bind (wpAny_bind (wpAny_loadPart I.obj (wpAny_bind ((looks_clsIn (h:=s.heap) X hC.cls) _ _ _ _ (fun _ _ e=>e) ?_))))))
  rw [hC.dict]
  refine wpAny_pure (a:=some dx) (wpAny_bind (wpAny_pure (wpAny_bind ?_)))
  refine nsB_set (s:={ s with toks:=s.toks+1 }) I.nsb fun h' hn' hs'=>?_
  have hn2:=hn'
  obtain ⟨o,es,ep,ho,hd,_,_,hz⟩:=hn2
  refine wpAny_bind (wpAny_lookBehind ho (by rw [hd];exact pastItsLine_dict (by rw [sizeLine_eq];split at hz <;> lia)) ?_)
  exact wpAny_pure (h h' _ ⟨(hs'.2 x hxd).trans I.obj,hn'⟩ hs')
end
inductive BindOk (bad:Addr→Prop) (h:Heap):B→Value→Prop
  | val {d:PyData} {v:Value}:Rep bad h d v→BindOk bad h (.val d) v
  | raw (v:Value):BindOk bad h (.raw v) v
inductive BindsOk (bad:Addr→Prop) (h:Heap):List B→List Value→Prop
  | nil:BindsOk bad h [] []
  | cons {b:B} {bs:List B} {v:Value} {vs:List Value}:BindOk bad h b v→BindsOk bad h bs vs→BindsOk bad h (b :: bs) (v :: vs)
theorem lookup_zip_b:∀ {names:List Str} {bs:List B} {vs:List Value} {bad:Addr→Prop} {h:Heap} {x:Str} {b:B},BindsOk bad h bs vs→(names.zip bs).lookup x=some b →
    ∃ v,(x,v)∈names.zip vs∧BindOk bad h b v
  | [],_,_,_,_,_,_,_,e=>by simp at e
  | n :: names,[],_,_,_,_,_,_,e=>by simp at e
  | n :: names,c :: bs,_,bad,h,x,b,.cons (v:=v) (vs:=vs) r q,e=>by
    simp only [List.zip_cons_cons,List.lookup_cons] at e
    split at e
    · rename_i hx
      cases e
      have:=beq_iff_eq.mp hx
      subst this
      exact ⟨v,.head _,r⟩
    · obtain ⟨v',m,q'⟩:=lookup_zip_b q e
      exact ⟨v',.tail _ m,q'⟩
structure DefAt (X:Cx) (f:Addr) (fd:FuncData) (body:List Stmt) (names:List Str):Prop where
  obj:∃ o,X.h₀.get? f=some o∧o.data=.func fd
  code:X.h₀.CodeRec fd.code fd.qualname
  body:fd.body=.stmts body
  clo:fd.closure=[]
  g:fd.globals=mainGlobals
  b:fd.builtins=builtinsNs
  bind:∀ (s:Shared) (vs:List Value),(∀ b o,X.h₀.get? b=some o→s.heap.get? b=some o)→vs.length=names.length→BindsTo s fd ⟨vs,[]⟩ (names.zip vs)
  nodup:names.Nodup
  par:∀ x∈names,fd.scope.names.lookup x=some .local∨(fd.scope.names.lookup x=some .cell∧∀ n,((cellsFrom n fd.scope.names []).lookup x).isSome=true)
  co:fd.scope.isCoroutine=false
  gen:fd.scope.isGenerator=false
  kind:fd.scope.kind=.function
theorem call_cellsB {prog:Program} {w:World} {A:Around} {s:Shared} {R:Result→Shared→Prop} {a:Addr} {o:Obj} {fd:FuncData} {body:List Stmt} {vals:List Value} {binds:List (Str×Value)}
    (hroom:A.depth < recursionLimit) (ho:s.heap.get? a=some o) (hdata:o.data=.func fd) (hlim:s.heap.NoLimit) (hcd:s.heap.CodeRec fd.code fd.qualname)
    (hbody:fd.body=.stmts body) (hbind:BindsTo s fd ⟨vals,[]⟩ binds) (hclo:fd.closure=[])
    (hkind:∀ x∈binds,fd.scope.names.lookup x.1=some .local∨(fd.scope.names.lookup x.1=some .cell∧((cellsFrom (s.heap.objs.size+1) fd.scope.names []).lookup x.1).isSome=true))
    (h:∀ s₁,InCallC s (callEnvC fd s.heap.objs.size a).locals (bindL (callEnvC fd s.heap.objs.size a).kindOf binds fun _=>none) (callEnvC fd s.heap.objs.size a).cells
        (bindC (callEnvC fd s.heap.objs.size a).kindOf binds fun _=>none) s₁ →
      wpAny (model prog w) (A.deeper (callEnvC fd s.heap.objs.size a)) (execs body (callEnvC fd s.heap.objs.size a)) (fun f s'=>R (.ok (.ret (match f with | .ret v=>v | _=>.none))) s')
        (fun e s'=>wpAny (model prog w) (A.deeper (callEnvC fd s.heap.objs.size a)) (leaving (callEnvC fd s.heap.objs.size a) e) (fun _ s''=>R (.error e) s'') (fun e' s''=>R (.error e') s'') s') s₁)
    (hco:fd.scope.isCoroutine=false) (hgen:fd.scope.isGenerator=false) (hk:fd.scope.kind=.function) :
    codeAny (model prog w) A (.call (.ref a) ⟨vals,[]⟩) R s:=by
  refine codeAny_call_function hroom ho hdata hco hgen hbody hcd (hbind _ _ _ _ ?_)
  rw [hclo]
  refine wpAny_newFunctionEnv_cells hk hkind fun env he s' x=>?_
  subst he
  exact ⟨hlim.keeps x.toInCall.keep,codeAny_func (h s' x)⟩
noncomputable def Back (R:Result→Shared→Prop) (f:Flow) (s':Shared):Prop:=R (.ok (.ret (match f with | .ret v=>v | _=>.none))) s'
theorem call_body {X:Cx} {k:Nat} {f:Addr} {fd:FuncData} {body:List Stmt} {names:List Str} (D:DefAt X f fd body names) {A:Around} {bad:Addr→Prop} {s:Shared} {vs:List Value} {bs:List B} {R:Result→Shared→Prop} (Rm:Room (k+1) A) (a:At X s)
    (low:∀ a,bad a→∃ o,s.heap.get? a=some o) (hdat:∀ d v,X.dat d v→Rep bad X.h₀ d v) (q:BindsOk bad s.heap bs vs) (hl:vs.length=names.length)
    (h:∀ L A' s₁,Room k A'→Rel X bad nO (callEnvC fd L f) (names.zip bs) s₁→(∀ b o,s.heap.get? b=some o→s₁.heap.get? b=some o)→(∀ b o,s.heap.get? b=some o→¬ Place (callEnvC fd L f) b)→s₁.gens=s.gens→s₁.os=s.os →
      wpAny (model X.prog X.w) A' (execs body (callEnvC fd L f)) (Back R) noE s₁) :
    codeAny (model X.prog X.w) A (.call (.ref f) ⟨vs,[]⟩) R s:=by
  obtain ⟨o,ho,hdata⟩:=D.obj
  refine call_cellsB (o:=o) (fd:=fd) (body:=body) (binds:=names.zip vs) (by have:=Rm.depth;show A.depth < 1000;exact aF 0xf113e81901f38419181a0ab0a0f rfl this) (a.base _ _ ho) hdata (a.wf.nolimit.keeps a.base) (D.code.keeps a.base) D.body (D.bind s vs a.base hl) D.clo (fun x hx=>?_) (fun s₁ I=>?_) D.co D.gen D.kind
  · rcases D.par x.1 (List.of_mem_zip (a:=x.1) (b:=x.2) hx).1 with e | ⟨e,e'⟩
    · exact .inl e
    · exact .inr ⟨e,e' _⟩
  · obtain ⟨⟨⟨h',tk,rfl⟩,ns,keep,fresh⟩,cell,apart,above⟩:=I
    have nodup:=zip_fst_nodup (vs:=vs) D.nodup
    have hnone:∀ c,s.heap.objs.size≤c→X.h₀.get? c=none:=fun c hc=>by
      cases e:X.h₀.get? c with
      | none=>rfl
      | some o=>exact absurd (Heap.lt_size (a.base _ _ e)) (Nat.not_lt.mpr hc)
    have hcs:∀ n c,(callEnvC fd s.heap.objs.size f).cells.lookup n=some c→s.heap.objs.size < c:=fun n c e=>above n c (mem_of_lookup e)
    have hpl:∀ b o,s.heap.get? b=some o→¬ Place (callEnvC fd s.heap.objs.size f) b:=fun b o e hp=>by
      have:=Heap.lt_size e
      rcases hp with rfl | ⟨n,hn⟩
      · exact Nat.lt_irrefl _ this
      · exact Nat.lt_irrefl _ (Nat.lt_trans this (hcs n b hn))
    have hlk:∀ x v,(x,v)∈names.zip vs→Lk h' (callEnvC fd s.heap.objs.size f) x v:=fun x v hm=>by
      rcases D.par x (List.of_mem_zip hm).1 with e | ⟨e,e'⟩
      · exact .inl ⟨e,_,ns,bindL_get (kindOf:=(callEnvC fd s.heap.objs.size f).kindOf) e _ _ nodup hm⟩
      · obtain ⟨c,hc⟩:=Option.isSome_iff_exists.mp (e' (s.heap.objs.size+1))
        refine .inr (.inl ⟨e,c,hc,?_⟩)
        have:=cell x c hc
        rwa [bindC_get (kindOf:=(callEnvC fd s.heap.objs.size f).kindOf) (by show fd.scope.names.lookup x ≠ _;rw [e];exact fun q=>by cases q) _ _ nodup hm] at this
    have r:Rel X bad nO (callEnvC fd s.heap.objs.size f) (names.zip bs) { s with heap:=h',toks:=tk }:={
      wf:=a.wf
      base:=fun b o e=>keep _ _ (a.base b o e)
      gens:=a.gens
      os:=a.os
      ok:=⟨D.kind,D.g,D.b⟩
      frm:=⟨⟨_,ns⟩,fun n c e=>⟨_,cell n c e⟩,fun n c e=>Nat.ne_of_gt (hcs n c e),fun n n' c e e'=>name_of_addr apart (mem_of_lookup e) (mem_of_lookup e'),hnone _ (Nat.le_refl _),fun n c e=>hnone _ (Nat.le_of_lt (hcs n c e))⟩
      holds:=fun x b e=>by
        obtain ⟨v,hm,bo⟩:=lookup_zip_b q e
        cases bo with
        | val rv=>exact .val (hlk x v hm) (rv.map fun a o _ _ hb e _=>⟨fun h=>hb (badO_nO h),keep _ _ e⟩)
        | raw=>exact .raw (hlk x v hm)
      inj:=fun x y l e=>by cases e
      low:=fun b e=>let ⟨o,ho⟩:=low b e;⟨o,keep _ _ ho⟩
      good:=fun x l e=>by cases e
      dat:=hdat }
    refine wpAny_mono (h s.heap.objs.size _ _ ⟨Rm.handled,?_,?_⟩ r keep hpl rfl rfl) (fun fl s' p=>p) fun _ _ x=>x.elim
    · have:=Rm.depth;show A.depth+1+_≤_;exact aF 0xf113841910ab180aa0f38419181a0ab0a0f rfl this
    · have:=Rm.units;show A.units+3+_≤_;exact aF 0xf11232829164b380aa0f232829181a64b0a0f rfl this
noncomputable abbrev aM (ρ:List (Str×B)) (x:Str) (b:B):Prop:=ρ.lookup x=some b
section
variable {X:Cx} {k:Nat} {env:Env} {ρ:List (Str×B)} {Q:Fl→List (Str×B)→Prop}
theorem Lk.keepP {h h':Heap} {x:Str} {v:Value} (l:Lk h env x v) (k:∀ b o,Place env b→h.get? b=some o→h'.get? b=some o):Lk h' env x v:=by
  rcases l with ⟨a,m',b,e⟩ | ⟨a,d,b,e⟩ | ⟨a,n,d,b,e⟩
  · exact .inl ⟨a,m',b.at' fun o ho=>k _ o (.inl rfl) ho,e⟩
  · obtain ⟨o,ho,hd⟩:=e;exact .inr (.inl ⟨a,d,b,o,k _ o (.inr ⟨x,b⟩) ho,hd⟩)
  · obtain ⟨o,ho,hd⟩:=e;exact .inr (.inr ⟨a,n,d,b,o,k _ o (.inr ⟨x,b⟩) ho,hd⟩)
theorem FrameOk.keepP {h₀ h h':Heap} (f:FrameOk h₀ env h) (k:∀ b o,Place env b→h.get? b=some o→h'.get? b=some o):FrameOk h₀ env h' :=
  ⟨let ⟨m,a⟩:=f.ns;⟨m,a.at' fun o ho=>k _ o (.inl rfl) ho⟩,fun n c e=>let ⟨v,o,ho,hd⟩:=f.cell n c e;⟨v,o,k _ o (.inr ⟨n,e⟩) ho,hd⟩,f.ne,f.inj,f.new,f.newc⟩
theorem Rel.at_change {bad:Addr→Prop} {O:Str→Option Addr} {s s':Shared} {x:Str} {a:Addr} {o o':Obj} (r:Rel X bad O env ρ s) (hx:ρ.lookup x=some (.at a o))
    (hk:∀ b o,b ≠ a→s.heap.get? b=some o→s'.heap.get? b=some o) (ha:s'.heap.get? a=some o') (hg:s'.gens=s.gens) (hos:s'.os=s.os) :
    Step env O O s s'∧Rel X bad O env (put ρ x (.at a o')) s':=by
  obtain ⟨hO,hcur⟩:=r.pt x a o hx
  obtain ⟨nbad,n0,np,_⟩:=r.good x a hO
  have kq:KeepSeq (aS bad O) s.heap s'.heap:=fun b o _ _ hb e _=>hk b o (fun q=>hb (q ▸ .inr ⟨x,hO⟩)) e
  have al:∀ b o,s.heap.get? b=some o→∃ o',s'.heap.get? b=some o':=fun b o e=>by
    by_cases q:b=a
    · exact ⟨o',q ▸ ha⟩
    · exact ⟨o,hk b o q e⟩
  have kp:∀ b o,Place env b→s.heap.get? b=some o→s'.heap.get? b=some o:=fun b o hp e=>hk b o (fun q=>np (q ▸ hp)) e
  exact ⟨⟨fun b o hb hO' e=>hk b o (fun q=>hO' x (q ▸ hO)) e,al,fun y l e=>.inl ⟨y,e⟩⟩,r.turns (fun b o e=>hk b o (fun q=>by rw [q,n0] at e;cases e) (r.base b o e)) hg hos (r.frm.keepP kp) al hO trivial (.at hO ha) fun y c hy h =>
    h.move (fun _ l=>l.keepP kp) (fun _ e=>e) (fun l ob h=>hk l ob fun z=>hy (r.inj y x a (z ▸ h) hO)) kq.map⟩
theorem Rel.at_take {bad:Addr→Prop} {O:Str→Option Addr} {s:Shared} {x:Str} {a:Addr} {o:Obj} (r:Rel X bad O env ρ s) (ho:s.heap.get? a=some o) (hn:∀ vs n,o.data ≠ .seq vs n) (h0:X.h₀.get? a=none) (hp:¬ Place env a) (hb:¬ aS bad O a) :
    Rel X bad (ins O x a) env (put ρ x (.at a o)) s:=by
  exact r.joins r.base rfl rfl r.frm (fun b o e=>⟨o,e⟩) hb h0 hp trivial (.at ins_self ho) fun y c hy h=>h.move (fun _ l=>l) (fun _=>ins_ne hy) (fun _ _ _ e=>e) fun b ob vs n hb e ed=>⟨fun h=>(badO_ins h).elim hb fun q=>(by subst q;rw [ho] at e;cases e;exact hn vs n ed),e⟩
theorem Rel.at_new {bad:Addr→Prop} {O:Str→Option Addr} {s s1:Shared} (x:Str) {a:Addr} {o:Obj} (r:Rel X bad O env ρ s) (x1:Ext s s1) (hl:s.heap.get? a=none) (ho:s1.heap.get? a=some o) :
    Step env O (ins O x a) s s1∧Rel X bad (ins O x a) env (put ρ x (.at a o)) s1:=by
  have hb:¬ aS bad O a:=new_good r hl
  have hp:¬ Place env a:=fun h=>by obtain ⟨o,ho⟩:=place_alive r.frm h;rw [hl] at ho;cases ho
  exact ⟨⟨fun b o _ _ e=>x1.keep _ _ e,fun b o e=>⟨o,x1.keep _ _ e⟩,fun y l e=>(ins_some e).elim (fun h=>.inr (h.2 ▸ hl)) fun h=>.inl ⟨y,h.2⟩⟩,
    r.joins (fun b o e=>x1.keep _ _ (r.base b o e)) x1.gens x1.os (r.frm.keep x1.keep) (fun b o e=>⟨o,x1.keep _ _ e⟩) hb (r.none0 hl) hp trivial (.at ins_self ho) fun y c hy h =>
      h.move (fun _ l=>l.keep x1.keep) (fun _=>ins_ne hy) (fun _ _ _ e=>x1.keep _ _ e) fun b ob _ _ hb e _=>⟨fun h=>(badO_ins h).elim hb fun q=>(by rw [q,hl] at e;cases e),x1.keep _ _ e⟩⟩
theorem badO_moved {bad:Addr→Prop} {O:Str→Option Addr} {x y:Str} {l a:Addr} (hO:O x=some l) (h:aS bad (ins (del O x) y l) a):aS bad O a:=(badO_ins h).elim badO_del fun e=>.inr ⟨x,e ▸ hO⟩
theorem Rel.moved {bad:Addr→Prop} {O:Str→Option Addr} {s:Shared} {x y:Str} {l:Addr} {b:B} (r:Rel X bad O env ρ s) (hO:O x=some l) (hb:b.owns) (hold:Holds bad (ins (del O x) y l) env s y b) :
    Step env O (ins (del O x) y l) s s∧Rel X bad (ins (del O x) y l) env (put (put ρ x .free) y b) s :=
  have g:=r.good x l hO
  ⟨⟨fun _ _ _ _ e=>e,fun b o e=>⟨o,e⟩,fun z l' e=>(ins_some e).elim (fun h=>.inl ⟨x,h.2 ▸ hO⟩) fun h=>.inl ⟨z,(del_some h.2).2⟩⟩,{
    wf:=r.wf
    base:=r.base
    gens:=r.gens
    os:=r.os
    ok:=r.ok
    frm:=r.frm
    holds:=fun z c e=>by
      rcases put_some e with ⟨h,h'⟩ | ⟨hz,e⟩
      · rw [h,h'];exact hold
      · rcases put_some e with ⟨_,h'⟩ | ⟨hx,e⟩
        · rw [h'];exact .free
        · exact (r.holds z c e).move (fun _ l=>l) (fun _ h=>ins_ne hz (del_ne hx h)) (fun _ _ _ e=>e) fun a o _ _ h e _=>⟨fun h'=>h (badO_moved hO h'),e⟩
    inj:=fun z z' l' e e'=>by
      rcases ins_some e with ⟨h,q⟩ | ⟨_,e⟩
      · rcases ins_some e' with ⟨h',_⟩ | ⟨_,e'⟩
        · exact h.trans h'.symm
        · obtain ⟨n,e'⟩:=del_some e';exact absurd (r.inj z' x l' e' (q ▸ hO)) n
      · obtain ⟨n,e⟩:=del_some e
        rcases ins_some e' with ⟨_,q⟩ | ⟨_,e'⟩
        · exact absurd (r.inj z x l' e (q ▸ hO)) n
        · exact r.inj z z' l' e (del_some e').2
    low:=r.low
    good:=fun z l' e=>by
      rcases ins_some e with ⟨h,q⟩ | ⟨h,e⟩
      · subst h q;exact ⟨g.1,g.2.1,g.2.2.1,b,hs,hb⟩
      · obtain ⟨n,e⟩:=del_some e;exact GoodAt.pt (GoodAt.pt (r.good z l' e) n) h
    dat:=r.dat }⟩
theorem exs_rekey {x y:Str} {a:Addr} {o:Obj} {ss:List Stmt} (hx:ρ.lookup x=some (.at a o)) (hne:x ≠ y) (h:Exs X k env (put (put ρ x .free) y (.at a o)) ss Q):Exs X k env ρ ss Q:=fun A bad O s R r=>by
  obtain ⟨hO,hcur⟩:=r.pt x a o hx
  obtain ⟨st,r'⟩:=r.moved (y:=y) (b:=.at a o) hO trivial (.at ins_self hcur)
  exact h.from R st r'
end
noncomputable def Cx.on (X:Cx) (h:Heap) (D:PyData→Value→Prop):Cx:={ X with h₀:=h,dat:=D }
theorem Wf.on {X:Cx} (w:Wf X) {h:Heap} {D:PyData→Value→Prop} (k:∀ b o,X.h₀.get? b=some o→h.get? b=some o):Wf (X.on h D):=⟨w.nolimit.keeps k,w.g.keeps k,w.b.keeps k,w.gl,w.kin.keeps k⟩
theorem DefAt.on {X:Cx} {f:Addr} {fd:FuncData} {body:List Stmt} {names:List Str} (D:DefAt X f fd body names) {h:Heap} {D':PyData→Value→Prop} (k:∀ b o,X.h₀.get? b=some o→h.get? b=some o):DefAt (X.on h D') f fd body names :=
  ⟨let ⟨o,a,b⟩:=D.obj;⟨o,k _ _ a,b⟩,D.code.keeps k,D.body,D.clo,D.g,D.b,fun s vs kb hl=>D.bind s vs (fun b o e=>kb b o (k b o e)) hl,D.nodup,D.par,D.co,D.gen,D.kind⟩
section
variable {X:Cx} {k:Nat} {env:Env} {ρ:List (Str×B)} {Q:Fl→List (Str×B)→Prop}
noncomputable def EvV (X:Cx) (k:Nat) (env:Env) (ρ:List (Str×B)) (e:Expr) (v:Value):Prop :=
  ∀ (A:Around) (bad:Addr→Prop) (O:Str→Option Addr) (s:Shared),Room k A→Rel X bad O env ρ s →
    wpAny (model X.prog X.w) A (eval e env) (fun u s'=>Ext s s'∧u=v) noE s
theorem EvV.use {e:Expr} {v:Value} (h:EvV X k env ρ e v) {A:Around} {bad:Addr→Prop} {O:Str→Option Addr} {s:Shared} {P:Value→Shared→Prop} (R:Room k A) (r:Rel X bad O env ρ s)
    (hq:∀ s',Ext s s'→Rel X bad O env ρ s'→P v s'):wpAny (model X.prog X.w) A (eval e env) P noE s :=
  wpAny_mono (h A bad O s R r) (fun u s' q=>q.2 ▸ hq s' q.1 (r.ext q.1)) fun _ _ x=>x
theorem bG {x:Str} {pos:Pos} {v:Value} (h:ρ.lookup x=some (.raw v)) (hd:(x == ("__debug__":Str))=false:=by decide):EvV X k env ρ (.Name x pos) v:=fun A bad O s R r =>
  wpAny_Name (Lk.load r.ok.kind (r.raw x v h) ⟨Ext.refl s,rfl⟩) hd
theorem evv_none {n:Nat} {pos:Pos}:EvV X k env ρ (.Constant .none n pos) .none:=fun _ _ _ s _ _=>wpAny_pure (a:=Value.none) ⟨Ext.refl s,rfl⟩
theorem ev_ofV {e:Expr} {v:Value} {d:PyData} (h:EvV X k env ρ e v) (hd:X.dat d v):Ev X k env ρ e d:=fun A bad O s R r=>h.use R r fun s1 x1 r1=>⟨x1,r1.datR hd⟩
theorem ev_ofBool {e:Expr} {b:Bool} (h:EvV X k env ρ e (.bool b)):Ev X k env ρ e (.bool b):=fun A bad O s R r=>h.use R r fun s1 x1 r1=>⟨x1,.bool _⟩
noncomputable def EvVL (X:Cx) (k:Nat) (env:Env) (ρ:List (Str×B)) (pos:Pos) (es:List Expr) (vs:List Value):Prop :=
  ∀ (A:Around) (bad:Addr→Prop) (O:Str→Option Addr) (s:Shared),Room k A→Rel X bad O env ρ s →
    wpAny (model X.prog X.w) A (spliced (backTo pos (starEach es env))) (fun us s'=>Ext s s'∧us=vs) noE s
theorem evvl_nil {pos:Pos}:EvVL X k env ρ pos [] []:=fun A bad O s R r=>wpAny_items_nil ⟨Ext.refl s,rfl⟩
theorem evvl_cons {pos:Pos} {e:Expr} {es:List Expr} {v:Value} {vs:List Value} (h:EvV X k env ρ e v) (hs:EvVL X k env ρ pos es vs)
    (he:starEach (e :: es) env=(false,eval e env) :: starEach es env:=by rfl):EvVL X k env ρ pos (e :: es) (v :: vs):=fun A bad O s R r =>
  wpAny_items_cons (h.use R r fun s1 x1 r1=>wpAny_mono (hs A bad O s1 R r1) (fun us s2 q2=>⟨x1.trans q2.1,by rw [q2.2]⟩) fun _ _ x=>x) he
noncomputable def AObj (o:Obj) (m:Str→Option Value) (N:Nat):Prop:=∃ es ep,o.data=.dict es ep∧StrKeys es∧(∀ name,nsFind es name=m name)∧es.size≤N
theorem AObj.noseq {o:Obj} {m:Str→Option Value} {N:Nat} (h:AObj o m N):∀ vs n,o.data ≠ .seq vs n:=fun vs n e=>by obtain ⟨es,ep,hd,_⟩:=h;rw [hd] at e;cases e
theorem AObj.nsb {h:Heap} {a:Addr} {o:Obj} {m:Str→Option Value} {N:Nat} (q:AObj o m N) (ho:h.get? a=some o):NsB h a m N:=let ⟨es,ep,hd,hk,hm,hz⟩:=q;⟨o,es,ep,ho,hd,hk,hm,hz⟩
theorem NsB.aobj {h:Heap} {a:Addr} {m:Str→Option Value} {N:Nat} (q:NsB h a m N):∃ o,h.get? a=some o∧AObj o m N:=let ⟨o,es,ep,ho,hd,hk,hm,hz⟩:=q;⟨o,ho,es,ep,hd,hk,hm,hz⟩
theorem AObj.mono {o:Obj} {m:Str→Option Value} {N N':Nat} (q:AObj o m N) (h:N≤N'):AObj o m N':=let ⟨es,ep,hd,hk,hm,hz⟩:=q;⟨es,ep,hd,hk,hm,Nat.le_trans hz h⟩
structure SelfD (X:Cx) (ρ:List (Str×B)) (C x dx:Addr) (key:Str) (m:Str→Option Value) (N:Nat):Prop where
  obj:X.h₀.get? x=some (instObj C dx)
  dict:(∃ o,ρ.lookup key=some (.at dx o)∧AObj o m N)∨(∃ o,X.h₀.get? dx=some o∧AObj o m N)
theorem SelfD.inst {C x dx:Addr} {key:Str} {m:Str→Option Value} {N:Nat} (S:SelfD X ρ C x dx key m N) {bad:Addr→Prop} {O:Str→Option Addr} {s:Shared} (r:Rel X bad O env ρ s):Inst s.heap C x dx m N :=
  ⟨r.base _ _ S.obj,by
    rcases S.dict with ⟨o,ho,q⟩ | ⟨o,ho,q⟩
    · exact q.nsb (r.pt _ _ _ ho).2
    · exact q.nsb (r.base _ _ ho)⟩
theorem evv_attr {C x dx:Addr} {cd:ClassData} {key:Str} {m:Str→Option Value} {N:Nat} {y name:Str} {yp pos:Pos} {v:Value} (hy:ρ.lookup y=some (.raw (.ref x))) (S:SelfD X ρ C x dx key m N) (hC:ClsOk X.K C cd)
    (hn:findIn X.K (.ref C) name=some none) (hm:m name=some v) (hv:handedIn v=true:=by rfl) (hd:(y == ("__debug__":Str))=false:=by decide):EvV X k env ρ (.Attribute (.Name y yp) name pos) v:=fun A bad O s R r =>
  Attribute_name ((bG hy hd).use R r fun s1 x1 r1=>attr_get (r1.wf.kin.keeps r1.base) (S.inst r1) hC hn hm hv ⟨x1.trans (Ext.toks _ _),rfl⟩)
noncomputable def AsgV (X:Cx) (k:Nat) (env:Env) (ρ:List (Str×B)) (t:Expr) (v:Value) (P:List (Str×B)→Prop):Prop :=
  ∀ (A:Around) (bad:Addr→Prop) (O:Str→Option Addr) (s:Shared),Room k A→Rel X bad O env ρ s →
    wpAny (model X.prog X.w) A (assign t env v) (fun _ s'=>∃ O' ρ',P ρ'∧Step env O O' s s'∧Rel X bad O' env ρ' s') noE s
theorem asgv_name {x:Str} {p:Pos} {v:Value} {P:List (Str×B)→Prop} (hx:Own env x) (h:P (put ρ x (.raw v))):AsgV X k env ρ (.Name x p) v P:=fun A bad O s R r =>
  wpAny_assign_Name (store_raw r hx fun s' st r' _=>⟨_,_,h,st,r'⟩)
noncomputable def upd (m:Str→Option Value) (name:Str) (v:Value):Str→Option Value:=fun y=>if y=name then some v else m y
theorem bN {C x dx:Addr} {cd:ClassData} {key:Str} {m:Str→Option Value} {N:Nat} {o:Obj} {y name:Str} {yp pos:Pos} {v:Value} {P:List (Str×B)→Prop} (hy:ρ.lookup y=some (.raw (.ref x))) (hx:X.h₀.get? x=some (instObj C dx)) (hk:ρ.lookup key=some (.at dx o)) (ha:AObj o m N) (hC:ClsOk X.K C cd)
    (hn:takerIn X.K C name=some none) (hN:N < 1000) (h:∀ o',AObj o' (upd m name v) (N+1)→P (put ρ key (.at dx o'))) (hd:(y == ("__debug__":Str))=false:=by decide):AsgV X k env ρ (.Attribute (.Name y yp) name pos) v P:=fun A bad O s R r=>by
  rw [assign_Attribute]
  refine wpAny_bind (wpAny_holding ((bG hy hd).use R r fun s1 x1 r1=>wpAny_bind (wpAny_standAt (wpAny_bind (wpAny_holding ?_)))))
  refine attr_set (r1.wf.kin.keeps r1.base) (SelfD.inst ⟨hx,.inl ⟨o,hk,ha⟩⟩ r1) hC hn hN fun h' t I hs=>?_
  obtain ⟨o',ho',hao⟩:=I.nsb.aobj
  obtain ⟨st,r2⟩:=r1.at_change (s':={ s1 with heap:=h',toks:=t }) hk (fun b ob hb e=>(hs.2 b hb).trans e) ho' rfl rfl
  exact wpAny_releaseD ⟨_,_,h o' (hao.mono (by split <;> lia)),(Step.of_ext x1).trans st,r2⟩
theorem ex_assignV {t e:Expr} {pos:Pos} {v:Value} (he:EvV X k env ρ e v) (h1:AsgV X k env ρ t v (Q .next)) (hs:swapsWithSole [t] e pos.line env=pure false:=by rfl) (hw:swappedStores [t] e env=pure none:=by rfl) (hm:(assignEach [t] env).map (·.2)=[assign t env]:=by rfl) :
    Ex1 X k env ρ (.Assign [t] e pos) Q:=fun A bad O s R r=>by
  refine wpAny_Assign_stores (he.use R r fun s1 x1 r1=>?_) hs hw
  rw [hm]
  refine wpAny_mono (h1 A bad O s1 R r1) (fun _ s2 p2=>?_) fun _ _ x=>x
  obtain ⟨O2,ρ2,q,st2,r2⟩:=p2
  exact ⟨.next,ρ2,O2,q,rfl,(Step.of_ext x1).trans st2,r2⟩
theorem ex_assignV2 {t₁ t₂ e:Expr} {pos:Pos} {v:Value} (he:EvV X k env ρ e v) (h1:AsgV X k env ρ t₁ v fun ρ₁=>AsgV X k env ρ₁ t₂ v (Q .next)) (hm:(assignEach [t₁,t₂] env).map (·.2)=[assign t₁ env,assign t₂ env]:=by rfl)
    (hw:swappedStores [t₁,t₂] e env=pure none:=by rfl):Ex1 X k env ρ (.Assign [t₁,t₂] e pos) Q:=fun A bad O s R r =>
  wpAny_Assign_two (he.use R r fun s1 x1 r1=>wpAny_mono (h1 A bad O s1 R r1) (fun _ s2 p2=>by
    obtain ⟨O2,ρ2,q2,st2,r2⟩:=p2
    refine wpAny_mono (q2 A bad O2 s2 R r2) (fun _ s3 p3=>?_) fun _ _ x=>x
    obtain ⟨O3,ρ3,q3,st3,r3⟩:=p3
    exact ⟨.next,_,_,q3,rfl,(Step.of_ext x1).trans (st2.trans st3),r3⟩) fun _ _ x=>x) hm hw
theorem new_low {bad:Addr→Prop} {O:Str→Option Addr} {s:Shared} (r:Rel X bad O env ρ s) {l:Addr} (h:s.heap.objs.size≤l):(l == sysModules)=false:=by
  have:=(r.wf.g.keeps r.base).lt
  have h1:mainGlobals=3:=by first | rfl | decide
  have h2:sysModules=1:=rfl
  rw [beq_eq_false_iff_ne]
  intro e
  rw [h1] at this
  have h':s.heap.objs.size≤l:=h
  have h3:(3:Nat) < s.heap.objs.size:=this
  have h4:l=1:=e.trans h2
  have h5:s.heap.objs.size≤1:=h4 ▸ h'
  exact aQ 0xf119f18000381f rfl this h5
noncomputable def EvN (X:Cx) (k:Nat) (env:Env) (ρ:List (Str×B)) (e:Expr) (Po:Obj→Prop):Prop :=
  ∀ (A:Around) (bad:Addr→Prop) (O:Str→Option Addr) (s:Shared),Room k A→Rel X bad O env ρ s →
    wpAny (model X.prog X.w) A (eval e env) (fun u s'=>Ext s s'∧∃ l o,u=.ref l∧s.heap.get? l=none∧s'.heap.get? l=some o∧(l == sysModules)=false∧Po o) noE s
theorem evn_dict {pos:Pos}:EvN X k env ρ (.Dict [] [] pos) (fun o=>o={ cls:=.type "dict",data:=.dict #[] }):=fun A bad O s R r =>
  wpAny_Dict_empty ⟨Ext.push _ _,_,_,rfl,get_size _,Heap.get?_push_size _ rfl,new_low r (Nat.le_refl _),rfl⟩
theorem evn_list {pos:Pos}:EvN X k env ρ (.List [] pos) (fun o=>o={ cls:=.type "list",data:=.seq #[] }):=fun A bad O s R r =>
  wpAny_List (wpAny_items_nil ⟨by simp,Ext.push _ _,_,_,rfl,get_size _,Heap.get?_push_size _ rfl,new_low r (Nat.le_refl _),rfl⟩)
theorem ex_assignN {t e:Expr} {pos:Pos} {Po:Obj→Prop} (key:Str) (he:EvN X k env ρ e Po) (h1:∀ l o,(l == sysModules)=false→Po o→AsgV X k env (put ρ key (.at l o)) t (.ref l) (Q .next)) (hs:swapsWithSole [t] e pos.line env=pure false:=by rfl) (hw:swappedStores [t] e env=pure none:=by rfl) (hm:(assignEach [t] env).map (·.2)=[assign t env]:=by rfl) :
    Ex1 X k env ρ (.Assign [t] e pos) Q:=fun A bad O s R r=>by
  refine wpAny_Assign_stores (wpAny_mono (he A bad O s R r) (fun u s1 h=>?_) fun _ _ x=>x) hs hw
  obtain ⟨x1,l,o,rfl,hl,ho,hw',hP⟩:=h
  obtain ⟨st1,r1⟩:=r.at_new key x1 hl ho
  rw [hm]
  refine wpAny_mono (h1 l o hw' hP A bad _ s1 R r1) (fun _ s2 p2=>?_) fun _ _ x=>x
  obtain ⟨O2,ρ2,q,st2,r2⟩:=p2
  exact ⟨.next,ρ2,O2,q,rfl,st1.trans st2,r2⟩
theorem ex_assignN2 {t₁ t₂ e:Expr} {pos:Pos} {Po:Obj→Prop} (key:Str) (he:EvN X k env ρ e Po) (h1:∀ l o,(l == sysModules)=false→Po o→AsgV X k env (put ρ key (.at l o)) t₁ (.ref l) fun ρ₁=>AsgV X k env ρ₁ t₂ (.ref l) (Q .next)) (hm:(assignEach [t₁,t₂] env).map (·.2)=[assign t₁ env,assign t₂ env]:=by rfl)
    (hw:swappedStores [t₁,t₂] e env=pure none:=by rfl):Ex1 X k env ρ (.Assign [t₁,t₂] e pos) Q:=fun A bad O s R r =>
  wpAny_Assign_two (wpAny_mono (he A bad O s R r) (fun u s1 h=>by
    obtain ⟨x1,l,o,rfl,hl,ho,hw',hP⟩:=h
    obtain ⟨st1,r1⟩:=r.at_new key x1 hl ho
    refine wpAny_mono (h1 l o hw' hP A bad _ s1 R r1) (fun _ s2 p2=>?_) fun _ _ x=>x
    obtain ⟨O2,ρ2,q2,st2,r2⟩:=p2
    refine wpAny_mono (q2 A bad O2 s2 R r2) (fun _ s3 p3=>?_) fun _ _ x=>x
    obtain ⟨O3,ρ3,q3,st3,r3⟩:=p3
    exact ⟨.next,_,_,q3,rfl,st1.trans (st2.trans st3),r3⟩) fun _ _ x=>x) hm hw
theorem tst_isNotNone {l r:Expr} {pos:Pos} {v:Value} (hl:EvV X k env ρ l v) (hr:EvV X k env ρ r .none) (hm:behindInMarks .IsNot r=false:=by with_unfolding_all rfl):Tst X k env ρ (.Compare l [.IsNot] [r] pos) (!(v == .none)):=fun A bad O s R q =>
  wpAny_isTrue_Compare1 (hl.use R q fun s1 x1 r1=>hr.use R r1 fun s2 x2 r2=>isnot_none_gen (wpAny_truthy_bool ⟨x1.trans x2,rfl⟩)) hm
theorem tst_isNoneI {l r:Expr} {pos:Pos} {a:Int} (hl:Ev X k env ρ l (.int a)) (hr:EvV X k env ρ r .none) (hm:behindInMarks .Is r=false:=by with_unfolding_all rfl):Tst X k env ρ (.Compare l [.Is] [r] pos) false:=fun A bad O s R q =>
  wpAny_isTrue_Compare1 (hl.use R q fun v s1 x1 r1 q1=>hr.use R r1 fun s2 x2 r2=>by cases q1;exact is_int_none (wpAny_truthy_bool ⟨x1.trans x2,rfl⟩)) hm
theorem tst_none {e:Expr} (h:EvV X k env ρ e .none) (he:∀ whole,isTrue e env whole=(do let v ← whole;standAt e.pos;holding [v] (truthy v)):=by intro _;rfl):Tst X k env ρ e false:=fun A bad O s R r =>
  isTrue_plain (h.use R r fun s1 x1 r1=>wpAny_pure ⟨x1,rfl⟩) (he _)
theorem ex_doc {c:Str} {n:Nat} {p pos:Pos} (hq:Q .next ρ) (hi:interactive env=false:=by rfl) (hs:swapsWith (.Constant (.str c) n p) none pos.line env=pure false:=by rfl):Ex1 X k env ρ (.Expr (.Constant (.str c) n p) pos) Q:=fun A bad O s R r =>
  wpAny_Expr (ev_str.use R r fun v s1 x1 r1 q1=>by cases q1;exact ⟨.next,ρ,O,hq,rfl,Step.of_ext x1,r1⟩) hi hs
theorem Room.of {k:Nat} {A:Around} (r:Room k A):A.depth < 1000:=by have:=r.depth;exact aF 0xf113e81901f3841910ab0a0f rfl this
theorem mcall_use {C x dx f:Addr} {cd:ClassData} {key:Str} {m:Str→Option Value} {N:Nat} {y name:Str} {yp apos pos:Pos} {pl:Sem Bool} {e:Expr} {es:List Expr} {o:Obj} {fd:FuncData} {A:Around} {bad:Addr→Prop} {O:Str→Option Addr} {s:Shared} {P:Value→Shared→Prop} {Pa:List Value→Shared→Prop}
    (R:Room k A) (r:Rel X bad O env ρ s) (hy:ρ.lookup y=some (.raw (.ref x))) (S:SelfD X ρ C x dx key m N) (hC:ClsOk X.K C cd) (hf:findIn X.K (.ref C) name=some (some (.ref f))) (ht:typeIn X.K (.ref f)=some (.type "function")) (hm:m name=none)
    (ho:X.h₀.get? f=some o) (hdat:o.data=.func fd)
    (ha:wpAny (model X.prog X.w) A (spliced (backTo pos (starEach (e :: es) env))) (fun vs s'=>Ext s s'∧Pa vs s') noE s)
    (h:∀ vs s',Ext s s'→Rel X bad O env ρ s'→Pa vs s'→wpAny (model X.prog X.w) A (call (.ref f) (.ref x :: vs)) P noE s')
    (he:eval (.Call (.Attribute (.Name y yp) name apos) (e :: es) [] pos) env=(do
      let ov ← eval (.Name y yp) env
      standAt apos.atName
      let (f,first) ← holding [ov] (getMethod ov name pl)
      callWith pos f first (backTo pos (starEach (e :: es) env)) []):=by rfl)
    (hst:starEach (e :: es) env=(false,eval e env) :: starEach es env:=by rfl)
    (hd:(y == ("__debug__":Str))=false:=by decide):wpAny (model X.prog X.w) A (eval (.Call (.Attribute (.Name y yp) name apos) (e :: es) [] pos) env) P noE s:=by
  refine MethodCall_ (wpAny_Name (Lk.load r.ok.kind (r.raw y _ hy) ?_) hd) he
  refine attr_method (r.wf.kin.keeps r.base) (S.inst r) hC hf ht hm ?_
  refine Calls.callWith_function (o:=o) (fd:=fd) ?_
  rw [hst] at ha ⊢
  refine Calls.evalArgs_plain (wpAny_mono ha (fun vs s1 q=>?_) fun _ _ x=>x)
  have r1:=r.ext q.1
  exact ⟨⟨r1.base _ _ ho,hdat⟩,h vs s1 q.1 r1 q.2⟩
theorem mcall_use0 {C x dx f:Addr} {cd:ClassData} {key:Str} {m:Str→Option Value} {N:Nat} {y name:Str} {yp apos pos:Pos} {pl:Sem Bool} {o:Obj} {fd:FuncData} {A:Around} {bad:Addr→Prop} {O:Str→Option Addr} {s:Shared} {P:Value→Shared→Prop}
    (R:Room k A) (r:Rel X bad O env ρ s) (hy:ρ.lookup y=some (.raw (.ref x))) (S:SelfD X ρ C x dx key m N) (hC:ClsOk X.K C cd) (hf:findIn X.K (.ref C) name=some (some (.ref f))) (ht:typeIn X.K (.ref f)=some (.type "function")) (hm:m name=none)
    (ho:X.h₀.get? f=some o) (hdat:o.data=.func fd)
    (h:wpAny (model X.prog X.w) A (call (.ref f) [.ref x]) P noE s)
    (he:eval (.Call (.Attribute (.Name y yp) name apos) [] [] pos) env=(do
      let ov ← eval (.Name y yp) env
      standAt apos.atName
      let (f,first) ← holding [ov] (getMethod ov name pl)
      callWith pos f first (backTo pos (starEach [] env)) []):=by rfl)
    (hd:(y == ("__debug__":Str))=false:=by decide):wpAny (model X.prog X.w) A (eval (.Call (.Attribute (.Name y yp) name apos) [] [] pos) env) P noE s:=by
  refine MethodCall_ (wpAny_Name (Lk.load r.ok.kind (r.raw y _ hy) ?_) hd) he
  refine attr_method (r.wf.kin.keeps r.base) (S.inst r) hC hf ht hm ?_
  refine Calls.callWith_function (o:=o) (fd:=fd) ?_
  exact wpAny_pure (a:=(⟨[],[]⟩:Args)) ⟨⟨r.base _ _ ho,hdat⟩,h⟩
end
structure KeepBut (a:Addr) (s s':Shared):Prop where
  keep:∀ b o,b ≠ a→s.heap.get? b=some o→s'.heap.get? b=some o
  gens:s'.gens=s.gens
  os:s'.os=s.os
theorem KeepBut.of_ext {a:Addr} {s s':Shared} (x:Ext s s'):KeepBut a s s':=⟨fun b o _ e=>x.keep b o e,x.gens,x.os⟩
noncomputable def RetIs (bad:Addr→Prop) (h:Heap):Fl→Value→Prop
  | .ret d,v=>Rep bad h d v
  | _,v=>v=.none
theorem hide_on {X:Cx} {s:Shared} (a:At X s) {dx:Addr} (hX:X.h₀.get? dx=none):∀ b o,X.h₀.get? b=some o→(s.heap.hide dx).get? b=some o:=fun b o e=>by
  rw [Heap.hide_ne _ (fun q=>by rw [q,hX] at e;cases e)];exact a.base b o e
theorem method_frame {X:Cx} {k:Nat} {f:Addr} {fd:FuncData} {body:List Stmt} {names:List Str} (D:DefAt X f fd body names) {A:Around} {bad:Addr→Prop} {s:Shared} {dx:Addr} {o:Obj} {vs:List Value} {bs:List B} {Dt:PyData→Value→Prop} {P:Fl→List (Str×B)→Prop}
    (R:Room (k+1) A) (a:At X s) (ho:s.heap.get? dx=some o) (hns:∀ vs n,o.data ≠ .seq vs n) (hX:X.h₀.get? dx=none) (hb:¬ bad dx) (low:∀ a,bad a→∃ o,s.heap.get? a=some o) (hdat:∀ d v,Dt d v→Rep bad (s.heap.hide dx) d v) (q:BindsOk bad s.heap bs vs) (hl:vs.length=names.length)
    (h:∀ L,Exs (X.on (s.heap.hide dx) Dt) k (callEnvC fd L f) (put (names.zip bs) "#d" (.at dx o)) body fun fl ρ'=>P fl ρ'∧(∃ o',aM ρ' "#d" (.at dx o'))∧(fl=.next∨∃ d,fl=.ret d)) :
    codeAny (model X.prog X.w) A (.call (.ref f) ⟨vs,[]⟩) (fun r s'=>∃ v fl ρ' O' L,r=.ok (.ret v)∧P fl ρ'∧RetIs bad s'.heap fl v∧KeepBut dx s s'∧Rel (X.on (s.heap.hide dx) Dt) bad O' (callEnvC fd L f) ρ' s') s:=by
  have ho':=hide_on a hX
  have aX:At (X.on (s.heap.hide dx) Dt) s:=⟨a.wf.on ho',fun b o e=>Heap.of_hide e,a.gens,a.os⟩
  refine call_body (X:=X.on (s.heap.hide dx) Dt) (D.on ho') (bad:=bad) R aX low hdat q hl fun L A' s₁ R' r keep hpl hg hos=>?_
  have r1:=r.at_take (x:="#d") (a:=dx) (o:=o) (keep _ _ ho) hns (Heap.hide_self _ _) (hpl _ _ ho) (fun h=>hb (badO_nO h))
  refine wpAny_mono (h L A' bad _ s₁ R' r1) (fun fl s' p=>?_) fun _ _ x=>x
  obtain ⟨f',ρ',O',⟨hP,⟨o',ho''⟩,hfl⟩,hfi,st,r'⟩:=p
  have kb:KeepBut dx s s':=⟨fun b o hb e=>r'.base b o (by show (s.heap.hide dx).get? b=_;rw [Heap.hide_ne _ hb];exact e),r'.gens.trans a.gens.symm,r'.os.trans a.os.symm⟩
  rcases hfl with rfl | ⟨d,rfl⟩
  · cases hfi;exact ⟨.none,.next,ρ',O',L,rfl,hP,rfl,kb,r'⟩
  · obtain ⟨v,rfl,rv⟩:=hfi;exact ⟨v,.ret d,ρ',O',L,rfl,hP,rv,kb,r'⟩
theorem still_frame {X:Cx} {k:Nat} {f:Addr} {fd:FuncData} {body:List Stmt} {names:List Str} (D:DefAt X f fd body names) {A:Around} {bad:Addr→Prop} {s:Shared} {vs:List Value} {bs:List B} {Dt:PyData→Value→Prop} {P:Fl→List (Str×B)→Prop}
    (R:Room (k+1) A) (a:At X s) (low:∀ a,bad a→∃ o,s.heap.get? a=some o) (hdat:∀ d v,Dt d v→Rep bad s.heap d v) (q:BindsOk bad s.heap bs vs) (hl:vs.length=names.length)
    (h:∀ L,Exs (X.on s.heap Dt) k (callEnvC fd L f) (names.zip bs) body fun fl ρ'=>P fl ρ'∧(fl=.next∨∃ d,fl=.ret d)) :
    codeAny (model X.prog X.w) A (.call (.ref f) ⟨vs,[]⟩) (fun r s'=>∃ v fl ρ' O' L,r=.ok (.ret v)∧P fl ρ'∧RetIs bad s'.heap fl v∧Ext s s'∧Rel (X.on s.heap Dt) bad O' (callEnvC fd L f) ρ' s') s:=by
  have aX:At (X.on s.heap Dt) s:=⟨a.wf.on a.base,fun b o e=>e,a.gens,a.os⟩
  refine call_body (X:=X.on s.heap Dt) (D.on a.base) (bad:=bad) R aX low hdat q hl fun L A' s₁ R' r keep hpl hg hos=>?_
  refine wpAny_mono (h L A' bad _ s₁ R' r) (fun fl s' p=>?_) fun _ _ x=>x
  obtain ⟨f',ρ',O',⟨hP,hfl⟩,hfi,st,r'⟩:=p
  have kb:Ext s s':=⟨fun b o e=>r'.base b o e,r'.gens.trans a.gens.symm,r'.os.trans a.os.symm⟩
  rcases hfl with rfl | ⟨d,rfl⟩
  · cases hfi;exact ⟨.none,.next,ρ',O',L,rfl,hP,rfl,kb,r'⟩
  · obtain ⟨v,rfl,rv⟩:=hfi;exact ⟨v,.ret d,ρ',O',L,rfl,hP,rv,kb,r'⟩
noncomputable abbrev pw:Program:=PySem.Challenge.pw_mt0008_03
noncomputable def topBody:List Stmt:=pw.main.body
noncomputable def aD (l:List Stmt) (i:Nat):Stmt:=l.getD i (.Pass ⟨0,0,0,0⟩)
noncomputable def aR:Stmt→List Stmt
  | .ClassDef _ _ _ b _ _ _ _ _ _ _=>b
  | _=>[]
noncomputable def defArgs:Stmt→Arguments
  | .FunctionDef _ a _ _ _ _ _ _ _ _=>a
  | _=>default
noncomputable def aH:Stmt→List Stmt
  | .FunctionDef _ _ b _ _ _ _ _ _ _=>b
  | _=>[]
noncomputable def bL:Stmt→Scope
  | .FunctionDef _ _ _ _ _ _ sc _ _ _=>sc
  | _=>default
noncomputable def defPos:Stmt→Pos
  | .FunctionDef _ _ _ _ _ _ _ _ _ p=>p
  | _=>default
noncomputable def forBody:Stmt→List Stmt
  | .For _ _ b _ _=>b
  | _=>[]
noncomputable def whileBody:Stmt→List Stmt
  | .While _ b _ _=>b
  | _=>[]
noncomputable def ifBody:Stmt→List Stmt
  | .If _ b _ _=>b
  | _=>[]
noncomputable def ifElse:Stmt→List Stmt
  | .If _ _ e _=>e
  | _=>[]
noncomputable def docV (b:List Stmt) (t:Tok):Value:=match docOf b with
  | some x=>.str x t
  | none=>.none

noncomputable abbrev Blk:=Nat×Nat×Nat
inductive Good (la lb:Nat):Bool→Nat→Nat→List Blk→Prop
  | nil {b:Bool} {i j:Nat}:i≤la→j≤lb→Good la lb b i j []
  | cons {b:Bool} {i j ai bj n:Nat} {r:List Blk}:i≤ai→j≤bj→0 < n→(b=false→¬ (i=ai∧j=bj))→Good la lb false (ai+n) (bj+n) r→Good la lb b i j ((ai,bj,n) :: r)
theorem Good.inv {la lb:Nat} {b:Bool} {i j ai bj n:Nat} {r:List Blk} (g:Good la lb b i j ((ai,bj,n) :: r)):i≤ai∧j≤bj∧0 < n∧(b=false→¬ (i=ai∧j=bj))∧Good la lb false (ai+n) (bj+n) r:=by
  cases g with | cons h1 h2 h3 h4 h5=>exact ⟨h1,h2,h3,h4,h5⟩
theorem Good.inv0 {la lb:Nat} {b:Bool} {i j:Nat} (g:Good la lb b i j []):i≤la∧j≤lb:=by
  cases g with | nil h1 h2=>exact ⟨h1,h2⟩
theorem Good.le {la lb:Nat} {b:Bool} {i j:Nat} {r:List Blk} (g:Good la lb b i j r):i≤la∧j≤lb:=by
  induction g with
  | nil h1 h2=>exact ⟨h1,h2⟩
  | cons h1 h2 h3 h4 h5 ih=>exact lq7 0xf10101f1011f6205007f643a0541a0320100f rfl h1 h2 ih.1 ih.2
theorem Good.any {la lb:Nat} {b:Bool} {i j:Nat} {r:List Blk} (g:Good la lb b i j r):Good la lb true i j r:=by
  cases g with
  | nil h1 h2=>exact .nil h1 h2
  | cons h1 h2 h3 h4 h5=>exact .cons h1 h2 h3 (fun e=>by cases e) h5
noncomputable def code (t:Str) (i1 i2 j1 j2:Nat):PyData:=.tuple [.str t,.int i1,.int i2,.int j1,.int j2]
noncomputable def gap (i ai j bj:Nat):List PyData:=if i=ai∧j=bj then [] else [code (if ai=i then "insert" else if j=bj then "delete" else "replace") i ai j bj]
noncomputable def opc (la lb:Nat):Nat→Nat→List Blk→List PyData
  | i,j,[]=>gap i la j lb
  | i,j,(ai,bj,n) :: r=>gap i ai j bj++code "equal" ai (ai+n) bj (bj+n) :: opc la lb (ai+n) (bj+n) r
noncomputable def aZ (ed:List Int):Nat→List Blk→Prop
  | j,[]=>∀ t,j≤t→t < ed.length→∃ v:Int,ed[t]?=some v∧v < 0
  | j,(ai,bj,n) :: r=>(∀ t,j≤t→t < bj→∃ v:Int,ed[t]?=some v∧v < 0)∧(∀ d,d < n→ed[bj+d]?=some ((ai+d:Nat):Int))∧aZ ed (bj+n) r
theorem put_put (x:Str) (a b:B):∀ ρ:List (Str×B),put (put ρ x a) x b=put ρ x b
  | []=>by simp [put]
  | (y,c) :: r=>by
    by_cases h:x=y
    · have e1:∀ z,put ((y,c) :: r) x z=(y,z) :: r:=fun z=>by unfold put;rw [if_pos h]
      rw [e1,e1];unfold put;rw [if_pos h]
    · have e1:∀ q z,put ((y,c) :: q) x z=(y,c) :: put q x z:=fun q z=>by rw [put,if_neg h]
      rw [e1,e1,e1,put_put x a b r]
noncomputable abbrev Mt:=Nat→Nat→Bool
noncomputable def Run (m:Mt) (x y n:Nat):Prop:=∀ t,t < n→m (x+t) (y+t)=true
noncomputable def InW (alo ahi blo bhi x y n:Nat):Prop:=alo≤x∧x+n≤ahi∧blo≤y∧y+n≤bhi
structure Best (m:Mt) (alo ahi blo bhi i j k:Nat):Prop where
  win:InW alo ahi blo bhi i j k
  run:Run m i j k
  zero:k=0→i=alo∧j=blo
  best:∀ x y n,0 < n→InW alo ahi blo bhi x y n→Run m x y n→n < k∨(n=k∧(i < x∨(i=x∧j≤y)))
theorem Best.unique {m:Mt} {alo ahi blo bhi i j k i' j' k':Nat} (h:Best m alo ahi blo bhi i j k) (h':Best m alo ahi blo bhi i' j' k'):i=i'∧j=j'∧k=k':=by
  rcases Nat.eq_zero_or_pos k with hk | hk
  · rcases Nat.eq_zero_or_pos k' with hk' | hk'
    · obtain ⟨a,b⟩:=h.zero hk;obtain ⟨c,d⟩:=h'.zero hk';exact lq8 0xf801f81f8010001f1080001f801001f108001f102074276227f507236254232208120802f rfl hk hk' a b c d
    · have:=h.best i' j' k' hk' h'.win h'.run;exact lq6 0xf1008f108f11ff181f180008f18008f1801ff1100f18008f1801ff1010f18008f1801ff1080f110f1801ff10254273227f540322732180127011810810802f rfl hk hk' this
  · rcases Nat.eq_zero_or_pos k' with hk' | hk'
    · have:=h'.best i j k hk h.win h.run;exact lq6 0xf811f1008f108f11ff1100f81008f8101ff810008f81008f8101ff1080f110f8101ff1010f81008f8101ff10245272327f540322732181027101808120081f rfl hk hk' this
    · have a:=h.best i' j' k' hk' h'.win h'.run
      have b:=h'.best i j k hk h.win h.run
      exact lq6 0xf1008f108f11ff1001f101f1008f108f11fff1000100f8010f81ff10080f1010f81ff1008f108f11fff1100f10080f1010f81ff1008f108f11fff1010f10080f1010f81ff1008f1010f11fff1080f110f1008f108f11fff01254273227f45023272318012701185403227321810271018f rfl a b
noncomputable def rl (m:Mt) (alo blo:Nat):Nat→Nat→Nat
  | 0,j=>if m 0 j then 1 else 0
  | i+1,j=>if m (i+1) j then (if alo≤i∧blo < j then rl m alo blo i (j - 1) else 0)+1 else 0
theorem rl_no {m:Mt} {alo blo i j:Nat} (h:m i j=false):rl m alo blo i j=0:=by cases i <;> simp [rl,h]
theorem rl_pos {m:Mt} {alo blo i j:Nat} (h:m i j=true):0 < rl m alo blo i j:=by cases i <;> simp [rl,h]
theorem rl_le {m:Mt} {alo blo:Nat}:∀ {i j:Nat},alo≤i→blo≤j→alo+rl m alo blo i j≤i+1∧blo+rl m alo blo i j≤j+1
  | 0,j,h1,h2=>by unfold rl;split <;> lia
  | i+1,j,h1,h2=>by
    unfold rl
    split
    · split
      · rename_i h
        have:=rl_le (m:=m) (alo:=alo) (blo:=blo) (i:=i) (j:=j - 1) h.1 (by exact aF 0xf1101200f101f1811 rfl h.2)
        exact lq5 0xf10018f101108ff101f181a183a0a018184aa183a2a07f185a30a0184a32a0101f1810 rfl h.2 this.1 this.2
      · exact bF 0xf101f11f183a1808a2a018181aa1808a0a07f320181a00f rfl h1 h2
    · exact bF 0xf101f11f183a082a018181aa080a07f320181a00f rfl h1 h2
theorem rl_run {m:Mt} {alo blo:Nat}:∀ {i j t:Nat},alo≤i→blo≤j→t < rl m alo blo i j→m (i - t) (j - t)=true
  | 0,j,t,h1,h2,h=>by
    unfold rl at h
    split at h
    · rename_i hm
      have:t=0:=by exact aQ 0xf1f11f0802f1801f rfl h
      subst this;exact hm
    · exact (aQ 0xf19f0801f rfl h).elim
  | i+1,j,t,h1,h2,h=>by
    unfold rl at h
    split at h
    · rename_i hm
      cases t with
      | zero=>exact hm
      | succ t =>
        split at h
        · rename_i hb
          have:=rl_run (m:=m) (alo:=alo) (blo:=blo) (i:=i) (j:=j - 1) (t:=t) hb.1 (by exact aF 0xf1101200f101f1811 rfl hb.2) (by exact aF 0xf11101f181a180a1f rfl h)
          have e1:i+1 - (t+1)=i - t:=by exact aF 0xf118f1008ff1108f10008fff181f1810ff108ff322ff100181a180a0 rfl
          have e2:j - (t+1)=j - 1 - t:=by exact aF 0xf1188f10008ff10088f100008fff11088f100008ff100088f1000008ffff1811f18110ff1810ff108ff422ff1301800181a00 rfl
          rw [e1,e2];exact this
        · exact (aQ 0xf19f1808a180a1f rfl h).elim
    · exact (aQ 0xf19f0801f rfl h).elim
theorem rl_max {m:Mt} {alo blo:Nat}:∀ {i j x y n:Nat},alo≤x→blo≤y→Run m x y n→0 < n→x+n=i+1→y+n=j+1→n≤rl m alo blo i j
  | 0,j,x,y,n,h1,h2,hr,hn,e1,e2=>by
    have:n=1:=by exact aF 0xf11f801f1802f1808a01a20081f rfl hn e1
    subst this
    have:=hr 0 (by exact lqx [] [] 0xf118081ff rfl)
    have hx:x=0:=by exact aQ 0xf1f81f0802f1808a180a2f rfl e1
    have hy:y=j:=by exact aF 0xf11f81f102f181a180a2f rfl e2
    subst hx hy
    have:=rl_pos (alo:=alo) (blo:=blo) this
    simp only [Nat.add_zero] at this
    exact aQ 0xf110180f0081f rfl this
  | i+1,j,x,y,n,h1,h2,hr,hn,e1,e2=>by
    have hm:m (i+1) j=true:=by
      have:=hr (n - 1) (by exact aQ 0xf18f1108f011f0081f1800 rfl hn)
      rwa [show x+(n - 1)=i+1 by exact aO 0xf1011f10110ff8018f81108ff182a31a2f18182aa01a20081f1800 rfl hn e1,show y+(n - 1)=j by exact aO 0xf1011f10110ff8018f81108ff231a2f182a01a20081f1800 rfl hn e2] at this
    unfold rl
    rw [if_pos hm]
    rcases Nat.lt_or_ge 1 n with hn1 | hn1
    · rw [if_pos (by exact lq7 0xf180101f108011f6215007f4181186a43a218185aa41a2320100f rfl h1 h2 e1 e2 hn1)]
      have:=rl_max (m:=m) (alo:=alo) (blo:=blo) (i:=i) (j:=j - 1) (x:=x) (y:=y) (n:=n - 1) h1 h2 (fun t ht=>hr t (by exact aF 0xf1011101f201f1811 rfl ht)) (by exact aQ 0xf11011081f0181f1801 rfl hn1) (by exact aO 0xf111f10010ff818f18108ff182a30a2f118118182aa10a2f1810 rfl e1 hn1) (by exact aO 0xf1118f101108ff10010ff8181f81810ff10010ff184a30a2f1181182a10a2f18201810 rfl e2 hn1)
      exact aF 0xf1101181a00f120f1801 rfl this
    · exact aF 0xf11181a00f1800f rfl hn1
structure FInv (m:Mt) (alo ahi blo bhi:Nat) (P:Nat→Nat→Prop) (bi bj bk:Nat):Prop where
  win:InW alo ahi blo bhi bi bj bk
  run:Run m bi bj bk
  zero:bk=0→bi=alo∧bj=blo
  done:0 < bk→P (bi+bk - 1) (bj+bk - 1)
  best:∀ x y n,0 < n→alo≤x→blo≤y→Run m x y n→P (x+n - 1) (y+n - 1)→n < bk∨(n=bk∧(bi < x∨(bi=x∧bj≤y)))
theorem FInv.start {m:Mt} {alo ahi blo bhi:Nat} (h1:alo≤ahi) (h2:blo≤bhi):FInv m alo ahi blo bhi (fun _ _=>False) alo blo 0 :=
  ⟨⟨Nat.le_refl _,h1,Nat.le_refl _,h2⟩,fun t h=>absurd h (Nat.not_lt_zero _),fun _=>⟨rfl,rfl⟩,fun h=>absurd h (Nat.lt_irrefl _),fun _ _ _ _ _ _ _ h=>h.elim⟩
theorem FInv.skip {m:Mt} {alo ahi blo bhi:Nat} {P P':Nat→Nat→Prop} {bi bj bk:Nat} (h:FInv m alo ahi blo bhi P bi bj bk) (h1:∀ x y,P x y→P' x y) (h2:∀ x y,P' x y→P x y∨m x y=false):FInv m alo ahi blo bhi P' bi bj bk :=
  ⟨h.win,h.run,h.zero,fun hk=>h1 _ _ (h.done hk),fun x y n hn hx hy hr hp=>by
    rcases h2 _ _ hp with hp | hm
    · exact h.best x y n hn hx hy hr hp
    · have:=hr (n - 1) (by exact aQ 0xf18f1108f011f0081f1800 rfl hn)
      rw [show x+(n - 1)=x+n - 1 by exact aF 0xf118f1008ff1108f10008fff181f1810ff11081f110810fff321a2f0081f1801a01800 rfl hn,show y+(n - 1)=y+n - 1 by exact aF 0xf118f1008ff1108f10008fff181f1810ff11081f110810fff321a2f0081f1801a01800 rfl hn,hm] at this
      cases this⟩
theorem FInv.step {m:Mt} {alo ahi blo bhi:Nat} {P:Nat→Nat→Prop} {bi bj bk i j:Nat} (h:FInv m alo ahi blo bhi P bi bj bk) (hi:alo≤i) (hi':i < ahi) (hj:blo≤j) (hj':j < bhi) (hP:∀ x y,P x y→x < i∨(x=i∧y < j)) :
    if bk < rl m alo blo i j then FInv m alo ahi blo bhi (fun x y=>P x y∨(x=i∧y=j)) (i+1 - rl m alo blo i j) (j+1 - rl m alo blo i j) (rl m alo blo i j) else FInv m alo ahi blo bhi (fun x y=>P x y∨(x=i∧y=j)) bi bj bk:=by
  have hle:=rl_le (m:=m) hi hj
  split
  · rename_i hk
    refine ⟨⟨by exact aO 0xf1101300f182a10a0f1182a1 rfl hle.1,by exact bF 0xf118f11108f134a0f180a32a0101f3180a0 rfl hi' hle.1,by exact aO 0xf1101300f182a10a0f1182a1 rfl hle.2,by exact bF 0xf118f11108f134a0f180a32a0101f3180a0 rfl hj' hle.2⟩,fun t ht=>?_,fun e=>by exact lq6 0xf81000050723627f0812101f1184a11182a1 rfl hk e,fun _=>.inr ⟨by exact aO 0xf111f1110ff1101f11010fff188f1008ff11088f10008fff242f182a10a0f1813a01182a0 rfl hle.1,by exact aO 0xf111f1110ff1101f11010fff188f1008ff11088f10008fff242f182a10a0f1813a01182a0 rfl hle.2⟩,fun x y n hn hx hy hr hp=>?_⟩
    · have:=rl_run (m:=m) (t:=rl m alo blo i j - 1 - t) hi hj (by exact aO 0xf118f101108f141f101f2311810 rfl hk)
      rwa [show i - (rl m alo blo i j - 1 - t)=i+1 - rl m alo blo i j+t by exact bF 0xf18818f1188108ff188108f11881008fff10100818f111008108ff101008108f1110081008ffff10108818f101100008ff101088108f1011000008fff101000818f1011000008ff1010008108f10110000008fffff11181f111810ff10008ff111081f1110810ff100008fff110081f1100810ff100008ff1100081f11000810ff1000008ffff307a62f131182a10a0f1182a05203401810 rfl hle.1 ht,show j - (rl m alo blo i j - 1 - t)=j+1 - rl m alo blo i j+t by exact bF 0xf18818f1188108ff188108f11881008fff10100818f111008108ff101008108f1110081008ffff10108818f101100008ff101088108f1011000008fff101000818f1011000008ff1010008108f10110000008fffff11181f111810ff10008ff111081f1110810ff100008fff110081f1100810ff100008ff1100081f11000810ff1000008ffff307a62f131182a10a0f1182a05203401810 rfl hle.2 ht] at this
    · rcases hp with hp | ⟨e1,e2⟩
      · have:=h.best x y n hn hx hy hr hp;exact lqx [_,_,_,_,_,_,_,_,_] [] 0xf10000100008f1000010008f100001001ff11f10000100008f1000010008f100001001ff11f1000001008f100000108f10000011ff6370427274271812271218f6504327431802270218101f11817a111807a1 rfl hk this
      · have:=rl_max (m:=m) (i:=i) (j:=j) hx hy hr hn (by exact aO 0xf1018f11108ff8011f110ff182a01a2f2320081f1801a0 rfl hn e1) (by exact aO 0xf1018f11108ff8011f110ff182a01a2f2320081f1801a0 rfl hn e2)
        rcases Nat.lt_or_ge n (rl m alo blo i j) with h' | h'
        · exact .inl h'
        · refine .inr ⟨by exact aF 0xf101f11f102f010100f rfl this h',.inr ⟨by exact bF 0xf1080111f11010ff10801101f110010fff110188f1111808ff108ff142f0303002520081f1801a03182a0 rfl hn e1 this h',by exact lq5 0xf110188f111808ff108f250f130462101f1832a01184a0 rfl hk e2 this⟩⟩
  · rename_i hk
    refine ⟨h.win,h.run,h.zero,fun hk=>.inl (h.done hk),fun x y n hn hx hy hr hp=>?_⟩
    rcases hp with hp | ⟨e1,e2⟩
    · exact h.best x y n hn hx hy hr hp
    · have:=rl_max (m:=m) (i:=i) (j:=j) hx hy hr hn (by exact aO 0xf1018f11108ff8011f110ff182a01a2f2320081f1801a0 rfl hn e1) (by exact aO 0xf1018f11108ff8011f110ff182a01a2f2320081f1801a0 rfl hn e2)
      rcases Nat.lt_or_ge n bk with h' | h'
      · exact .inl h'
      · have hd:=hP _ _ (h.done (by exact aO 0xf11110081f12020811016f rfl hk hn this))
        refine .inr ⟨by exact aO 0xf1001f111f022f2001201016f rfl hk this h',?_⟩
        exact lqx [_,_,_,_,_,_,_,_,_] [] 0xf1100110000101010f101010010001081ff11001100001010010f10000000000081fff11f1010100100001808f101010010000181ff10111001000010808f10000000000081fff51703072730718f657144727447181206372427220811016f18017a118007a11825a11823a0 rfl hk hn e1 e2 this hd
theorem FInv.finish {m:Mt} {alo ahi blo bhi:Nat} {bi bj bk:Nat} (h:FInv m alo ahi blo bhi (fun x y=>alo≤x∧x < ahi∧blo≤y∧y < bhi) bi bj bk):Best m alo ahi blo bhi bi bj bk :=
  ⟨h.win,h.run,h.zero,fun x y n hn hw hr=>h.best x y n hn hw.1 hw.2.2.1 hr (by obtain ⟨a,b,c,d⟩:=hw;exact lq7 0xf10000108f100011008ff100001008f1000110008fff1001101f10011010ff10011001f100110010fff10018f101108ff1111f11110ff6171174073071707107f605a0540302a02100081f1805a01802a0 rfl hn a b c d)⟩
theorem Best.left {m:Mt} {alo ahi blo bhi i j k:Nat} (h:Best m alo ahi blo bhi i j k) (hi:alo < i) (hj:blo < j):m (i - 1) (j - 1)=false:=by
  obtain ⟨⟨h1,h2,h3,h4⟩,hr,hz,hb⟩:=h
  cases e:m (i - 1) (j - 1) with
  | false=>rfl
  | true =>
    have hk:k ≠ 0:=fun e=>by have:=hz e;exact aF 0xf819f012101f rfl hi this.1
    have:=hb (i - 1) (j - 1) (k+1) (by exact aQ 0xf1180a081ff rfl) ⟨by exact aF 0xf1101200f101f1811 rfl hi,by exact bF 0xf1018f11108f3182a4a0f321a0101f1810 rfl hi h2,by exact aF 0xf1101200f101f1811 rfl hj,by exact bF 0xf1018f11108f3182a4a0f321a0101f1810 rfl hj h4⟩ (fun t ht=>by
      cases t with
      | zero=>exact e
      | succ t =>
        have:=hr t (by exact aF 0xf11101f181a180a1f rfl ht)
        rwa [show i - 1+(t+1)=i+t by exact aO 0xf11f110ff18f1108ff21a182a3a2f101f1810 rfl hi,show j - 1+(t+1)=j+t by exact aO 0xf11f110ff18f1108ff21a182a3a2f101f1810 rfl hj])
    exact (aO 0xf8f8f1f9f420312731180180a270180a18f18211811 rfl this).elim
theorem Best.right {m:Mt} {alo ahi blo bhi i j k:Nat} (h:Best m alo ahi blo bhi i j k) (hi:i+k < ahi) (hj:j+k < bhi):m (i+k) (j+k)=false:=by
  obtain ⟨⟨h1,h2,h3,h4⟩,hr,hz,hb⟩:=h
  cases e:m (i+k) (j+k) with
  | false=>rfl
  | true =>
    have:=hb i j (k+1) (by exact aQ 0xf1180a081ff rfl) ⟨by exact aF 0xf11100f100f rfl h1,by exact aO 0xf112181a0a0f210a1f rfl hi,by exact aF 0xf11100f100f rfl h3,by exact aO 0xf112181a0a0f210a1f rfl hj⟩ (fun t ht=>by
      rcases Nat.lt_or_ge t k with h | h
      · exact hr t h
      · have:t=k:=by exact aF 0xf101f11f102f010181a01f rfl ht h
        subst this;exact e)
    exact (aO 0xf8f8f1f9f220112711180180a270180a18f rfl this).elim
noncomputable abbrev toldSt:Stmt:=aD topBody 7
noncomputable def fdTold (a b c:Value):FuncData:=fnOf "_law_told" "_law_told" (defArgs toldSt) (aH toldSt) (bL toldSt) (.none) (.none) (.none) a none b c
structure TI (la:Nat) (ed:List Int) (i j:Nat) (cs:List PyData) (ρ:List (Str×B)):Prop where
  size:aM ρ "size" (.val (.int la))
  edit:aM ρ "edit" (.val (.list (ed.map .int)))
  codes:aM ρ "codes" (.own cs)
  i:aM ρ "i" (.val (.int i))
  j:aM ρ "j" (.val (.int j))
theorem TI.pt {la:Nat} {ed:List Int} {i j:Nat} {cs:List PyData} {ρ:List (Str×B)} (T:TI la ed i j cs ρ) {z:Str} {b:B} (h:(neS "size" z && (neS "edit" z && (neS "codes" z && (neS "i" z && neS "j" z))))=true):TI la ed i j cs (put ρ z b):=by
  simp only [Bool.and_eq_true] at h
  exact ⟨hn T.size h.1,hn T.edit h.2.1,hn T.codes h.2.2.1,hn T.i h.2.2.2.1,hn T.j h.2.2.2.2⟩
theorem bH {X:Cx} {k:Nat} {env:Env} {ρ:List (Str×B)} {e:Expr} {d d':PyData} (h:Ev X k env ρ e d) (q:d=d'):Ev X k env ρ e d':=q ▸ h
theorem item_int {ed:List Int} {t:Nat} (h:t < ed.length):(ed.map PyData.int)[placeOf ((t:Nat):Int) (ed.map PyData.int).length]?=some (.int (ed.getD t 0)):=by
  unfold placeOf
  rw [if_neg (by exact aQ 0xf1080c46ff rfl),Int.toNat_natCast,List.getElem?_map,List.getElem?_eq_getElem h,List.getD_eq_getElem?_getD,List.getElem?_eq_getElem h]
  rfl
noncomputable def NotHere (i j:Nat) (rest:List Blk):Prop:=∀ n r,rest ≠ (i,j,n) :: r
theorem stop_at {la lb:Nat} {b:Bool} {i j:Nat} {rest:List Blk} {ed:List Int} (g:Good la lb b i j rest) (e:aZ ed j rest) (hn:NotHere i j rest):∀ v:Int,ed[j]?=some v→v ≠ i:=by
  intro v hv hvi
  cases rest with
  | nil =>
    obtain ⟨u,hu,hlt⟩:=e j (Nat.le_refl _) (List.getElem?_eq_some_iff.mp hv).1
    rw [hv] at hu;cases hu;exact lqx [_] [_] 0xf119f08040c05f rfl hvi hlt
  | cons p r =>
    obtain ⟨ai,bj,n⟩:=p
    obtain ⟨h1,h2,h3,h4,h5⟩:=g.inv
    obtain ⟨e1,e2,e3⟩:=e
    rcases Nat.lt_or_ge j bj with h | h
    · obtain ⟨u,hu,hlt⟩:=e1 j (Nat.le_refl _) h
      rw [hv] at hu;cases hu;exact lqx [_] [_] 0xf119f08040c05f rfl hvi hlt
    · have hj:bj=j:=by exact aF 0xf11f101f012f010100f rfl h2 h
      subst hj
      have:=e2 0 h3
      rw [Nat.add_zero,hv] at this
      cases this
      have:ai=i:=by exact aF 0xf11f81f102f1c080ac5f rfl hvi
      exact hn n r (by rw [this])
theorem eq_run {la lb:Nat} {b:Bool} {i j:Nat} {rest:List Blk} {ed:List Int} (g:Good la lb b i j rest) (e:aZ ed j rest) :
    ∃ N,(∀ d,d < N→ed[j+d]?=some ((i+d:Nat):Int))∧(∀ v:Int,ed[j+N]?=some v→v ≠ ((i+N:Nat):Int))∧((N=0∧NotHere i j rest)∨(0 < N∧∃ r,rest=(i,j,N) :: r)):=by
  by_cases hn:NotHere i j rest
  · exact ⟨0,fun d h=>absurd h (Nat.not_lt_zero _),stop_at g e hn,.inl ⟨rfl,hn⟩⟩
  · simp only [NotHere,Classical.not_forall,Classical.not_not] at hn
    obtain ⟨n,r,rfl⟩:=hn
    obtain ⟨h1,h2,h3,h4,h5⟩:=g.inv
    obtain ⟨e1,e2,e3⟩:=e
    refine ⟨n,e2,stop_at h5 e3 (fun n' r' q=>?_),.inr ⟨h3,r,rfl⟩⟩
    subst q
    cases h5 with
    | cons _ _ _ h4' _=>exact h4' rfl ⟨rfl,rfl⟩
noncomputable def nextOf (la lb:Nat):List Blk→Nat×Nat
  | []=>(la,lb)
  | (ai,bj,_) :: _=>(ai,bj)
theorem gap_run {la:Nat} {b:Bool} {i j:Nat} {rest:List Blk} {ed:List Int} (g:Good la ed.length b i j rest) (e:aZ ed j rest) :
    ∃ N,j+N=(nextOf la ed.length rest).2∧(∀ d,d < N→∃ v:Int,ed[j+d]?=some v∧v < 0)∧(∀ v:Int,ed[j+N]?=some v→v=(nextOf la ed.length rest).1)∧(j+N=ed.length→(nextOf la ed.length rest).1=la):=by
  cases rest with
  | nil =>
    refine ⟨ed.length - j,?_,fun d h=>e _ (by exact aF 0xf110a00ff rfl) (by exact aO 0xf118f1008f102a1f301f210 rfl h),fun v hv=>?_,fun _=>rfl⟩
    · have:=g.le;simp [nextOf];exact aF 0xf11f110ff18f1108ff120a2f100f010 rfl this.2
    · have hv':=(List.getElem?_eq_some_iff.mp hv).1;have hg:=g.le;exact lqx [_,_,_] [_] 0xf1102c05f130a1f011 rfl hv'
  | cons p r =>
    obtain ⟨ai,bj,n⟩:=p
    obtain ⟨h1,h2,h3,h4,h5⟩:=g.inv
    obtain ⟨e1,e2,e3⟩:=e
    have:=h5.le
    refine ⟨bj - j,by simp [nextOf];exact aF 0xf11f110ff18f1108ff120a2f100f010 rfl h2,fun d h=>e1 _ (by exact aF 0xf110a00ff rfl) (by exact aO 0xf118f1008f102a1f301f210 rfl h),fun v hv=>?_,fun h=>by exact lq6 0xf111008f1111008ff111008f1111008ff542f360a2321a02081100f010 rfl h2 h3 this.2 h⟩
    have:=e2 0 h3
    rw [show j+(bj - j)=bj+0 by exact aF 0xf11f110ff18f1108ff081a20a2f100f010 rfl h2,this] at hv
    cases hv;simp [nextOf]
theorem opc_gap {la lb:Nat} {b:Bool} {i j:Nat} {rest:List Blk} (hn:NotHere i j rest) (hne:¬ (i=(nextOf la lb rest).1∧j=(nextOf la lb rest).2)) :
    opc la lb i j rest=code (if (nextOf la lb rest).1=i then "insert" else if j=(nextOf la lb rest).2 then "delete" else "replace") i (nextOf la lb rest).1 j (nextOf la lb rest).2 :: opc la lb (nextOf la lb rest).1 (nextOf la lb rest).2 rest:=by
  cases rest with
  | nil =>
    simp only [nextOf] at hne ⊢
    unfold opc gap
    rw [if_neg hne]
    simp
    rfl
  | cons p r =>
    obtain ⟨ai,bj,n⟩:=p
    simp only [nextOf] at hne ⊢
    unfold opc gap
    rw [if_neg hne]
    simp
    rfl
theorem good_next {la lb:Nat} {b:Bool} {i j:Nat} {rest:List Blk} (g:Good la lb b i j rest):Good la lb true (nextOf la lb rest).1 (nextOf la lb rest).2 rest∧i≤(nextOf la lb rest).1∧j≤(nextOf la lb rest).2:=by
  cases g with
  | nil h1 h2=>exact ⟨.nil (Nat.le_refl _) (Nat.le_refl _),h1,h2⟩
  | cons h1 h2 h3 h4 h5=>exact ⟨.cons (Nat.le_refl _) (Nat.le_refl _) h3 (fun e=>by cases e) h5,h1,h2⟩
theorem edit_next {la:Nat} {i j:Nat} {rest:List Blk} {ed:List Int} (h:j≤(nextOf la ed.length rest).2) (e:aZ ed j rest):aZ ed (nextOf la ed.length rest).2 rest:=by
  cases rest with
  | nil=>exact fun t h1 h2=>absurd h1 (Nat.not_le.mpr h2)
  | cons p r =>
    obtain ⟨ai,bj,n⟩:=p
    exact ⟨fun t h1 h2=>absurd h1 (Nat.not_le.mpr h2),e.2.1,e.2.2⟩
theorem tst_of_eq {X:Cx} {k:Nat} {env:Env} {ρ:List (Str×B)} {e:Expr} {b b':Bool} (h:Tst X k env ρ e b) (q:b=b'):Tst X k env ρ e b':=q ▸ h
theorem ex_scan {X:Cx} {k:Nat} {env:Env} {ρ:List (Str×B)} {Q:Fl→List (Str×B)→Prop} {x:Str} {p p' q q':Pos} {m:Nat} {test:Expr} {N:Nat} (hx:Own env x) (ht:∀ n:Nat,n≤N→Tst X k env (put ρ x (.val (.int n))) test (decide (n < N))) (hq:Q .next (put ρ x (.val (.int N)))) :
    Ex1 X k env (put ρ x (.val (.int 0))) (.While test [.AugAssign (.Name x p) .Add (.Constant (.int 1) m p') q] [] q') Q :=
  ex_while (fun m ρ'=>∃ n:Nat,n≤N∧m=N - n∧ρ'=put ρ x (.val (.int n))) (n:=N) ⟨0,Nat.zero_le _,rfl,rfl⟩ (by
    rintro m ρ' ⟨n,hn,rfl,rfl⟩ Q2 H2
    refine ⟨_,ht n hn,fun h=>?_,fun h=>?_⟩
    · have h:=of_decide_eq_true h
      exact aC (ex_iadd (a:=n) (b:=1) hs aJ hx (aE (H2.next ⟨N - (n+1),by exact aF 0xf1018f110108f321f101f011180a10 rfl h,n+1,h,rfl,by rw [put_put];rfl⟩)))
    · have h:=of_decide_eq_false h
      obtain rfl:n=N:=by exact aF 0xf101f11f102f1016100f rfl hn h
      exact hq)
section
variable {X:Cx} {k:Nat} {L f:Addr} {a b c:Value} {la:Nat} {ed:List Int} {i j:Nat} {cs:List PyData} {ρ:List (Str×B)}
noncomputable abbrev tEnv (a b c:Value) (L f:Addr):Env:=callEnvC (fdTold a b c) L f
theorem ev_edl (hlen:X.gl ("len":Str)=some (.builtin "len")) (hz:ed.length≤sizeLine) {p p2 p3:Pos} (h:aM ρ "edit" (.val (.list (ed.map .int)))):Ev X k (tEnv a b c L f) ρ (.Call (.Name "len" p) [.Name "edit" p2] [] p3) (.int ed.length) :=
  bH (ev_len hlen rfl (bB (aA h)) (by rw [List.length_map];exact hz)) (by rw [List.length_map])
theorem ev_edat (hz:ed.length≤sizeLine) {n:Nat} {p p2 p3 p4 p5:Pos} (T:TI la ed i j cs ρ) (hn:aM ρ "n" (.val (.int n))) (h:j+n < ed.length):Ev X k (tEnv a b c L f) ρ (.Subscript (.Name "edit" p) (.BinOp (.Name "j" p2) .Add (.Name "n" p3) p4) p5) (.int (ed.getD (j+n) 0)) :=
  ev_item (n:=((j+n:Nat):Int)) (bB (aA T.edit)) (aU (aA T.j) (aA hn)) (by exact aO 0xf121ac0ce3ff rfl) (by rw [List.length_map];exact aO 0xf112c10ac4f210a1f rfl h) (by rw [List.length_map];exact hz) (item_int h)
theorem ed_some {t:Nat} {v:Int} (h:ed[t]?=some v):t < ed.length∧ed.getD t 0=v:=by
  obtain ⟨h1,_⟩:=List.getElem?_eq_some_iff.mp h
  exact ⟨h1,by rw [List.getD_eq_getElem?_getD,h];rfl⟩
theorem scan_eq {n N:Nat} {P:Nat→Int→Bool} (hn:n≤N) (h1:∀ d,d < N→∃ v,ed[j+d]?=some v∧P d v=true) (h2:∀ v,ed[j+N]?=some v→P N v=false):(decide ((j:Int)+(n:Int) < (ed.length:Int)) && (P n (ed.getD (j+n) 0) && true))=decide (n < N):=by
  rw [Bool.and_true]
  rcases Nat.lt_or_ge n N with h | h
  · obtain ⟨v,hv,hp⟩:=h1 n h
    obtain ⟨e1,e2⟩:=ed_some hv
    rw [e2,hp,decide_eq_true (by exact aO 0xf112c1c0ca4f210a1f rfl e1:(j:Int)+(n:Int) < (ed.length:Int)),decide_eq_true h];rfl
  · obtain rfl:n=N:=by exact aF 0xf101f11f102f010100f rfl hn h
    rw [decide_eq_false (by exact aQ 0xf10016ff rfl:¬ n < n)]
    cases e:decide ((j:Int)+(n:Int) < (ed.length:Int)) with
    | false=>rfl
    | true =>
      have:=of_decide_eq_true e
      have hj:j+n < ed.length:=by exact aO 0xf11210a1f2c1c0ca4f rfl this
      rw [h2 _ (by rw [List.getElem?_eq_getElem hj,List.getD_eq_getElem?_getD,List.getElem?_eq_getElem hj];rfl)];rfl
theorem meas_lt {la lb i j i' j':Nat} (h1:i≤i') (h2:j≤j') (h3:i'≤la) (h4:j'≤lb) (h:i < i'∨j < j'):(la - i')+(lb - j') < (la - i)+(lb - j):=by exact lq6 0xf110101881f1010101881ff1001101018081f1018081fff100010881f110101010881ff10001000108081f1000010108081fff2717a076a1f3211018530410320100f251041350140 rfl h1 h2 h3 h4 h
noncomputable abbrev tBody:List Stmt:=whileBody (aD (aH toldSt) 2)
theorem told_same {bb:Bool} {n:Nat} {rest r:List Blk} {Q1:Fl→List (Str×B)→Prop} (T:TI la ed i j cs ρ) (hn0:aM ρ "n" (.val (.int n))) (g:Good la ed.length bb i j rest) (e:aZ ed j rest) (hr:rest=(i,j,n) :: r) (hc:cs.length≤sizeLine)
    (hQ:∀ {ρ':List (Str×B)} {i' j':Nat} {rest':List Blk} {cs':List PyData} {bb':Bool},TI la ed i' j' cs' ρ'→Good la ed.length bb' i' j' rest'→aZ ed j' rest'→cs'++opc la ed.length i' j' rest'=cs++opc la ed.length i j rest→(la - i')+(ed.length - j') < (la - i)+(ed.length - j)→Q1 .next ρ') :
    Exs X k (tEnv a b c L f) ρ (ifBody (aD tBody 2)) Q1:=by
  subst hr
  obtain ⟨g1,g2,g3,g4,g5⟩:=g.inv
  have hle:=g5.le
  refine aC (ex_append (ds:=cs) (d:=code "equal" i (i+n) j (j+n)) T.codes (aV (aB ev_str (aB (aA T.i) (aB (aU (aA T.i) (aA hn0)) (aB (aA T.j) (aB (aU (aA T.j) (aA hn0)) aG))))) (by simp only [List.length_cons,List.length_nil];decide)) hc ?_)
  refine aC (ex_swap (xs:=["i","j"]) (aV (aB (aU (aA (hn T.i rfl)) (aA (hn hn0 rfl))) (aB (aU (aA (hn T.j rfl)) (aA (hn hn0 rfl))) aG)) (by simp only [List.length_cons,List.length_nil];decide)) (bJ (.inl rfl) (bJ (.inl rfl) asgn_nil)) (aE ?_) rfl rfl rfl)
  refine hQ (i':=i+n) (j':=j+n) (cs':=cs++[code "equal" i (i+n) j (j+n)]) ⟨hn (hn (hn T.size rfl) rfl) rfl,hn (hn (hn T.edit rfl) rfl) rfl,hn (hn hs rfl) rfl,by k_mem,by k_mem⟩ g5 e.2.2 ?_ (meas_lt (Nat.le_add_right _ _) (Nat.le_add_right _ _) hle.1 hle.2 (.inl (Nat.lt_add_of_pos_right g3)))
  conv=>rhs;unfold opc gap
  simp
theorem told_gap {bb:Bool} {rest:List Blk} {Q1:Fl→List (Str×B)→Prop} (hlen:X.gl ("len":Str)=some (.builtin "len")) (hz:ed.length≤sizeLine) (T:TI la ed i j cs ρ) (g:Good la ed.length bb i j rest) (e:aZ ed j rest) (hne:i < la∨j < ed.length) (hc:cs.length≤sizeLine) (hnh:NotHere i j rest)
    (hQ:∀ {ρ':List (Str×B)} {i' j':Nat} {rest':List Blk} {cs':List PyData} {bb':Bool},TI la ed i' j' cs' ρ'→Good la ed.length bb' i' j' rest'→aZ ed j' rest'→cs'++opc la ed.length i' j' rest'=cs++opc la ed.length i j rest→(la - i')+(ed.length - j') < (la - i)+(ed.length - j)→Q1 .next ρ') :
    Exs X k (tEnv a b c L f) (put ρ "n" (.val (.int 0))) (ifElse (aD tBody 2)) Q1:=by
  obtain ⟨n,hM,m1,m2,m3⟩:=gap_run g e
  refine aC (ex_scan (N:=n) (.inl rfl) (fun n hn'=>tst_of_eq (aW (aL (aU (aA (hn T.j rfl)) (aA hs)) (ev_edl hlen hz (hn T.edit rfl)) rfl) fun ht=>aW (aL (ev_edat hz (T.pt rfl) hs (by have:=of_decide_eq_true ht;exact aO 0xf11210a1f2c1c0ca4f rfl this)) aJ rfl) fun _=>tst_and0)
    (scan_eq (P:=fun _ v=>decide (v < 0)) hn' (fun d hd=>let ⟨v,hv,h⟩:=m1 d hd;⟨v,hv,decide_eq_true h⟩) fun v hv=>decide_eq_false (by rw [m2 v hv];exact aQ 0xf1080c46ff rfl))) ?_)
  obtain ⟨gn,gi,gj⟩:=good_next g
  have en:=edit_next (la:=la) (i:=i) gj e
  have hne:¬ (i=(nextOf la ed.length rest).1∧j=(nextOf la ed.length rest).2):=by
    rintro ⟨q1,q2⟩
    cases rest with
    | nil=>simp only [nextOf] at q1 q2;exact bF 0xf101f11f9f3211018322102f rfl q1 q2 hne
    | cons p r=>obtain ⟨ai,bj,n'⟩:=p;simp only [nextOf] at q1 q2;exact hnh n' r (by rw [q1,q2])
  have hop:=opc_gap (la:=la) (lb:=ed.length) (b:=true) hnh hne
  rw [← hM] at gn gj en hop
  rw [hop] at hQ
  have hle:=gn.le
  generalize (nextOf la ed.length rest).1=G at *
  clear hop m1 g e hnh
  have T:=T.pt (z:="n") (b:=.val (.int n)) rfl
  have hN:aM (put ρ "n" (.val (.int n))) "n" (.val (.int n)):=hs
  generalize put ρ "n" (.val (.int n))=ρ1 at *
  refine aC (bK (d:=.int G) (bH (ev_if (aL (aU (aA T.j) (aA hN)) (ev_edl hlen hz T.edit) rfl) (fun ht=>ev_edat hz T hN (by have:=of_decide_eq_true ht;exact aO 0xf11210a1f2c1c0ca4f rfl this)) (fun _=>aA T.size)) ?_) (.inl rfl) ?_)
  · split
    · rename_i h
      have:=of_decide_eq_true h
      have hj:j+n < ed.length:=by exact aO 0xf11210a1f2c1c0ca4f rfl this
      rw [m2 (ed.getD (j+n) 0) (by rw [List.getElem?_eq_getElem hj,List.getD_eq_getElem?_getD,List.getElem?_eq_getElem hj];rfl)]
    · rename_i h
      have:=of_decide_eq_false (Bool.not_eq_true _ ▸ h)
      rw [m3 (by exact aO 0xf101f11f210a2f2c1c0ca46210a0f rfl hle.2 this)]
  have T:=T.pt (z:="goal") (b:=.val (.int G)) rfl
  have hN:=hn (x:="goal") (b:=.val (.int G)) hN rfl
  have hG:aM (put ρ1 "goal" (.val (.int G))) "goal" (.val (.int G)):=hs
  generalize put ρ1 "goal" (.val (.int G))=ρ2 at *
  refine aC (bK (d:=.str (if G=i then "insert" else if j=j+n then "delete" else "replace")) (bH (ev_if (aL (aA hG) (aA T.i) rfl) (fun _=>ev_str) (fun _=>ev_if (aL (aA hN) aJ rfl) (fun _=>ev_str) (fun _=>ev_str))) ?_) (.inl rfl) ?_)
  · by_cases q1:G=i
    · subst q1;simp
    · have q3:¬ ((G:Int)=i):=by exact aF 0xf11f81f1c0c56f1026f rfl q1
      by_cases q2:n=0
      · subst q2;simp [q1,q3]
      · have:¬ j=j+n:=by exact aF 0xf1f11f01a126f08026f rfl q2
        simp [q1,q2,q3]
  generalize (if G=i then ("insert":Str) else if j=j+n then "delete" else "replace")=w at *
  refine aC (ex_append (ds:=cs) (d:=code w i G j (j+n)) (hn T.codes rfl) (aV (aB (aA hs) (aB (aA (hn T.i rfl)) (aB (aA (hn hG rfl)) (aB (aA (hn T.j rfl)) (aB (aU (aA (hn T.j rfl)) (aA (hn hN rfl))) aG))))) (by simp only [List.length_cons,List.length_nil];decide)) hc ?_)
  refine aC (ex_swap (xs:=["i","j"]) (aV (aB (aA (hn (hn hG rfl) rfl)) (aB (aU (aA (hn (hn T.j rfl) rfl)) (aA (hn (hn hN rfl) rfl))) aG)) (by simp only [List.length_cons,List.length_nil];decide)) (bJ (.inl rfl) (bJ (.inl rfl) asgn_nil)) (aE ?_) rfl rfl rfl)
  exact hQ (cs':=cs++[code w i G j (j+n)]) ⟨hn (hn (hn (hn T.size rfl) rfl) rfl) rfl,hn (hn (hn (hn T.edit rfl) rfl) rfl) rfl,hn (hn hs rfl) rfl,by k_mem,by k_mem⟩ gn en (by rw [List.append_assoc];rfl) (meas_lt gi gj hle.1 hle.2 (by exact lq5 0xf1101f8001f11f10001f10a014318f20243276430210a2f rfl hM gi hne))
theorem told_turn {bb:Bool} {rest:List Blk} {Q1:Fl→List (Str×B)→Prop} (hlen:X.gl ("len":Str)=some (.builtin "len")) (hz:ed.length≤sizeLine) (T:TI la ed i j cs ρ) (g:Good la ed.length bb i j rest) (e:aZ ed j rest) (hne:i < la∨j < ed.length) (hc:cs.length≤sizeLine)
    (hQ:∀ {ρ':List (Str×B)} {i' j':Nat} {rest':List Blk} {cs':List PyData} {bb':Bool},TI la ed i' j' cs' ρ'→Good la ed.length bb' i' j' rest'→aZ ed j' rest'→cs'++opc la ed.length i' j' rest'=cs++opc la ed.length i j rest→(la - i')+(ed.length - j') < (la - i)+(ed.length - j)→Q1 .next ρ') :
    Exs X k (tEnv a b c L f) ρ tBody Q1:=by
  obtain ⟨N,h1,h2,hN⟩:=eq_run g e
  refine aC (bK aJ (.inl rfl) ?_)
  refine aC (ex_scan (N:=N) (.inl rfl) (fun n hn'=>tst_of_eq (aW (aL (aU (aA (hn T.j rfl)) (aA hs)) (ev_edl hlen hz (hn T.edit rfl)) rfl) fun ht=>aW (aL (ev_edat hz (T.pt rfl) hs (by have:=of_decide_eq_true ht;exact aO 0xf11210a1f2c1c0ca4f rfl this)) (aU (aA (hn T.i rfl)) (aA hs)) rfl) fun _=>tst_and0)
    (scan_eq (P:=fun d v=>v == (i:Int)+(d:Int)) hn' (fun d hd=>⟨_,h1 d hd,by simp⟩) fun v hv=>by have:=h2 v hv;simp;exact lqx [_,_] [_] 0xf11f81f1c0ca056f10ac056f rfl this)) ?_)
  refine aC (ex_if (aL (aA hs) aJ rfl) (fun hp=>?_) (fun hp=>?_))
  · have:=of_decide_eq_true hp
    rcases hN with ⟨h0,_⟩ | ⟨_,r,hr⟩
    · exact (aQ 0xf819f08020c084f rfl this h0).elim
    · exact told_same (T.pt rfl) hs g e hr hc fun a1 a2 a3 a4 a5=>aE (hQ a1 a2 a3 a4 a5)
  · have:=of_decide_eq_false hp
    obtain rfl:N=0:=by exact aQ 0xf1f11f0802f0c0846f rfl this
    rcases hN with ⟨_,hnh⟩ | ⟨h0,_⟩
    · exact told_gap hlen hz T g e hne hc hnh fun a1 a2 a3 a4 a5=>aE (hQ a1 a2 a3 a4 a5)
    · exact (lqx [] [] 0xf19f08081f rfl h0).elim
end
theorem opc_done {la lb:Nat} {b:Bool} {i j:Nat} {rest:List Blk} (g:Good la lb b i j rest) (h1:la≤i) (h2:lb≤j):opc la lb i j rest=[]:=by
  have hle:=g.le
  cases g with
  | nil _ _=>unfold opc gap;rw [if_pos (by exact bF 0xf101f10001f11f1001f2320127f230010320100f rfl h1 h2 hle.1 hle.2)]
  | cons h1 h2 h3 h4 h5=>have:=h5.le;exact (bF 0xf11119f023a03102081100f rfl (by assumption) h3 h2 this.2).elim
inductive TL (la:Nat) (ed:List Int) (tot:List PyData) (m:Nat) (ρ:List (Str×B)):Prop
  | mk {i j:Nat} {rest:List Blk} {cs:List PyData} {b:Bool}:TI la ed i j cs ρ→Good la ed.length b i j rest→aZ ed j rest→cs++opc la ed.length i j rest=tot→m=(la - i)+(ed.length - j)→TL la ed tot m ρ
theorem told_walk {X:Cx} {k:Nat} {L f:Addr} {a b c:Value} (hlen:X.gl ("len":Str)=some (.builtin "len")) {la:Nat} {ed:List Int} {bs:List Blk} (hg:Good la ed.length true 0 0 bs) (he:aZ ed 0 bs) (hz:ed.length≤sizeLine) (hc:(opc la ed.length 0 0 bs).length≤sizeLine) :
    Exs X k (callEnvC (fdTold a b c) L f) [("size",.val (.int la)),("edit",.val (.list (ed.map .int)))] (aH toldSt) fun fl _=>fl=.ret (.list (opc la ed.length 0 0 bs)):=by
  refine aC (ex_assignF (evf_list aG (by decide)) (.inl rfl) ?_)
  refine aC (ex_assign2 aJ (aK (.inl rfl)) (aK (.inl rfl)) ?_)
  generalize hT:opc la ed.length 0 0 bs=tot at *
  refine aC (ex_while (TL la ed tot) (.mk (i:=0) (j:=0) (cs:=[]) ⟨by k_mem,by k_mem,by k_mem,by k_mem,by k_mem⟩ hg he hT rfl) ?_)
  rintro m ρ ⟨T,g,e,hcs,rfl⟩ Q1 H1
  rename_i i j rest cs bb
  refine ⟨_,tst_or (aL (aA T.i) (aA T.size) rfl) (fun _=>tst_or (aL (aA T.j) (ev_edl hlen hz T.edit) rfl) fun _=>tst_or0),fun ht=>?_,fun hf=>?_⟩
  · simp only [Bool.or_eq_true,decide_eq_true_eq,Bool.or_false] at ht
    exact told_turn hlen hz T g e (by exact bF 0xf101f11f3211018f3c2c41c0c48f rfl ht) (by rw [← hcs,List.length_append] at hc;exact aO 0xf11200f210a0f rfl hc) fun a1 a2 a3 a4 a5=>H1.next ⟨_,a5,a1,a2,a3,a4.trans hcs,rfl⟩
  · simp only [Bool.or_eq_false_iff,decide_eq_false_iff_not,Bool.or_false] at hf
    rw [opc_done g (by exact aF 0xf11010f1c0c46f rfl hf.1) (by exact aF 0xf11010f1c0c46f rfl hf.2),List.append_nil] at hcs
    subst hcs
    exact aC (ex_returnOwn (ds:=cs) T.codes rfl)
noncomputable abbrev smSt (i:Nat):Stmt:=aD (aR (aD topBody 5)) i
noncomputable def fdSM (i:Nat) (nm:Str) (z:Value×Value×Value×Value):FuncData:=fnOf nm ("SequenceMatcher."++nm) (defArgs (smSt i)) (aH (smSt i)) (bL (smSt i)) z.1 .none z.2.1 z.2.2.1 none z.2.2.2 .none
noncomputable def SMeth (X:Cx) (i:Nat) (f:Addr) (nm bind:Str) (names:List Str):Prop :=
  findIn X.K (.ref 242) bind=some (some (.ref f))∧typeIn X.K (.ref f)=some (.type "function")∧∃ z,DefAt X f (fdSM i nm z) (aH (smSt i)) names
noncomputable def smAttrs:List Str:=["isjunk","a","b","autojunk","matching_blocks","opcodes","fullbcount","b2j","bjunk","bpopular"]
structure DF (X:Cx):Prop where
  cls:∃ cd,ClsOk X.K 242 cd
  own:∀ name∈smAttrs,findIn X.K (.ref 242) name=some none∧takerIn X.K 242 name=some none
  init:SMeth X 1 160 "__init__" "__init__" ["self","isjunk","a","b","autojunk"]
  seqs:SMeth X 2 167 "set_seqs" "set_seqs" ["self","a","b"]
  seq1:SMeth X 3 174 "set_seq1" "set_seq1" ["self","a"]
  seq2:SMeth X 4 181 "set_seq2" "set_seq2" ["self","b"]
  chain:SMeth X 5 188 "__chain_b" "_SequenceMatcher__chain_b" ["self"]
  find:SMeth X 6 196 "find_longest_match" "find_longest_match" ["self","alo","ahi","blo","bhi"]
  blocks:SMeth X 7 203 "get_matching_blocks" "get_matching_blocks" ["self"]
  codes:SMeth X 8 210 "get_opcodes" "get_opcodes" ["self"]
  len:X.gl ("len":Str)=some (.builtin "len")
  range:X.gl ("range":Str)=some (.type "range")
  enumerate:X.gl ("enumerate":Str)=some (.type "enumerate")
  set:X.gl ("set":Str)=some (.type "set")
  list:X.gl ("list":Str)=some (.type "list")
  map:X.gl ("map":Str)=some (.type "map")
  tuple:X.gl ("tuple":Str)=some (.type "tuple")
  mtch:X.gl ("Match":Str)=some (.ref 135)
theorem SMeth.on {X:Cx} {i:Nat} {f:Addr} {nm bind:Str} {names:List Str} (s:SMeth X i f nm bind names) {h:Heap} {D:PyData→Value→Prop} (k:∀ b o,X.h₀.get? b=some o→h.get? b=some o):SMeth (X.on h D) i f nm bind names:=⟨s.1,s.2.1,let ⟨z,d⟩:=s.2.2;⟨z,d.on k⟩⟩
theorem DF.on {X:Cx} (d:DF X) {h:Heap} {D:PyData→Value→Prop} (k:∀ b o,X.h₀.get? b=some o→h.get? b=some o):DF (X.on h D) :=
  ⟨d.cls,d.own,d.init.on k,d.seqs.on k,d.seq1.on k,d.seq2.on k,d.chain.on k,d.find.on k,d.blocks.on k,d.codes.on k,d.len,d.range,d.enumerate,d.set,d.list,d.map,d.tuple,d.mtch⟩
noncomputable def NotSame (h:Heap) (u v:Value):Prop:=(v=.none∧u ≠ .none)∨∃ p q op oq,u=.ref p∧v=.ref q∧p ≠ q∧h.get? p=some op∧h.get? q=some oq∧op.cls ≠ .type "tuple"
section
variable {X:Cx} {k:Nat} {env:Env} {ρ:List (Str×B)} {Q:Fl→List (Str×B)→Prop}
theorem tst_notSame {l r:Expr} {pos:Pos} {u v:Value} (hl:EvV X k env ρ l u) (hr:EvV X k env ρ r v) (hn:NotSame X.h₀ u v) (hm:behindInMarks .Is r=false:=by with_unfolding_all rfl):Tst X k env ρ (.Compare l [.Is] [r] pos) false:=fun A bad O s R q =>
  wpAny_isTrue_Compare1 (hl.use R q fun s1 x1 r1=>hr.use R r1 fun s2 x2 r2=>by
    rcases hn with ⟨rfl,hu⟩ | ⟨p,q,op,oq,rfl,rfl,hne,hp,hq,hc⟩
    · exact is_none_ne hu (wpAny_truthy_bool ⟨x1.trans x2,rfl⟩)
    · exact wpAny_is_ref_other hne (r2.base _ _ hp) (r2.base _ _ hq) hc (wpAny_truthy_bool ⟨x1.trans x2,rfl⟩)) hm
end
theorem low_no {h:Heap}:∀ a:Addr,(fun _:Addr=>False) a→∃ o,h.get? a=some o:=fun _ x=>x.elim
theorem NotSame.hide {h:Heap} {u v:Value} {dx:Addr} (n:NotSame h u v) (hu:∀ p,u=.ref p→p ≠ dx) (hv:∀ p,v=.ref p→p ≠ dx):NotSame (h.hide dx) u v:=by
  rcases n with n | ⟨p,q,op,oq,e1,e2,hne,hp,hq,hc⟩
  · exact .inl n
  · exact .inr ⟨p,q,op,oq,e1,e2,hne,by rw [Heap.hide_ne _ (hu p e1)];exact hp,by rw [Heap.hide_ne _ (hv q e2)];exact hq,hc⟩
theorem Inst.xne {h:Heap} {C x dx:Addr} {m:Str→Option Value} {N:Nat} (I:Inst h C x dx m N):x ≠ dx:=fun e=>by
  obtain ⟨o,es,ep,ho,hd,_⟩:=I.ns
  rw [← e,I.obj] at ho;cases ho;cases hd
theorem set_seq1_call {X:Cx} {k:Nat} (F:DF X) {A:Around} {s:Shared} {x dx:Addr} {m:Str→Option Value} {N:Nat} {va v0:Value} (R:Room (k+1) A) (a:At X s) (I:Inst s.heap 242 x dx m N) (hX:X.h₀.get? dx=none)
    (hm:m "a"=some v0) (hn:NotSame (s.heap.hide dx) va v0) (hv0:handedIn v0=true) (hN:N+3 < 1000) :
    codeAny (model X.prog X.w) A (.call (.ref 174) ⟨[.ref x,va],[]⟩) (fun r s'=>r=.ok (.ret .none)∧KeepBut dx s s'∧Inst s'.heap 242 x dx (upd (upd (upd m "a" va) "matching_blocks" .none) "opcodes" .none) (N+3)) s:=by
  obtain ⟨cd,hC⟩:=F.cls
  obtain ⟨o,ho,hao⟩:=I.nsb.aobj
  obtain ⟨_,_,z,D⟩:=F.seq1
  have hx:(s.heap.hide dx).get? x=some (instObj 242 dx):=by rw [Heap.hide_ne _ I.xne];exact I.obj
  refine codeAny_mono (method_frame (bad:=fun _=>False) (Dt:=fun _ _=>False) (bs:=[.raw (.ref x),.raw va]) (P:=fun fl ρ'=>fl=.next∧∃ o',aM ρ' "#d" (.at dx o')∧AObj o' (upd (upd (upd m "a" va) "matching_blocks" .none) "opcodes" .none) (N+3)) D R a ho hao.noseq hX (fun h=>h) low_no (fun _ _ e=>e.elim) (.cons (.raw _) (.cons (.raw _) .nil)) rfl fun L=>?_) fun r s' h=>?_
  · refine aC (ex_doc ?_)
    refine aC (ex_if (b:=false) (tst_notSame (bG (by k_mem)) (evv_attr (key:="#d") (m:=m) (N:=N) (by k_mem) ⟨hx,.inl ⟨o,by k_mem,hao⟩⟩ hC (F.own "a" (by decide)).1 hm hv0) hn) (fun e=>by cases e) fun _=>aE ?_)
    refine aC (ex_assignV (bG (by k_mem)) (bN (key:="#d") (by k_mem) hx (by k_mem) hao hC (F.own "a" (by decide)).2 (by exact aQ 0xf113e81901f3e819380a1f rfl hN) fun o1 ha1=>?_))
    refine aC (ex_assignV2 evv_none (bN (key:="#d") (by k_mem) hx (by k_mem) ha1 hC (F.own "matching_blocks" (by decide)).2 (by exact aQ 0xf113e819180a1f3e819380a1f rfl hN) fun o2 ha2=>bN (key:="#d") (by k_mem) hx (by k_mem) ha2 hC (F.own "opcodes" (by decide)).2 (by exact aQ 0xf113e81918180aa1f3e819380a1f rfl hN) fun o3 ha3=>aE ?_))
    exact ⟨⟨rfl,o3,by k_mem,ha3⟩,⟨o3,by k_mem⟩,.inl rfl⟩
  · obtain ⟨v,fl,ρ',O',L,rfl,⟨rfl,o',ho',ha'⟩,hv,kb,r'⟩:=h
    cases hv
    exact ⟨rfl,kb,kb.keep _ _ I.xne I.obj,ha'.nsb (r'.pt _ _ _ ho').2⟩
section
variable {X:Cx} {k:Nat} {env:Env} {ρ:List (Str×B)} {Q:Fl→List (Str×B)→Prop}
theorem enum_dr {bad:Addr→Prop} {O:Str→Option Addr} {A:Around} {s s1 s2:Shared} {elts:List Expr} {tk0:Nat} {tpos:Pos} {items:List PyData} {l ia:Addr} {us:Array Value} {n:Nat} (R:Room k A) (x1:Ext s s1) (r1:Rel X bad O env ρ s1) (x2:Ext s1 s2) (hb:¬ aS bad O l)
    (g:s1.heap.get? l=some { cls:=.type "list",data:=.seq us n }) (qs:RepL (aS bad O) s1.heap items us.toList) (fI:s1.heap.get? ia=none) (fE:s1.heap.get? (ia+1)=none)
    (hE:IsEnum s2.heap (ia+1) ia 0 .none) (hI:s2.heap.IsListIter ia l 0) :
    Dr X A bad O env s s2 (.Tuple elts tk0 tpos) (items.mapIdx fun i d=>.tuple [.int i,d]) (ia+1) [ia+1,ia,l] [ia+1,ia] (fun i h=>(∃ old,IsEnum h (ia+1) ia i old)∧h.IsListIter ia l i∧h.IsList l us):=by
  have hlI:l ≠ ia:=fun e=>by rw [e,fI] at g;cases g
  have hlE:l ≠ ia+1:=fun e=>by rw [e,fE] at g;cases g
  have W:=WalksT.enumerate (prog:=X.prog) (w:=X.w) R.handled (ia+1) ia l (Nat.succ_ne_self _) hlE hlI us
  have hl:us.size=items.length:=by rw [← Array.length_toList,qs.length]
  exact {
    sub:=W.sub
    frame:=W.frame
    start:=⟨⟨_,hE⟩,hI,⟨_,x2.keep _ _ g,rfl,_,rfl⟩⟩
    new:=fun b hb=>by
      rcases List.mem_cons.mp hb with rfl | hb
      · exact x1.none fE
      · rw [List.mem_singleton.mp hb];exact x1.none fI
    live:=fun i h st b hb=>by
      obtain ⟨⟨_,e⟩,⟨o,e',_⟩,⟨o2,e2,_⟩⟩:=st
      rcases List.mem_cons.mp hb with rfl | hb
      · exact ⟨_,e⟩
      · rcases List.mem_cons.mp hb with rfl | hb
        · exact ⟨_,e'⟩
        · rw [List.mem_singleton.mp hb];exact ⟨_,e2⟩
    noseq:=fun i h st b hb o vs n eo ed=>by
      obtain ⟨⟨_,e⟩,⟨o1,e',_,d1⟩,_⟩:=st
      rcases List.mem_cons.mp hb with rfl | hb
      · cases eo.symm.trans e;cases ed
      · rw [List.mem_singleton.mp hb] at eo
        cases eo.symm.trans e'
        cases d1.symm.trans ed
    apart:=fun b hb'=>by
      rcases List.mem_cons.mp hb' with rfl | hb'
      · exact .inl (.head _)
      · rcases List.mem_cons.mp hb' with rfl | hb'
        · exact .inl (.tail _ (.head _))
        · rw [List.mem_singleton.mp hb']
          exact .inr ⟨noplace_seq r1.frm g rfl,fun x hx=>hb (.inr ⟨x,hx⟩)⟩
    item:=fun i d s' N K E E' hd hSt hK=>by
      rw [List.getElem?_mapIdx] at hd
      obtain ⟨c,hc,rfl⟩:=Option.map_eq_some_iff.mp hd
      obtain ⟨⟨old,he⟩,hit,hli⟩:=hSt
      obtain ⟨v,hv,q⟩:=qs.get hc
      rw [Array.getElem?_toList] at hv
      have hT0:=get_size s'.heap
      have hne:s'.heap.objs.size ≠ ia+1:=Nat.ne_of_gt (Heap.lt_size he)
      refine wpAny_pyNext_enum_item he hit hli hv (Nat.succ_ne_self _) fun h1 ho hit1 hT _ hk=>wpAny_letOwnedTupleGo_enum (s:={ s' with heap:=h1,toks:=s'.toks+1 }) ho fun h2 he2 hs2=>?_
      generalize s'.heap.objs.size=T at *
      have k2:∀ b o,b ∉ [ia+1,ia]→s'.heap.get? b=some o→h2.get? b=some o:=fun b o hw e=>(hs2.2 b fun z=>hw (z ▸ .head _)).trans (hk b o (fun z=>hw (z ▸ .head _)) (fun z=>hw (z ▸ .tail _ (.head _))) e)
      exact hK (.ref T) h2 (s'.toks+1) ⟨⟨v,he2⟩,hit1.extBut hs2.extBut (Nat.ne_of_lt (Nat.lt_succ_self _)),hli.at fun o e=>k2 l o (fun z=>by rcases List.mem_cons.mp z with z | z;exact hlE z;exact hlI (List.mem_singleton.mp z)) e⟩ k2 fun bd fr tr =>
        .tuple (fr T hT0) ((hs2.2 T hne).trans hT) (.cons (.int _ _) (.cons (tr _ _ (q.ext x2)) .nil))
    done:=fun s' Q E hSt=>W.done s' Q E (by rw [hl];rw [List.length_mapIdx] at hSt;exact hSt) }
theorem ex_for_enum {elts:List Expr} {tk0:Nat} {tpos p ipos pos:Pos} {e:Expr} {body:List Stmt} {items:List PyData} (hx:X.gl ("enumerate":Str)=some (.type "enumerate")) (hk:env.kindOf ("enumerate":Str)=some .globalImplicit) (he:Ev X k env ρ e (.list items)) (J:Nat→List (Str×B)→Prop) (h0:J 0 ρ)
    (turn:∀ (i:Nat) d ρ',items[i]?=some d→J i ρ'→∀ Q',Loop (J (i+1)) Q Q'→∃ ρ₁,Asg X k env ρ' (.Tuple elts tk0 tpos) (.tuple [.int i,d]) ρ₁∧Exs X k env ρ₁ body Q')
    (hend:∀ ρ',J items.length ρ'→Q .next ρ') (hst:starEach [e] env=[(false,eval e env)]:=by rfl) (hs:∀ x,foldedSetIterable (.Call (.Name "enumerate" p) [e] [] ipos) env x=pure x:=by intro _;rfl) :
    Ex1 X k env ρ (.For (.Tuple elts tk0 tpos) (.Call (.Name "enumerate" p) [e] [] ipos) body [] pos) Q:=fun A bad O s R r=>by
  refine wpAny_For (type_use R r hx hk (aB he aG hst) (fun vs s1 x1 r1 q1=>?_) (by decide) hst (by rw [hst];rfl)) hs
  refine q1.oneE fun v qa=>?_
  refine qa.listE fun l us n hb g qs=>?_
  refine call_enumerate_list ⟨_,g,rfl,_,rfl⟩ fun h2 hE hI hz hkeep=>wpAny_pyIter_enum (s:={ s1 with heap:=h2 }) hE ?_
  refine for_draw R r (x1.trans ⟨hkeep,rfl,rfl⟩) (enum_dr (s2:={ s1 with heap:=h2 }) R x1 r1 ⟨hkeep,rfl,rfl⟩ hb g qs (get_size _) ?_ hE hI) J h0 (fun i d ρ' hd=>?_) fun ρ' h=>hend ρ' (by rw [List.length_mapIdx] at h;exact h)
  · cases e:s1.heap.get? (s1.heap.objs.size+1) with
    | none=>rfl
    | some o=>exact absurd (Heap.lt_size e) (Nat.not_lt.mpr (Nat.le_succ _))
  · rw [List.getElem?_mapIdx] at hd
    obtain ⟨c,hc,rfl⟩:=Option.map_eq_some_iff.mp hd
    exact turn i c ρ' hc
end
inductive IntL:List Value→List Int→Prop
  | nil:IntL [] []
  | cons {n:Int} {t:Tok} {vs:List Value} {ns:List Int}:IntL vs ns→IntL (.int n t :: vs) (n :: ns)
theorem IntL.length {vs:List Value} {ns:List Int} (h:IntL vs ns):vs.length=ns.length:=by induction h with | nil=>rfl | cons _ ih=>simp [ih]
theorem IntL.append {vs us:List Value} {ns ms:List Int} (h:IntL vs ns) (g:IntL us ms):IntL (vs++us) (ns++ms):=by induction h with | nil=>exact g | cons _ ih=>exact .cons ih
theorem IntL.rep {bad:Addr→Prop} {h:Heap} {vs:List Value} {ns:List Int} (q:IntL vs ns):RepL bad h (ns.map .int) vs:=by induction q with | nil=>exact .nil | cons _ ih=>exact .cons (.int _ _) ih
noncomputable def IObj (o:Obj) (ns:List Int):Prop:=∃ vs n,o={ cls:=.type "list",data:=.seq vs n }∧IntL vs.toList ns
theorem IObj.nil:IObj { cls:=.type "list",data:=.seq #[] } []:=⟨#[],_,rfl,.nil⟩
section
variable {X:Cx} {k:Nat} {env:Env} {ρ:List (Str×B)} {Q:Fl→List (Str×B)→Prop}
noncomputable abbrev DK (X:Cx):=intKind X.prog X.w
theorem dictOf_at {bad:Addr→Prop} {O:Str→Option Addr} {s:Shared} (r:Rel X bad O env ρ s) {key:Str} {d:Addr} {o:Obj} {kvs:List (Int×Value)} (hk:aM ρ key (.at d o)) (ho:o.IsDictOf (DK X) kvs):s.heap.DictOf (DK X) d kvs :=
  Heap.dictOf_iff.mpr ⟨o,(r.pt _ _ _ hk).2,ho⟩
theorem getMethod_dictOf {A:Around} {s:Shared} {name:Str} {id:String} {pl:Sem Bool} {d:Addr} {kvs:List (Int×Value)} {P:Value×List Value→Shared→Prop} (slot:Slot "dict" name id) (hty:typeOf (.builtin id)=pure (.type "method_descriptor")) (hd:s.heap.DictOf (DK X) d kvs) (h:P (.builtin id,[.ref d]) s) :
    wpAny (model X.prog X.w) A (getMethod (.ref d) name pl) P noE s:=getMethod_builtin hd.typeIs PySem.F.plainAttrs_dict slot hty hd.mapOf.noDict h
theorem ex_setdefault {x y key nk:Str} {px py apos cpos lpos pos:Pos} {pl:Sem Bool} {e:Expr} {d:Addr} {o:Obj} {kvs:List (Int×Value)} {i:Int} (hx:aM ρ x (.raw (.ref d))) (hk:aM ρ key (.at d o)) (ho:o.IsDictOf (DK X) kvs) (hlow:(d == sysModules)=false) (hz:kvs.length≤sizeLine) (he:Ev X k env ρ e (.int i)) (hy:Own env y) (hnk:nk ≠ key)
    (h1:∀ v,valueAt kvs i=some v→Q .next (put ρ y (.raw v)))
    (h2:valueAt kvs i=none→∀ l o',o'.IsDictOf (DK X) (stored kvs i (.ref l))→Q .next (put (put (put ρ nk (.at l { cls:=.type "list",data:=.seq #[] })) key (.at d o')) y (.raw (.ref l))))
    (hd:(x == ("__debug__":Str))=false:=by decide)
    (hev:eval (.Call (.Attribute (.Name x px) "setdefault" apos) [e,.List [] lpos] [] cpos) env=(do
      let ov ← eval (.Name x px) env
      standAt apos.atName
      let (f,first) ← holding [ov] (getMethod ov "setdefault" pl)
      callWith cpos f first (backTo cpos (starEach [e,.List [] lpos] env)) []):=by rfl)
    (hst:starEach [e,.List [] lpos] env=[(false,eval e env),(false,eval (.List [] lpos) env)]:=by rfl) (hst2:starEach [.List [] lpos] env=[(false,eval (.List [] lpos) env)]:=by rfl)
    (hs:swapsWithSole [.Name y py] (.Call (.Attribute (.Name x px) "setdefault" apos) [e,.List [] lpos] [] cpos) pos.line env=pure false:=by rfl) (hw:swappedStores [.Name y py] (.Call (.Attribute (.Name x px) "setdefault" apos) [e,.List [] lpos] [] cpos) env=pure none:=by rfl) :
    Ex1 X k env ρ (.Assign [.Name y py] (.Call (.Attribute (.Name x px) "setdefault" apos) [e,.List [] lpos] [] cpos) pos) Q:=fun A bad O s R r=>by
  refine wpAny_Assign_stores ?_ hs hw
  refine MethodCall_ (wpAny_Name (Lk.load r.ok.kind (r.raw x _ hx) ?_) hd) hev
  refine getMethod_dictOf PySem.F.slot_dict_setdefault PySem.F.type_dict_setdefault (dictOf_at r hk ho) ?_
  refine callWith_method1 ?_ (by rw [hst,hst2]) (by rw [hst2];rfl)
  refine wpAny_items_cons (he.use R r fun v s1 x1 r1 q1=>?_) (by rw [hst,hst2])
  refine wpAny_items_cons (wpAny_mono (evn_list A bad O s1 R r1) (fun u s2 h=>?_) fun _ _ x=>x) hst2
  obtain ⟨x2,l,ol,rfl,hl,hol,_,rfl⟩:=h
  refine wpAny_items_nil ?_
  refine q1.intE fun t=>?_
  have r2:=r1.ext x2
  have D2:=dictOf_at r2 hk ho
  have x12:=x1.trans x2
  refine call_meetsIn PySem.F.slot_dict_setdefault D2.typeIs PySem.F.entry_dict_setdefault (PySem.F.args_dict_setdefault_3 _ _ _) (kt_meets_setdefault (DK X) d (intKind_is _ _ i t) hlow (.ref l)) ⟨kvs,D2,hz,fun v hv=>?_,fun hn h' hD' hs'=>?_⟩
  · show wpAny _ _ (assign (.Name y py) env v) _ _ _
    have x3:=x12.trans (Ext.toks s2 (s2.toks+1))
    refine wpAny_assign_Name (store_raw (r.ext x3) hy fun s4 st r4 _=>?_)
    exact ⟨.next,_,_,h1 v hv,rfl,(Step.of_ext x3).trans st,r4⟩
  · show wpAny _ _ (assign (.Name y py) env (.ref l)) _ _ _
    obtain ⟨o',ho',hd'⟩:=Heap.dictOf_iff.mp hD'
    obtain ⟨st2,r2'⟩:=r1.at_new nk x2 hl hol
    obtain ⟨st3,r3⟩:=r2'.at_change (x:=key) (s':={ s2 with heap:=h',toks:=s2.toks+1 }) (show aM _ key (.at d o) by show List.lookup _ _=_;rw [bA _ hnk.symm];exact hk) (fun b ob hb e=>(hs'.2 b hb).trans e) ho' rfl rfl
    refine wpAny_assign_Name (store_raw r3 hy fun s4 st r4 _=>?_)
    exact ⟨.next,_,_,h2 hn l o' hd',rfl,((Step.of_ext x1).trans (st2.trans st3)).trans st,r4⟩
theorem ex_appendAt {x key:Str} {px apos cpos pos:Pos} {pl:Sem Bool} {e:Expr} {l:Addr} {o:Obj} {ns:List Int} {i:Int} (hx:aM ρ x (.raw (.ref l))) (hk:aM ρ key (.at l o)) (ho:IObj o ns) (hz:ns.length≤sizeLine) (he:Ev X k env ρ e (.int i))
    (hq:∀ o',IObj o' (ns++[i])→Q .next (put ρ key (.at l o')))
    (hd:(x == ("__debug__":Str))=false:=by decide)
    (hm:eval (.Call (.Attribute (.Name x px) "append" apos) [e] [] cpos) env=(do
      let ov ← eval (.Name x px) env
      standAt apos.atName
      let (f,first) ← holding [ov] (getMethod ov "append" pl)
      callWith cpos f first (backTo cpos (starEach [e] env)) []):=by rfl)
    (hst:starEach [e] env=[(false,eval e env)]:=by rfl) (hi:interactive env=false:=by rfl) (hs:swapsWith (.Call (.Attribute (.Name x px) "append" apos) [e] [] cpos) none pos.line env=pure false:=by rfl) :
    Ex1 X k env ρ (.Expr (.Call (.Attribute (.Name x px) "append" apos) [e] [] cpos) pos) Q:=fun A bad O s R r=>by
  obtain ⟨vs,n,rfl,hil⟩:=ho
  have hg:=(r.pt _ _ _ hk).2
  refine wpAny_Expr (MethodCall_ (wpAny_Name (Lk.load r.ok.kind (r.raw x _ hx) ?_) hd) hm) hi hs
  refine getMethod_list_of PySem.F.slot_list_append PySem.F.type_list_append ⟨_,hg,rfl,_,rfl⟩ ⟨_,hg,rfl⟩ (callWith_method1 (wpAny_items_cons (he.use R r fun v s1 x1 r1 q1=>wpAny_items_nil ?_) hst) hst)
  refine q1.intE fun t=>?_
  refine wpAny_list_append_plain ⟨n,x1.keep _ _ hg⟩ (fun h' hp hs'=>?_) (by rw [← Array.length_toList,hil.length];exact hz)
  obtain ⟨n',g'⟩:=hp
  obtain ⟨st2,r2⟩:=r1.at_change (s':={ s1 with heap:=h' }) hk (fun b ob hb e=>(hs'.2 b hb).trans e) g' rfl rfl
  exact ⟨.next,_,_,hq _ ⟨_,n',rfl,by rw [Array.toList_push];exact hil.append (.cons .nil)⟩,rfl,(Step.of_ext x1).trans st2,r2⟩
theorem evn_set {p pos:Pos} (hx:X.gl ("set":Str)=some (.type "set")) (hk:env.kindOf ("set":Str)=some .globalImplicit):EvN X k env ρ (.Call (.Name "set" p) [] [] pos) (fun o=>∃ led,o={ cls:=.type "set",dict:=none,data:=.set #[] 0 (.fresh 0 0 led) }):=fun A bad O s R r =>
  wpAny_Call_Name_kw (glob_use r hx hk (PyProof.Rows.callWith_type0 (call_set_0 fun led=>⟨Ext.push _ _,_,_,rfl,get_size _,Heap.get?_push_size _ rfl,new_low r (Nat.le_refl _),led,rfl⟩)))
end
noncomputable def posTo (bs:List Int) (n:Nat) (x:Int):List Int:=((List.range n).filter fun j=>bs[j]? == some x).map fun j:Nat=>(j:Int)
theorem posTo_succ (bs:List Int) (n:Nat) (x:Int):posTo bs (n+1) x=posTo bs n x++(if bs[n]?=some x then [(n:Int)] else []):=by
  unfold posTo
  rw [List.range_succ,List.filter_append,List.map_append]
  congr 1
  by_cases h:bs[n]?=some x <;> simp [h]
theorem posTo_length (bs:List Int) (n:Nat) (x:Int):(posTo bs n x).length≤n:=by
  unfold posTo
  rw [List.length_map]
  exact Nat.le_trans (List.length_filter_le _ _) (by simp)
noncomputable def ixn (x:Int):Str:=⟨#[36,if x < 0 then 1 else 0,x.natAbs]⟩
theorem ixn_inj {x y:Int} (h:ixn x=ixn y):x=y:=by
  unfold ixn at h
  injection h with h
  simp only [Array.mk.injEq,List.cons.injEq,and_true,true_and] at h
  obtain ⟨h1,h2⟩:=h
  split at h1 <;> split at h1 <;> lia
theorem ne_ixn {s:Str} {x:Int} (h:s.cps[0]? ≠ some 36:=by decide):s ≠ ixn x:=fun e=>h (by rw [e];rfl)
noncomputable def ChainD (X:Cx) (h:Heap) (bs:List Int) (d:Addr):Prop:=∃ kvs:List (Int×Value),h.DictOf (DK X) d kvs∧(d == sysModules)=false∧kvs.length≤sizeLine ∧
  ∀ x,(∃ v l o,valueAt kvs x=some v∧v=.ref l∧h.get? l=some o∧IObj o (posTo bs bs.length x))∨(valueAt kvs x=none∧posTo bs bs.length x=[])
noncomputable def EmptySet (h:Heap) (a:Addr):Prop:=∃ led,h.get? a=some { cls:=.type "set",dict:=none,data:=.set #[] 0 (.fresh 0 0 led) }
theorem Rep.hide {bad:Addr→Prop} {h:Heap} {dx:Addr} {o:Obj} {d:PyData} {v:Value} (q:Rep bad h d v) (ho:h.get? dx=some o) (hn:∀ vs n,o.data ≠ .seq vs n):Rep bad (h.hide dx) d v :=
  q.keep fun b ob vs n _ e ed=>by
    rw [Heap.hide_ne _ fun z=>?_];exact e
    subst z;rw [ho] at e;cases e;exact hn vs n ed
local macro_rules | `(tactic| k_mem)=>`(tactic| ((repeat (first | with_reducible exact hs | refine hn ?_ rfl | refine hn2 ne_ixn ?_)) <;> first | assumption | exact hs | rfl))
theorem valueAt_stored (kvs:List (Int×Value)) (k:Int) (v:Value) (h:valueAt kvs k=none) (x:Int):valueAt (stored kvs k v) x=if x=k then some v else valueAt kvs x:=by
  have hn:(kvs.any fun kv=>decide (kv.1=k))=false:=by
    rw [List.any_eq_false]
    intro kv hkv he
    unfold valueAt at h
    rw [Option.map_eq_none_iff,List.find?_eq_none] at h
    exact h kv hkv he
  unfold stored
  rw [if_neg (by rw [hn];simp)]
  unfold valueAt
  rw [List.find?_append]
  by_cases hx:x=k
  · subst hx
    unfold valueAt at h
    rw [Option.map_eq_none_iff] at h
    rw [h];simp
  · rw [if_neg hx]
    have:List.find? (fun kv:Int×Value=>decide (kv.1=x)) [(k,v)]=none:=by simp [Ne.symm hx]
    rw [this,Option.or_none]
inductive LtrAt (ρ:List (Str×B)) (kvs:List (Int×Value)) (js:List Int) (c:Int):Prop
  | som {l:Addr} {ol:Obj}:valueAt kvs c=some (.ref l)→aM ρ (ixn c) (.at l ol)→IObj ol js→LtrAt ρ kvs js c
  | non:valueAt kvs c=none→js=[]→LtrAt ρ kvs js c
theorem LtrAt.pt {ρ:List (Str×B)} {kvs:List (Int×Value)} {js:List Int} {c:Int} (h:LtrAt ρ kvs js c) {z:Str} {b:B} (hz:z ≠ ixn c):LtrAt (put ρ z b) kvs js c:=by
  cases h with
  | som a e d=>exact .som a (hn2 hz.symm e) d
  | non a e=>exact .non a e
structure CI (x la d dx:Addr) (o1:Obj) (ρ:List (Str×B)):Prop where
  s:aM ρ "self" (.raw (.ref x))
  b:aM ρ "b" (.raw (.ref la))
  t:aM ρ "b2j" (.raw (.ref d))
  d:aM ρ "#d" (.at dx o1)
theorem CI.pt {x la d dx:Addr} {o1:Obj} {ρ:List (Str×B)} (C:CI x la d dx o1 ρ) {z:Str} {b:B} (h:(neS "self" z && neS "b" z && neS "b2j" z && neS "#d" z)=true):CI x la d dx o1 (put ρ z b):=by
  simp only [Bool.and_eq_true] at h
  exact ⟨hn C.s h.1.1.1,hn C.b h.1.1.2,hn C.t h.1.2,hn C.d h.2⟩
theorem CI.pti {x la d dx:Addr} {o1:Obj} {ρ:List (Str×B)} (C:CI x la d dx o1 ρ) {c:Int} {b:B}:CI x la d dx o1 (put ρ (ixn c) b) :=
  ⟨hn2 ne_ixn C.s,hn2 ne_ixn C.b,hn2 ne_ixn C.t,hn2 ne_ixn C.d⟩
inductive CD (X:Cx) (d:Addr) (bs:List Int) (i:Nat) (ρ:List (Str×B)):Prop
  | mk {od:Obj} {kvs:List (Int×Value)}:aM ρ "#b" (.at d od)→od.IsDictOf (DK X) kvs→kvs.length≤i→(∀ c,LtrAt ρ kvs (posTo bs i c) c)→CD X d bs i ρ
theorem CD.pt {X:Cx} {d:Addr} {bs:List Int} {i:Nat} {ρ:List (Str×B)} (C:CD X d bs i ρ) {z:Str} {b:B} (h:(neS "#b" z && !decide (z.cps[0]?=some 36))=true):CD X d bs i (put ρ z b):=by
  obtain ⟨a,b,c,e⟩:=C
  simp only [Bool.and_eq_true,Bool.not_eq_true',decide_eq_false_iff_not] at h
  exact ⟨hn a h.1,b,c,fun y=>(e y).pt (ne_ixn h.2)⟩
theorem posTo_at {bs:List Int} {i:Nat} {c:Int} (h:bs[i]?=some c):posTo bs (i+1) c=posTo bs i c++[(i:Int)]:=by rw [posTo_succ,if_pos h]
theorem posTo_off {bs:List Int} {i:Nat} {c c':Int} (h:bs[i]?=some c) (hc:¬ c'=c):posTo bs (i+1) c'=posTo bs i c':=by
  rw [posTo_succ,if_neg (by rw [h];intro e;cases e;exact hc rfl),List.append_nil]
theorem CD.old {X:Cx} {d l:Addr} {bs:List Int} {i:Nat} {c:Int} {ρ:List (Str×B)} {od ol':Obj} {kvs:List (Int×Value)} (a:aM ρ "#b" (.at d od)) (b:od.IsDictOf (DK X) kvs) (hl:kvs.length≤i) (e:∀ y,LtrAt ρ kvs (posTo bs i y) y) (h:bs[i]?=some c) (hv:valueAt kvs c=some (.ref l)) (ho:IObj ol' (posTo bs i c++[(i:Int)])) :
    CD X d bs (i+1) (put ρ (ixn c) (.at l ol')):=by
  refine ⟨hn2 ne_ixn a,b,Nat.le_succ_of_le hl,fun y=>?_⟩
  by_cases hy:y=c
  · subst hy;rw [posTo_at h];exact .som hv hs ho
  · rw [posTo_off h hy];exact (e y).pt fun q=>hy (ixn_inj q).symm
theorem CD.fresh {X:Cx} {d l:Addr} {bs:List Int} {i:Nat} {c:Int} {ρ:List (Str×B)} {o' ol':Obj} {kvs:List (Int×Value)} {w1 w2:B} (hl:kvs.length≤i) (e:∀ y,LtrAt ρ kvs (posTo bs i y) y) (h:bs[i]?=some c) (hv:valueAt kvs c=none) (b:o'.IsDictOf (DK X) (stored kvs c (.ref l))) (ho:IObj ol' [(i:Int)]) :
    CD X d bs (i+1) (put (put (put (put ρ (ixn c) w1) "#b" (.at d o')) "indices" w2) (ixn c) (.at l ol')):=by
  refine ⟨hn2 ne_ixn (hn hs rfl),b,by have:=stored_length_le kvs c (.ref l);exact aO 0xf111181a20f180a20100f rfl hl this,fun y=>?_⟩
  by_cases hy:y=c
  · subst hy
    have:posTo bs i y=[]:=by
      cases e y with
      | som hv' _ _=>rw [hv] at hv';cases hv'
      | non _ p=>exact p
    rw [posTo_at h,this];exact .som (by rw [valueAt_stored kvs y _ hv,if_pos rfl]) hs ho
  · rw [posTo_off h hy]
    have k:∀ {ρ':List (Str×B)},LtrAt ρ' kvs (posTo bs i y) y→LtrAt ρ' (stored kvs c (.ref l)) (posTo bs i y) y:=fun q=>by
      have:valueAt (stored kvs c (.ref l)) y=valueAt kvs y:=by rw [valueAt_stored kvs c _ hv,if_neg hy]
      cases q with
      | som a e d=>exact .som (this.trans a) e d
      | non a e=>exact .non (this.trans a) e
    have ne:ixn c ≠ ixn y:=fun q=>hy (ixn_inj q).symm
    exact k ((((e y).pt ne).pt (ne_ixn (by decide))).pt (ne_ixn (by decide)) |>.pt ne)
inductive CE (X:Cx) (dx:Addr) (m:Str→Option Value) (N:Nat) (bs:List Int) (ρ:List (Str×B)):Prop
  | mk {d js ps:Addr} {o' oj:Obj} {led:_}:aM ρ "#d" (.at dx o')→AObj o' (upd (upd (upd m "b2j" (.ref d)) "bjunk" (.ref js)) "bpopular" (.ref ps)) (N+3)→CD X d bs bs.length ρ→(d == sysModules)=false→aM ρ "#j" (.at js oj)→oj={ cls:=.type "set",dict:=none,data:=.set #[] 0 (.fresh 0 0 led) }→CE X dx m N bs ρ
theorem chain_call {X:Cx} {k:Nat} (F:DF X) {A:Around} {s:Shared} {x dx:Addr} {m:Str→Option Value} {N:Nat} {vb:Value} {bs:List Int} (R:Room (k+1) A) (a:At X s) (I:Inst s.heap 242 x dx m N) (hX:X.h₀.get? dx=none)
    (hb:m "b"=some vb) (rb:Rep (fun _=>False) s.heap (.list (bs.map .int)) vb) (hj:m "isjunk"=some .none) (haj:m "autojunk"=some (.bool false)) (hN:N+3 < 1000) (hz:bs.length≤sizeLine) :
    codeAny (model X.prog X.w) A (.call (.ref 188) ⟨[.ref x],[]⟩) (fun r s'=>r=.ok (.ret .none)∧KeepBut dx s s'∧∃ d js ps,Inst s'.heap 242 x dx (upd (upd (upd m "b2j" (.ref d)) "bjunk" (.ref js)) "bpopular" (.ref ps)) (N+3)∧ChainD X s'.heap bs d∧EmptySet s'.heap js) s:=by
  obtain ⟨cd,hC⟩:=F.cls
  obtain ⟨o,ho,hao⟩:=I.nsb.aobj
  obtain ⟨_,_,z,D⟩:=F.chain
  have hx:(s.heap.hide dx).get? x=some (instObj 242 dx):=by rw [Heap.hide_ne _ I.xne];exact I.obj
  obtain ⟨la,lvs,rfl,_,_⟩:=rb.isList
  refine codeAny_mono (method_frame (bad:=fun _=>False) (Dt:=fun d v=>d=.list (bs.map .int)∧v=.ref la) (bs:=[.raw (.ref x)]) (P:=fun fl ρ'=>fl=.next∧CE X dx m N bs ρ') D R a ho hao.noseq hX (fun h=>h) low_no (fun d v e=>by obtain ⟨rfl,rfl⟩:=e;exact rb.hide ho hao.noseq) (.cons (.raw _) .nil) rfl fun L=>?_) fun r s' h=>?_
  · generalize hQ:(fun (fl:Fl) (ρ':List (Str×B))=>(fl=.next∧CE X dx m N bs ρ')∧(∃ o',aM ρ' "#d" (.at dx o'))∧(fl=.next∨∃ d,fl=.ret d))=Q
    refine aC (ex_assignV (evv_attr (key:="#d") (m:=m) (N:=N) (by k_mem) ⟨hx,.inl ⟨o,by k_mem,hao⟩⟩ hC (F.own "b" (by decide)).1 hb) (asgv_name (.inl rfl) ?_))
    refine aC (ex_assignN2 "#b" evn_dict fun d ob hlow hob=>bN (key:="#d") (by k_mem) hx (by k_mem) hao hC (F.own "b2j" (by decide)).2 (by exact aQ 0xf113e81901f3e819380a1f rfl hN) fun o1 ha1=>asgv_name (.inl rfl) ?_)
    subst hob
    refine aC (ex_for_enum (items:=bs.map .int) F.enumerate rfl (ev_ofV (bG (v:=.ref la) (by k_mem)) ⟨rfl,rfl⟩)
      (fun i ρ=>CI x la d dx o1 ρ∧CD X d bs i ρ)
      ⟨⟨by k_mem,by k_mem,by k_mem,by k_mem⟩,⟨by k_mem,⟨#[],0,⟨rfl,rfl,rfl⟩,rfl,fun _ he=>by simp at he,.nil,by simp⟩,Nat.zero_le _,fun c=>.non rfl rfl⟩⟩ ?_ ?_)
    · intro i dd ρ hi J Q1 H1
      obtain ⟨C,jk,jo,jl,jc⟩:=J
      rw [List.getElem?_map] at hi
      obtain ⟨c,hbi,rfl⟩:=Option.map_eq_some_iff.mp hi
      have hil:i < bs.length:=(List.getElem?_eq_some_iff.mp hbi).1
      refine ⟨_,asg_tuple (aP (aK (.inl rfl)) (aP (aK (.inl rfl)) asgl_nil)) rfl rfl,?_⟩
      have C1:=(C.pt (z:="i") (b:=.val (.int i)) rfl).pt (z:="elt") (b:=.val (.int c)) rfl
      have js:∀ y,LtrAt (put (put ρ "i" (.val (.int i))) "elt" (.val (.int c))) _ (posTo bs i y) y:=fun y=>((jc y).pt (ne_ixn (by decide))).pt (ne_ixn (by decide))
      have jk1:=hn (x:="elt") (b:=.val (.int c)) (hn (x:="i") (b:=.val (.int i)) jk rfl) rfl
      have ei:aM (put (put ρ "i" (.val (.int i))) "elt" (.val (.int c))) "i" (.val (.int i)):=hn hs rfl
      have ee:aM (put (put ρ "i" (.val (.int i))) "elt" (.val (.int c))) "elt" (.val (.int c)):=hs
      generalize put (put ρ "i" (.val (.int i))) "elt" (.val (.int c))=ρ1 at *
      clear C jk jc hi
      refine aC (ex_setdefault (key:="#b") (nk:=ixn c) (d:=d) (kvs:=_) (i:=c) C1.t jk1 jo hlow (by exact bF 0xf1111120f031320100f rfl hz jl hil) (aA ee) (.inl rfl) (Ne.symm ne_ixn) (fun v hv=>?_) (fun hv l o' ho'=>?_))
      · cases js c with
        | non hv' _=>rw [hv] at hv';cases hv'
        | @som l ol hv' hl hol =>
        rw [hv] at hv';cases hv'
        exact aC (ex_appendAt (key:=ixn c) (l:=l) (o:=ol) (i:=i) hs (hn2 (Ne.symm ne_ixn) hl) hol (by have:=posTo_length bs i c;exact bF 0xf1111130f230021100f rfl hz hil this) (aA (hn ei rfl)) fun o'' ho'' =>
          aE (H1.next ⟨(C1.pt rfl).pti,.old (hn jk1 rfl) jo jl (fun y=>(js y).pt (ne_ixn (by decide))) hbi hv ho''⟩))
      · exact aC (ex_appendAt (key:=ixn c) (l:=l) (i:=i) hs (hn2 (Ne.symm ne_ixn) (hn2 (Ne.symm ne_ixn) hs)) IObj.nil (by simp) (aA (hn (hn (hn2 ne_ixn ei) rfl) rfl)) fun o'' ho'' =>
          aE (H1.next ⟨((C1.pti.pt rfl).pt rfl).pti,.fresh jl js hbi hv ho' ho''⟩))
    · rintro ρ ⟨C,D⟩
      rw [List.length_map] at D
      refine aC (ex_assignN2 "#j" (evn_set F.set rfl) fun jn oj _ hoj=>bN (key:="#d") (hn C.s rfl) hx (hn C.d rfl) ha1 hC (F.own "bjunk" (by decide)).2 (by exact aQ 0xf113e819180a1f3e819380a1f rfl hN) fun o2 ha2=>asgv_name (.inl rfl) ?_)
      obtain ⟨led,rfl⟩:=hoj
      have D1:=((D.pt (z:="#j") (b:=.at jn { cls:=.type "set",dict:=none,data:=.set #[] 0 (.fresh 0 0 led) }) rfl).pt (z:="#d") (b:=.at dx o2) rfl).pt (z:="junk") (b:=.raw (.ref jn)) rfl
      have s1:aM (put (put (put ρ "#j" (.at jn { cls:=.type "set",dict:=none,data:=.set #[] 0 (.fresh 0 0 led) })) "#d" (.at dx o2)) "junk" (.raw (.ref jn))) "self" (.raw (.ref x)):=hn (hn (hn C.s rfl) rfl) rfl
      have b1:aM (put (put (put ρ "#j" (.at jn { cls:=.type "set",dict:=none,data:=.set #[] 0 (.fresh 0 0 led) })) "#d" (.at dx o2)) "junk" (.raw (.ref jn))) "b" (.raw (.ref la)):=hn (hn (hn C.b rfl) rfl) rfl
      have d1:aM (put (put (put ρ "#j" (.at jn { cls:=.type "set",dict:=none,data:=.set #[] 0 (.fresh 0 0 led) })) "#d" (.at dx o2)) "junk" (.raw (.ref jn))) "#d" (.at dx o2):=hn hs rfl
      have j1:aM (put (put (put ρ "#j" (.at jn { cls:=.type "set",dict:=none,data:=.set #[] 0 (.fresh 0 0 led) })) "#d" (.at dx o2)) "junk" (.raw (.ref jn))) "#j" (.at jn { cls:=.type "set",dict:=none,data:=.set #[] 0 (.fresh 0 0 led) }):=hn (hn hs rfl) rfl
      generalize put (put (put ρ "#j" (.at jn { cls:=.type "set",dict:=none,data:=.set #[] 0 (.fresh 0 0 led) })) "#d" (.at dx o2)) "junk" (.raw (.ref jn))=ρ1 at *
      clear C D ha1
      refine aC (ex_assignV (evv_attr (key:="#d") (N:=N+2) (v:=.none) s1 ⟨hx,.inl ⟨o2,d1,ha2⟩⟩ hC (F.own "isjunk" (by decide)).1 hj) (asgv_name (.inl rfl) ?_))
      refine aC (ex_if (b:=false) (tst_none (bG hs)) (fun e=>by cases e) fun _=>aE ?_)
      refine aC (ex_assignN2 "#p" (evn_set F.set rfl) fun pl op _ hop=>bN (key:="#d") (hn (hn s1 rfl) rfl) hx (hn (hn d1 rfl) rfl) ha2 hC (F.own "bpopular" (by decide)).2 (by exact aQ 0xf113e81918180aa1f3e819380a1f rfl hN) fun o3 ha3=>asgv_name (.inl rfl) ?_)
      refine aC (bK (d:=.int bs.length) (bH (ev_len F.len rfl (bB (ev_ofV (bG (v:=.ref la) (hn (hn (hn (hn b1 rfl) rfl) rfl) rfl)) ⟨rfl,rfl⟩)) (by rw [List.length_map];exact hz)) (by rw [List.length_map])) (.inl rfl) ?_)
      refine aC (ex_if (b:=false) (aW (b:=false) (c:=true) (tst_bool (ev_ofBool (evv_attr (key:="#d") (N:=N+3) (hn (hn (hn (hn (hn s1 rfl) rfl) rfl) rfl) rfl) ⟨hx,.inl ⟨o3,hn (hn hs rfl) rfl,ha3⟩⟩ hC (F.own "autojunk" (by decide)).1 haj))) fun e=>by cases e) (fun e=>by cases e) fun _=>aE (aE ?_))
      rw [← hQ]
      exact ⟨⟨rfl,hn (hn hs rfl) rfl,ha3,((((D1.pt rfl).pt rfl).pt rfl).pt rfl).pt rfl,hlow,hn (hn (hn (hn (hn j1 rfl) rfl) rfl) rfl) rfl,rfl⟩,⟨o3,hn (hn hs rfl) rfl⟩,.inl rfl⟩
  · obtain ⟨v,fl,ρ',O',L,rfl,⟨rfl,h1⟩,hv,kb,r'⟩:=h
    cases hv
    obtain ⟨g1,g2,⟨c1,c2,c3,c4⟩,g4,g5,rfl⟩:=h1
    refine ⟨rfl,kb,_,_,_,⟨kb.keep _ _ I.xne I.obj,g2.nsb (r'.pt _ _ _ g1).2⟩,⟨_,Heap.dictOf_iff.mpr ⟨_,(r'.pt _ _ _ c1).2,c2⟩,g4,by exact aO 0xf111120f020100f rfl hz c3,fun c=>?_⟩,_,(r'.pt _ _ _ g5).2⟩
    cases c4 c with
    | som a e d=>exact .inl ⟨_,_,_,a,rfl,(r'.pt _ _ _ e).2,d⟩
    | non a e=>exact .inr ⟨a,e⟩
theorem execs_append {M:Model} {A:Around} {E:Value→Shared→Prop} {env:Env} {ss2:List Stmt} {Q:Flow→Shared→Prop}:∀ (ss1:List Stmt) {s:Shared},
    wpAny M A (execs ss1 env) (fun f s'=>match f with | .next=>wpAny M A (execs ss2 env) Q E s' | f=>Q f s') E s→wpAny M A (execs (ss1++ss2) env) Q E s:=by
  intro ss1 s h Γ p hΓ
  have key:∀ (ss1:List Stmt) (p:Pos) (s:Shared),Sem.wp M Γ (execs ss1 env) (fun f _ s'=>match f with | .next=>wpAny M A (execs ss2 env) Q E s' | f=>Q f s') (fun e _ s'=>E e s') p s→Sem.wp M Γ (execs (ss1++ss2) env) (fun a _ s'=>Q a s') (fun e _ s'=>E e s') p s:=by
    intro ss1
    induction ss1 with
    | nil=>intro p s h;exact h Γ p hΓ
    | cons st ss ih =>
      intro p s h
      rw [List.cons_append,execs_cons,Sem.wp_bind']
      rw [execs_cons,Sem.wp_bind'] at h
      refine Sem.wp_mono M Γ _ (fun f p' s' h'=>?_) (fun _ _ _ h'=>h') _ _ h
      cases f with
      | next=>exact ih p' s' h'
      | ret v=>exact h'
      | brk=>exact h'
      | cont=>exact h'
  exact key ss1 p s (h Γ p hΓ)
section
variable {X:Cx} {k:Nat} {env:Env} {ρ:List (Str×B)} {Q:Fl→List (Str×B)→Prop}
theorem Exs.then {ss1 ss2:List Stmt} {P:List (Str×B)→Prop} (h:Exs X k env ρ ss1 fun f ρ'=>f=.next∧P ρ') {A:Around} {bad:Addr→Prop} {O:Str→Option Addr} {s:Shared} {Qw:Flow→Shared→Prop} (R:Room k A) (r:Rel X bad O env ρ s)
    (h2:∀ ρ' O' s',P ρ'→Step env O O' s s'→Rel X bad O' env ρ' s'→wpAny (model X.prog X.w) A (execs ss2 env) Qw noE s'):wpAny (model X.prog X.w) A (execs (ss1++ss2) env) Qw noE s :=
  execs_append ss1 (wpAny_mono (h A bad O s R r) (fun fl s' p=>by
    obtain ⟨f,ρ',O',⟨rfl,hP⟩,hfi,st,r'⟩:=p
    cases hfi
    exact h2 ρ' O' s' hP st r') fun _ _ x=>x)
theorem ex_mcallS {C x dx f:Addr} {cd:ClassData} {key:Str} {m:Str→Option Value} {N:Nat} {y name:Str} {yp apos cpos pos:Pos} {pl:Sem Bool} {e:Expr} {es:List Expr} {od:Obj} {o:Obj} {fd:FuncData} {vs:List Value} {Po:Obj→Prop}
    (hy:aM ρ y (.raw (.ref x))) (hx:X.h₀.get? x=some (instObj C dx)) (hk:aM ρ key (.at dx od)) (had:AObj od m N) (hC:ClsOk X.K C cd) (hf:findIn X.K (.ref C) name=some (some (.ref f))) (ht:typeIn X.K (.ref f)=some (.type "function")) (hm:m name=none)
    (ho:X.h₀.get? f=some o) (hdat:o.data=.func fd) (ha:EvVL X k env ρ cpos (e :: es) vs)
    (hcall:∀ (A:Around) (bad:Addr→Prop) (O:Str→Option Addr) (s:Shared),Room k A→Rel X bad O env ρ s→codeAny (model X.prog X.w) A (.call (.ref f) ⟨.ref x :: vs,[]⟩) (fun r s'=>r=.ok (.ret .none)∧KeepBut dx s s'∧∃ o',s'.heap.get? dx=some o'∧Po o') s)
    (hq:∀ o',Po o'→Q .next (put ρ key (.at dx o')))
    (he:eval (.Call (.Attribute (.Name y yp) name apos) (e :: es) [] cpos) env=(do
      let ov ← eval (.Name y yp) env
      standAt apos.atName
      let (f,first) ← holding [ov] (getMethod ov name pl)
      callWith cpos f first (backTo cpos (starEach (e :: es) env)) []):=by rfl)
    (hst:starEach (e :: es) env=(false,eval e env) :: starEach es env:=by rfl) (hd:(y == ("__debug__":Str))=false:=by decide)
    (hi:interactive env=false:=by rfl) (hs:swapsWith (.Call (.Attribute (.Name y yp) name apos) (e :: es) [] cpos) none pos.line env=pure false:=by rfl) :
    Ex1 X k env ρ (.Expr (.Call (.Attribute (.Name y yp) name apos) (e :: es) [] cpos) pos) Q:=fun A bad O s R r=>by
  refine wpAny_Expr (mcall_use (Pa:=fun us _=>us=vs) R r hy ⟨hx,.inl ⟨od,hk,had⟩⟩ hC hf ht hm ho hdat (ha A bad O s R r) (fun us s1 x1 r1 e=>?_) he hst hd) hi hs
  subst e
  refine wpAny_call (codeAny_mono (hcall A bad O s1 R r1) fun res s2 h=>?_)
  obtain ⟨rfl,kb,o',ho',hP⟩:=h
  obtain ⟨st,r2⟩:=r1.at_change (s':=s2) hk kb.keep ho' kb.gens kb.os
  exact ⟨.next,_,_,hq o' hP,rfl,(Step.of_ext x1).trans st,r2⟩
end
theorem Rel.dxNone {X:Cx} {env:Env} {ρ:List (Str×B)} {bad:Addr→Prop} {O:Str→Option Addr} {s:Shared} {key:Str} {a:Addr} {o:Obj} (r:Rel X bad O env ρ s) (h:aM ρ key (.at a o)):X.h₀.get? a=none:=(r.good key a (r.pt _ _ _ h).1).2.1
structure Seq2Post (X:Cx) (s':Shared) (x dx:Addr) (m:Str→Option Value) (vb:Value) (bs:List Int) (N:Nat) (d js ps:Addr):Prop where
  inst:Inst s'.heap 242 x dx (upd (upd (upd (upd (upd (upd (upd m "b" vb) "matching_blocks" .none) "opcodes" .none) "fullbcount" .none) "b2j" (.ref d)) "bjunk" (.ref js)) "bpopular" (.ref ps)) N
  chain:ChainD X s'.heap bs d
  junk:EmptySet s'.heap js
theorem method_frame_wp {X:Cx} {k:Nat} {f:Addr} {fd:FuncData} {body:List Stmt} {names:List Str} (D:DefAt X f fd body names) {A:Around} {bad:Addr→Prop} {s:Shared} {dx:Addr} {o:Obj} {vs:List Value} {bs:List B} {Dt:PyData→Value→Prop} {P:Value→Shared→Prop}
    (R:Room (k+1) A) (a:At X s) (ho:s.heap.get? dx=some o) (hns:∀ vs n,o.data ≠ .seq vs n) (hX:X.h₀.get? dx=none) (hb:¬ bad dx) (low:∀ a,bad a→∃ o,s.heap.get? a=some o) (hdat:∀ d v,Dt d v→Rep bad (s.heap.hide dx) d v) (q:BindsOk bad s.heap bs vs) (hl:vs.length=names.length)
    (h:∀ L A' O s₁,Room k A'→Rel (X.on (s.heap.hide dx) Dt) bad O (callEnvC fd L f) (put (names.zip bs) "#d" (.at dx o)) s₁ →
      wpAny (model (X.on (s.heap.hide dx) Dt).prog (X.on (s.heap.hide dx) Dt).w) A' (execs body (callEnvC fd L f)) (fun fl s'=>∃ v,(fl=.next∧v=.none∨fl=.ret v)∧At (X.on (s.heap.hide dx) Dt) s'∧P v s') noE s₁) :
    codeAny (model X.prog X.w) A (.call (.ref f) ⟨vs,[]⟩) (fun r s'=>∃ v,r=.ok (.ret v)∧KeepBut dx s s'∧P v s') s:=by
  have ho':=hide_on a hX
  have aX:At (X.on (s.heap.hide dx) Dt) s:=⟨a.wf.on ho',fun b o e=>Heap.of_hide e,a.gens,a.os⟩
  refine call_body (X:=X.on (s.heap.hide dx) Dt) (D.on ho') (bad:=bad) R aX low hdat q hl fun L A' s₁ R' r keep hpl hg hos=>?_
  have r1:=r.at_take (x:="#d") (a:=dx) (o:=o) (keep _ _ ho) hns (Heap.hide_self _ _) (hpl _ _ ho) (fun h=>hb (badO_nO h))
  refine wpAny_mono (h L A' _ s₁ R' r1) (fun fl s' p=>?_) fun _ _ x=>x
  obtain ⟨v,hfl,a',hP⟩:=p
  have kb:KeepBut dx s s':=⟨fun b o hb e=>a'.base b o (by show (s.heap.hide dx).get? b=_;rw [Heap.hide_ne _ hb];exact e),a'.gens.trans a.gens.symm,a'.os.trans a.os.symm⟩
  rcases hfl with ⟨rfl,rfl⟩ | rfl
  · exact ⟨.none,rfl,kb,hP⟩
  · exact ⟨v,rfl,kb,hP⟩
theorem At.keepBut {X:Cx} {s s':Shared} {dx:Addr} (a:At X s) (hX:X.h₀.get? dx=none) (kb:KeepBut dx s s'):At X s':=⟨a.wf,fun b o e=>kb.keep b o (fun z=>by rw [z,hX] at e;cases e) (a.base b o e),kb.gens.trans a.gens,kb.os.trans a.os⟩
theorem set_seq2_call {X:Cx} {k:Nat} (F:DF X) {A:Around} {s:Shared} {x dx:Addr} {m:Str→Option Value} {N:Nat} {vb v0:Value} {bs:List Int} (R:Room (k+2) A) (a:At X s) (I:Inst s.heap 242 x dx m N) (hX:X.h₀.get? dx=none)
    (hm:m "b"=some v0) (hn:NotSame (s.heap.hide dx) vb v0) (hv0:handedIn v0=true) (rb:Rep (fun _=>False) s.heap (.list (bs.map .int)) vb) (hj:m "isjunk"=some .none) (haj:m "autojunk"=some (.bool false)) (hmc:m "_SequenceMatcher__chain_b"=none) (hN:N+7 < 1000) (hz:bs.length≤sizeLine) :
    codeAny (model X.prog X.w) A (.call (.ref 181) ⟨[.ref x,vb],[]⟩) (fun r s'=>∃ v,r=.ok (.ret v)∧KeepBut dx s s'∧v=.none∧∃ d js ps,Seq2Post X s' x dx m vb bs (N+7) d js ps) s:=by
  obtain ⟨cd,hC⟩:=F.cls
  obtain ⟨o,ho,hao⟩:=I.nsb.aobj
  obtain ⟨_,_,z,D⟩:=F.seq2
  have hx:(s.heap.hide dx).get? x=some (instObj 242 dx):=by rw [Heap.hide_ne _ I.xne];exact I.obj
  have F':DF (X.on (s.heap.hide dx) fun _ _=>False):=F.on (hide_on a hX)
  obtain ⟨la,lvs,rfl,_,_⟩:=rb.isList
  refine method_frame_wp (bad:=fun _=>False) (Dt:=fun _ _=>False) (bs:=[.raw (.ref x),.raw (.ref la)]) D R a ho hao.noseq hX (fun h=>h) low_no (fun _ _ e=>e.elim) (.cons (.raw _) (.cons (.raw _) .nil)) rfl fun L A' O s₁ R' r=>?_
  refine Exs.then (ss1:=(aH (smSt 4)).take 5) (ss2:=(aH (smSt 4)).drop 5) (P:=fun ρ'=>aM ρ' "self" (.raw (.ref x))∧∃ o',aM ρ' "#d" (.at dx o')∧AObj o' (upd (upd (upd (upd m "b" (.ref la)) "matching_blocks" .none) "opcodes" .none) "fullbcount" .none) (N+4)) ?_ R' r ?_
  · refine aC (ex_doc ?_)
    refine aC (ex_if (b:=false) (tst_notSame (bG (by k_mem)) (evv_attr (key:="#d") (m:=m) (N:=N) (by k_mem) ⟨hx,.inl ⟨o,by k_mem,hao⟩⟩ hC (F.own "b" (by decide)).1 hm hv0) hn) (fun e=>by cases e) fun _=>aE ?_)
    refine aC (ex_assignV (bG (by k_mem)) (bN (key:="#d") (by k_mem) hx (by k_mem) hao hC (F.own "b" (by decide)).2 (by exact aQ 0xf113e81901f3e819780a1f rfl hN) fun o1 ha1=>?_))
    refine aC (ex_assignV2 evv_none (bN (key:="#d") (by k_mem) hx (by k_mem) ha1 hC (F.own "matching_blocks" (by decide)).2 (by exact aQ 0xf113e819180a1f3e819780a1f rfl hN) fun o2 ha2=>bN (key:="#d") (by k_mem) hx (by k_mem) ha2 hC (F.own "opcodes" (by decide)).2 (by exact aQ 0xf113e81918180aa1f3e819780a1f rfl hN) fun o3 ha3=>?_))
    refine aC (ex_assignV evv_none (bN (key:="#d") (by k_mem) hx (by k_mem) ha3 hC (F.own "fullbcount" (by decide)).2 (by exact aQ 0xf113e8191818180aaa1f3e819780a1f rfl hN) fun o4 ha4=>aE ?_))
    exact ⟨rfl,by k_mem,o4,by k_mem,ha4⟩
  · rintro ρ' O' s' ⟨hself,o',hd',ha'⟩ st r'
    obtain ⟨hfc,htc,zc,Dc⟩:=F'.chain
    obtain ⟨oc,hoc,hdc⟩:=Dc.obj
    refine wpAny_execs_cons (wpAny_Expr (mcall_use0 R' r' hself ⟨hx,.inl ⟨o',hd',ha'⟩⟩ hC hfc htc (by rw [← hmc];rfl) hoc hdc ?_))
    have I':Inst s'.heap 242 x dx _ (N+4):=SelfD.inst (key:="#d") ⟨hx,.inl ⟨o',hd',ha'⟩⟩ r'
    have rb':Rep (fun _=>False) s'.heap (.list (bs.map .int)) (.ref la):=(rb.hide ho hao.noseq).keep fun b ob _ _ _ e _=>r'.base b ob e
    refine wpAny_call (codeAny_mono (chain_call F' R' r'.at I' (r'.dxNone hd') (vb:=.ref la) rfl rb' (by rw [← hj];rfl) (by rw [← haj];rfl) (by exact aQ 0xf113e81938480aa1f3e819780a1f rfl hN) hz) fun res s2 h=>?_)
    obtain ⟨rfl,kb,d,js,ps,I2,hch,hem⟩:=h
    refine wpAny_execs_nil ⟨.none,.inl ⟨rfl,rfl⟩,r'.at.keepBut (r'.dxNone hd') kb,rfl,d,js,ps,I2,hch,hem⟩
noncomputable def m1of (m:Str→Option Value) (va:Value):Str→Option Value:=upd (upd (upd m "a" va) "matching_blocks" .none) "opcodes" .none
theorem set_seqs_call {X:Cx} {k:Nat} (F:DF X) {A:Around} {s:Shared} {x dx:Addr} {m:Str→Option Value} {N:Nat} {va vb:Value} {bs:List Int} (R:Room (k+3) A) (a:At X s) (I:Inst s.heap 242 x dx m N) (hX:X.h₀.get? dx=none)
    (hma:m "a"=some .none) (hva:va ≠ .none) (hm:m "b"=some .none) (rb:Rep (fun _=>False) s.heap (.list (bs.map .int)) vb) (hj:m "isjunk"=some .none) (haj:m "autojunk"=some (.bool false)) (hmc:m "_SequenceMatcher__chain_b"=none) (hm1:m "set_seq1"=none) (hm2:m "set_seq2"=none) (hN:N+10 < 1000) (hz:bs.length≤sizeLine) :
    codeAny (model X.prog X.w) A (.call (.ref 167) ⟨[.ref x,va,vb],[]⟩) (fun r s'=>∃ v,r=.ok (.ret v)∧KeepBut dx s s'∧v=.none∧∃ d js ps,Seq2Post X s' x dx (m1of m va) vb bs (N+10) d js ps) s:=by
  obtain ⟨cd,hC⟩:=F.cls
  obtain ⟨o,ho,hao⟩:=I.nsb.aobj
  obtain ⟨_,_,z,D⟩:=F.seqs
  have hx:(s.heap.hide dx).get? x=some (instObj 242 dx):=by rw [Heap.hide_ne _ I.xne];exact I.obj
  have F':DF (X.on (s.heap.hide dx) fun _ _=>False):=F.on (hide_on a hX)
  obtain ⟨la,lvs,rfl,_,_⟩:=rb.isList
  refine method_frame_wp (bad:=fun _=>False) (Dt:=fun _ _=>False) (bs:=[.raw (.ref x),.raw va,.raw (.ref la)]) D R a ho hao.noseq hX (fun h=>h) low_no (fun _ _ e=>e.elim) (.cons (.raw _) (.cons (.raw _) (.cons (.raw _) .nil))) rfl fun L A' O s₁ R' r=>?_
  refine Exs.then (ss1:=(aH (smSt 2)).take 2) (ss2:=(aH (smSt 2)).drop 2) (P:=fun ρ'=>aM ρ' "self" (.raw (.ref x))∧aM ρ' "b" (.raw (.ref la))∧∃ o',aM ρ' "#d" (.at dx o')∧AObj o' (m1of m va) (N+3)) ?_ R' r ?_
  · refine aC (ex_doc ?_)
    obtain ⟨hf1,ht1,z1,D1⟩:=F'.seq1
    obtain ⟨oc,hoc,hdc⟩:=D1.obj
    refine aC (ex_mcallS (key:="#d") (Po:=fun o'=>AObj o' (m1of m va) (N+3)) (vs:=[va]) (by k_mem) hx (by k_mem) hao hC hf1 ht1 hm1 hoc hdc (evvl_cons (bG (by k_mem)) evvl_nil) (fun A bad O s R r=>?_) fun o' ha'=>aE ?_)
    · refine codeAny_mono (set_seq1_call F' R r.at (SelfD.inst (key:="#d") ⟨hx,.inl ⟨o,by k_mem,hao⟩⟩ r) (r.dxNone (key:="#d") (a:=dx) (o:=o) (by k_mem)) hma (.inl ⟨rfl,hva⟩) rfl (by exact aQ 0xf113e819380a1f3e819a80a1f rfl hN)) fun res s' h=>?_
      obtain ⟨rfl,kb,I'⟩:=h
      exact ⟨rfl,kb,I'.nsb.aobj⟩
    · exact ⟨rfl,by k_mem,by k_mem,o',by k_mem,ha'⟩
  · rintro ρ' O' s' ⟨hself,hb',o',hd',ha'⟩ st r'
    obtain ⟨hf2,ht2,z2,D2⟩:=F'.seq2
    obtain ⟨oc,hoc,hdc⟩:=D2.obj
    refine wpAny_execs_cons (wpAny_Expr (mcall_use (Pa:=fun us _=>us=[.ref la]) R' r' hself ⟨hx,.inl ⟨o',hd',ha'⟩⟩ hC hf2 ht2 (by rw [← hm2];rfl) hoc hdc (evvl_cons (bG hb') evvl_nil rfl A' _ O' s' R' r') (fun us s1 x1 r1 e=>?_)))
    subst e
    have I':Inst s1.heap 242 x dx _ (N+3):=SelfD.inst (key:="#d") ⟨hx,.inl ⟨o',hd',ha'⟩⟩ r1
    have rb':Rep (fun _=>False) s1.heap (.list (bs.map .int)) (.ref la):=(rb.hide ho hao.noseq).keep fun b ob _ _ _ e _=>r1.base b ob e
    refine wpAny_call (codeAny_mono (set_seq2_call F' R' r1.at I' (r1.dxNone hd') (vb:=.ref la) (v0:=.none) (by rw [← hm];rfl) (.inl ⟨rfl,fun e=>by cases e⟩) rfl rb' (by rw [← hj];rfl) (by rw [← haj];rfl) (by rw [← hmc];rfl) (by exact aQ 0xf113e81978380aa1f3e819a80a1f rfl hN) hz) fun res s2 h=>?_)
    obtain ⟨v,rfl,kb,rfl,d,js,ps,hp⟩:=h
    exact wpAny_execs_nil ⟨.none,.inl ⟨rfl,rfl⟩,r1.at.keepBut (r1.dxNone hd') kb,rfl,d,js,ps,hp.inst,hp.chain,hp.junk⟩
noncomputable def m0of:Str→Option Value:=upd (upd (upd (upd (fun _=>none) "isjunk" .none) "a" .none) "b" .none) "autojunk" (.bool false)
theorem init_call {X:Cx} {k:Nat} (F:DF X) {A:Around} {s:Shared} {x dx:Addr} {va vb:Value} {bs:List Int} (R:Room (k+4) A) (a:At X s) (I:Inst s.heap 242 x dx (fun _=>none) 0) (hX:X.h₀.get? dx=none)
    (hva:va ≠ .none) (rb:Rep (fun _=>False) s.heap (.list (bs.map .int)) vb) (hz:bs.length≤sizeLine) :
    codeAny (model X.prog X.w) A (.call (.ref 160) ⟨[.ref x,.none,va,vb,.bool false],[]⟩) (fun r s'=>∃ v,r=.ok (.ret v)∧KeepBut dx s s'∧v=.none∧∃ d js ps,Seq2Post X s' x dx (m1of m0of va) vb bs 14 d js ps) s:=by
  obtain ⟨cd,hC⟩:=F.cls
  obtain ⟨o,ho,hao⟩:=I.nsb.aobj
  obtain ⟨_,_,z,D⟩:=F.init
  have hx:(s.heap.hide dx).get? x=some (instObj 242 dx):=by rw [Heap.hide_ne _ I.xne];exact I.obj
  have F':DF (X.on (s.heap.hide dx) fun _ _=>False):=F.on (hide_on a hX)
  obtain ⟨la,lvs,rfl,_,_⟩:=rb.isList
  refine method_frame_wp (bad:=fun _=>False) (Dt:=fun _ _=>False) (bs:=[.raw (.ref x),.raw .none,.raw va,.raw (.ref la),.raw (.bool false)]) D R a ho hao.noseq hX (fun h=>h) low_no (fun _ _ e=>e.elim) (.cons (.raw _) (.cons (.raw _) (.cons (.raw _) (.cons (.raw _) (.cons (.raw _) .nil))))) rfl fun L A' O s₁ R' r=>?_
  refine Exs.then (ss1:=(aH (smSt 1)).take 4) (ss2:=(aH (smSt 1)).drop 4) (P:=fun ρ'=>aM ρ' "self" (.raw (.ref x))∧aM ρ' "a" (.raw va)∧aM ρ' "b" (.raw (.ref la))∧∃ o',aM ρ' "#d" (.at dx o')∧AObj o' m0of 4) ?_ R' r ?_
  · refine aC (ex_doc ?_)
    refine aC (ex_assignV (bG (by k_mem)) (bN (key:="#d") (by k_mem) hx (by k_mem) hao hC (F.own "isjunk" (by decide)).2 (by exact lqx [] [] 0xf13e819081ff rfl) fun o1 ha1=>?_))
    refine aC (ex_assignV2 evv_none (bN (key:="#d") (by k_mem) hx (by k_mem) ha1 hC (F.own "a" (by decide)).2 (by exact lqx [] [] 0xf13e8191808a1ff rfl) fun o2 ha2=>bN (key:="#d") (by k_mem) hx (by k_mem) ha2 hC (F.own "b" (by decide)).2 (by exact lqx [] [] 0xf13e819181808aa1ff rfl) fun o3 ha3=>?_))
    refine aC (ex_assignV (bG (by k_mem)) (bN (key:="#d") (by k_mem) hx (by k_mem) ha3 hC (F.own "autojunk" (by decide)).2 (by exact lqx [] [] 0xf13e81918181808aaa1ff rfl) fun o4 ha4=>aE ?_))
    exact ⟨rfl,by k_mem,by k_mem,by k_mem,o4,by k_mem,ha4⟩
  · rintro ρ' O' s' ⟨hself,hav,hbv,o',hd',ha'⟩ st r'
    obtain ⟨hf2,ht2,z2,D2⟩:=F'.seqs
    obtain ⟨oc,hoc,hdc⟩:=D2.obj
    refine wpAny_execs_cons (wpAny_Expr (mcall_use (Pa:=fun us _=>us=[va,.ref la]) R' r' hself ⟨hx,.inl ⟨o',hd',ha'⟩⟩ hC hf2 ht2 rfl hoc hdc (evvl_cons (bG hav) (evvl_cons (bG hbv) evvl_nil) rfl A' _ O' s' R' r') (fun us s1 x1 r1 e=>?_)))
    subst e
    have I':Inst s1.heap 242 x dx _ 4:=SelfD.inst (key:="#d") ⟨hx,.inl ⟨o',hd',ha'⟩⟩ r1
    have rb':Rep (fun _=>False) s1.heap (.list (bs.map .int)) (.ref la):=(rb.hide ho hao.noseq).keep fun b ob _ _ _ e _=>r1.base b ob e
    refine wpAny_call (codeAny_mono (set_seqs_call F' R' r1.at I' (r1.dxNone hd') rfl hva rfl rb' rfl rfl rfl rfl rfl (by exact lqx [] [] 0xf13e819a848a1ff rfl) hz) fun res s2 h=>?_)
    obtain ⟨v,rfl,kb,rfl,d,js,ps,hp⟩:=h
    exact wpAny_execs_nil ⟨.none,.inl ⟨rfl,rfl⟩,r1.at.keepBut (r1.dxNone hd') kb,rfl,d,js,ps,hp.inst,hp.chain,hp.junk⟩
theorem weight_tc (C:Addr) (rest:List Value) (kw:List (Str×Value)):Code.weight (.builtin "type.__call__" ⟨.ref C :: rest,kw⟩)=1:=by rfl
theorem Room.tc {k:Nat} {A:Around} (r:Room (k+1) A) (C:Addr) (rest:List Value) (kw:List (Str×Value)):Room k (A.under (.builtin "type.__call__" ⟨.ref C :: rest,kw⟩)):=⟨r.handled,by
  have:=r.depth
  show A.depth+Code.weight _+_≤_
  rw [weight_tc];exact aF 0xf113841910ab180aa0f38419181a0ab0a0f rfl this,by
  have:=r.units
  have h:Code.cUnits (.builtin "type.__call__" ⟨.ref C :: rest,kw⟩)≤1:=by first | exact Nat.le_refl 1 | exact Nat.zero_le 1 | decide
  show A.units+Code.cUnits _+_≤_
  exact aO 0xf111232829164b20aa0f1820232829181a64b0a0f rfl this h⟩
theorem make_call {X:Cx} {k:Nat} (F:DF X) (hmk:makesIn X.K 242=true) {A:Around} {s:Shared} {va vb:Value} {bs:List Int} {P:Value→Shared→Prop} (R:Room (k+5) A) (a:At X s)
    (hva:va ≠ .none) (rb:Rep (fun _=>False) s.heap (.list (bs.map .int)) vb) (hz:bs.length≤sizeLine)
    (h:∀ x dx d js ps s',Ext s s'→s.heap.get? x=none→s.heap.get? dx=none→Seq2Post X s' x dx (m1of m0of va) vb bs 14 d js ps→P (.ref x) s') :
    wpAny (model X.prog X.w) A (call (.ref 242) [.none,va,vb,.bool false]) P noE s:=by
  obtain ⟨hf,ht,_⟩:=F.init
  have Kin:=a.wf.kin.keeps a.base
  refine wpAny_call ?_
  obtain ⟨hh,g,dr,t,os⟩:=s
  have none_at:∀ c,hh.objs.size≤c→hh.get? c=none:=fun c hc=>by
    cases e:hh.get? c with
    | none=>rfl
    | some o=>exact absurd (Heap.lt_size e) (Nat.not_lt.mpr hc)
  have k2:∀ b o,hh.get? b=some o→((hh.push emptyDict).push (instObj 242 hh.objs.size)).get? b=some o:=fun b o e=>Heap.get?_push_of_some _ (Heap.get?_push_of_some _ e)
  refine make_core (makes_of Kin hmk) (looks_findIn Kin hf) (fun self=>bind_fn Kin self ht) (.inl rfl) ?_
  have hX:X.h₀.get? hh.objs.size=none:=by
    cases e:X.h₀.get? hh.objs.size with
    | none=>rfl
    | some o=>have:=a.base _ _ e;rw [none_at _ (Nat.le_refl _)] at this;cases this
  have I:Inst ((hh.push emptyDict).push (instObj 242 hh.objs.size)) 242 (hh.objs.size+1) hh.objs.size (fun _=>none) 0:=⟨by
      have:=Heap.get?_push_size (hh.push emptyDict) (o:=instObj 242 hh.objs.size) rfl
      rwa [Heap.size_push] at this,⟨emptyDict,#[],0,Heap.get?_push_of_some _ (Heap.get?_push_size _ rfl),rfl,fun e he=>by simp at he,fun _=>rfl,Nat.le_refl _⟩⟩
  refine codeAny_mono (init_call F (R.tc 242 _ _) (s:=⟨(hh.push emptyDict).push (instObj 242 hh.objs.size),g,dr,t,os⟩) ⟨a.wf,fun b o e=>k2 b o (a.base b o e),a.gens,a.os⟩ I hX hva (rb.keep fun b o _ _ _ e _=>k2 b o e) hz) fun res s' hr=>?_
  obtain ⟨v,rfl,kb,rfl,d,js,ps,hp⟩:=hr
  refine ⟨rfl,h (hh.objs.size+1) hh.objs.size d js ps s' ⟨fun b o e=>kb.keep b o (Nat.ne_of_lt (Heap.lt_size e)) (k2 b o e),kb.gens,kb.os⟩ (none_at _ (by exact aQ 0xf1180a00ff rfl)) (none_at _ (Nat.le_refl _)) hp⟩
theorem md_get:typeLookup (.type "method_descriptor") "__get__"=pure (some (.builtin "method_descriptor.__get__")):=by rw [typeLookup_type,builtinLookup_eq_fast];kernel_rfl
theorem md_set:typeLookup (.type "method_descriptor") "__set__"=pure none:=by rw [typeLookup_type,builtinLookup_eq_fast];kernel_rfl
theorem md_del:typeLookup (.type "method_descriptor") "__delete__"=pure none:=by rw [typeLookup_type,builtinLookup_eq_fast];kernel_rfl
theorem md_slot:Slot "method_descriptor" "__get__" "method_descriptor.__get__" :=
  .of (owner:="method_descriptor") (n:="__get__") (by rw [typeLookup_type,builtinLookup_eq_fast];kernel_rfl) (by decide +kernel) (by decide +kernel) (by decide +kernel)
    (by first | exact .inl (by decide +kernel) | exact .inr (by decide +kernel)) (by rw [isSubtype_type];kernel_rfl)
theorem md_entry:entryFor table "method_descriptor.__get__"=some Builtin.«method_descriptor.__get__»:=entryFor_of_tree (by kernel_rfl)
theorem md_args (a b c:Value):argsOk "method_descriptor.__get__" ⟨[a,b,c],[]⟩:=by unfold argsOk;kernel_rfl
noncomputable def boundObj (id:String) (self:Value):Obj:={ cls:=.type "builtin_function_or_method",data:=.fields #[.builtin id,self] }
section
variable {prog:Program} {w:World} {A:Around} {E:Value→Shared→Prop} {s:Shared}
theorem md_run {T id:String} {a:Addr} {name:String} {P:Fin→Shared→Prop} (hT:s.TypeIs (.ref a) T) (ht:Manifest.toldItsClass.contains id=false) (hsub:isSubtype (.type T) (.type T)=pure true) (hown:(kfb_private% "ownerAndName") id=(T,name))
    (h:P (.done (.ret (.ref s.heap.objs.size))) { s with heap:=s.heap.push (boundObj id (.ref a)) }) :
    wpAny (model prog w) A (Builtin.«method_descriptor.__get__» ⟨[.builtin id,.ref a,.type T],[]⟩) P E s:=by
  unfold Builtin.«method_descriptor.__get__»
  refine wpAny_bind (wpAny_of_eq (a:=(.builtin id,some (.ref a),some (.type T))) (by first | rfl | kernel_rfl) ?_)
  simp only [ht,Bool.false_eq_true,if_false]
  show wpAny _ _ ((do (kfb_private% "checkInstance") (.builtin id) (.ref a);ret (← newFields "builtin_function_or_method" [.builtin id,.ref a]):Sem Fin)) _ _ _
  refine wpAny_bind ?_
  have hn:(kfb_private% "nameAndClass") (.builtin id)=pure (Str.ofString name,.type T):=by
    show (match (kfb_private% "ownerAndName") id with | (owner,name)=>(pure (Str.ofString name,Value.type owner):Sem (Str×Value)))=_
    rw [hown]
  show wpAny _ _ (bind ((kfb_private% "nameAndClass") (.builtin id)) _) _ _ _
  rw [hn]
  refine wpAny_bind (wpAny_pure ?_)
  dsimp only
  refine wpAny_bind (wpAny_isInstance (T:=T) (b:=true) hT hsub ?_)
  simp only [Bool.not_true,Bool.false_eq_true,if_false]
  refine wpAny_pure ?_
  refine wpAny_bind ?_
  exact wpAny_newObj_type (wpAny_pure h)
theorem gb_find {T id:String} {name:Str} {a:Addr} {o:Obj} {u:Tok} {nm:String} {P:Fin→Shared→Prop} (ho:s.heap.get? a=some o) (hc:o.cls=.type T) (hd:o.dict=none) (hdt:∀ c,o.data ≠ .cls c) (hl:typeLookup (.type T) name=pure (some (.builtin id))) (hty:typeOf (.builtin id)=pure (.type "method_descriptor"))
    (hname:(["__module__","__name__","__qualname__","__doc__","__annotations__"]:List Str).contains name=false) (ht:Manifest.toldItsClass.contains id=false) (hsub:isSubtype (.type T) (.type T)=pure true) (hown:(kfb_private% "ownerAndName") id=(T,nm))
    (h:P (.done (.ret (.ref s.heap.objs.size))) { s with heap:=s.heap.push (boundObj id (.ref a)) }) :
    wpAny (model prog w) A (Builtin.«object.__getattribute__» ⟨[.ref a,.str name u],[]⟩) P E s:=by
  have hT:s.TypeIs (.ref a) T:=⟨_,ho,hc⟩
  have hg:=md_get
  have hs:=md_set
  have hdl:=md_del
  obtain ⟨c,dct,dat,sl⟩:=o
  simp only at hc hd hdt
  subst hc hd
  unfold Builtin.«object.__getattribute__»
  repeat (any_goals (first | assumption | wp_step))
  have fin:wpAny (model prog w) A (instanceDict a false) (fun x s'=>x=none∧s'=s) E s:=by
    unfold instanceDict
    repeat (any_goals (first | assumption | wp_step))
    exact ⟨rfl,rfl⟩
  have here:∀ {Qf:Option Addr→Shared→Prop},Qf none s→wpAny (model prog w) A (match dat with | .cls c=>pure (some c.ns) | _=>instanceDict a false) Qf E s:=fun hq=>by
    cases dat <;> first | exact absurd rfl (hdt _) | exact wpAny_mono fin (fun x s' e=>by obtain ⟨rfl,rfl⟩:=e;exact hq) fun _ _ e=>e
  refine here ?_
  repeat (any_goals (first | assumption | wp_step))
  simp only [hname,Bool.false_eq_true,if_false]
  repeat (any_goals (first | assumption | ((with_reducible show wpAny _ _ (call (Value.builtin _) _ _) _ _ _);refine wpAny_call_entry md_slot hty md_entry (md_run hT ht hsub hown ⟨_,rfl,?_⟩) (md_args _ _ _)) | wp_step))
theorem getAttr_bound {T id ga:String} {name:Str} {a:Addr} {o:Obj} {nm:String} {Q:Value→Shared→Prop} (ho:s.heap.get? a=some o) (hc:o.cls=.type T) (hd:o.dict=none) (hdt:∀ c,o.data ≠ .cls c) (hl:typeLookup (.type T) name=pure (some (.builtin id))) (hty:typeOf (.builtin id)=pure (.type "method_descriptor"))
    (hname:(["__module__","__name__","__qualname__","__doc__","__annotations__"]:List Str).contains name=false) (ht:Manifest.toldItsClass.contains id=false) (hsub:isSubtype (.type T) (.type T)=pure true) (hown:(kfb_private% "ownerAndName") id=(T,nm))
    (sga:Slot T "__getattribute__" ga) (ega:entryFor table ga=some Builtin.«object.__getattribute__») (aga:∀ x y,argsOk ga ⟨[x,y],[]⟩)
    (h:Q (.ref s.heap.objs.size) { s with heap:=s.heap.push (boundObj id (.ref a)),toks:=s.toks+1 }):wpAny (model prog w) A (getAttr (.ref a) name true) Q E s:=by
  have hT:∀ tk,({ s with toks:=tk }:Shared).TypeIs (.ref a) T:=fun _=>⟨_,ho,hc⟩
  obtain ⟨c,dct,dat,sl⟩:=o
  simp only at hc hd hdt
  subst hc hd
  have f3:=sga.lookup
  have f4:=sga.bind (.ref a)
  unfold getAttr getAttrBy
  repeat (any_goals (first | assumption | exact hT _ | ((with_reducible show wpAny _ _ (call (Value.builtin _) _ _) _ _ _);refine wpAny_call_entry sga (hT _) ega (gb_find (s:={ s with toks:=s.toks+1 }) ho rfl rfl hdt hl hty hname ht hsub hown ⟨_,rfl,?_⟩) (aga _ _)) | wp_step))
end
theorem dget_type:Manifest.toldItsClass.contains "dict.get"=false:=by decide +kernel
theorem dget_own:(kfb_private% "ownerAndName") "dict.get"=("dict","get"):=by first | decide +kernel | kernel_rfl
theorem scon_type:Manifest.toldItsClass.contains "set.__contains__"=false:=by decide +kernel
theorem scon_own:(kfb_private% "ownerAndName") "set.__contains__"=("set","__contains__"):=by first | decide +kernel | kernel_rfl
theorem dget_sig:Manifest.signature? "dict.get"=some ⟨.positional,"dict.get","get",.self,[⟨"key",.posOnly,true⟩,⟨"default",.posOnly,false⟩]⟩:=by kernel_rfl
theorem scon_sig:Manifest.signature? "set.__contains__"=some ⟨.oneArg,"set.__contains__","__contains__",.self,[⟨"object",.posOnly,true⟩]⟩:=by kernel_rfl
theorem sub_dict_module:isSubtype (.type "dict") (.type "module")=pure false:=by rw [isSubtype_type];kernel_rfl
theorem sub_set_module:isSubtype (.type "set") (.type "module")=pure false:=by rw [isSubtype_type];kernel_rfl
theorem sub_dict_dict:isSubtype (.type "dict") (.type "dict")=pure true:=by rw [isSubtype_type];kernel_rfl
theorem sub_set_set:isSubtype (.type "set") (.type "set")=pure true:=by rw [isSubtype_type];kernel_rfl
section
variable {prog:Program} {w:World} {A:Around} {E:Value→Shared→Prop} {s:Shared}
theorem isType_no {a:Addr} {o:Obj} {Q:Bool→Shared→Prop} (ho:s.heap.get? a=some o) (hdt:∀ c,o.data ≠ .cls c) (h:Q false s):wpAny (model prog w) A (isType (.ref a)) Q E s:=by
  obtain ⟨c,dct,dat,sl⟩:=o
  unfold isType
  refine wpAny_bind (wpAny_loadPart ho (wpAny_pure ?_))
  cases dat <;> first | exact h | exact absurd rfl (hdt _)
theorem check_bound {T id:String} {a:Addr} {o:Obj} {rest:List Value} {sig:Manifest.Signature} {Q:Unit→Shared→Prop} (ho:s.heap.get? a=some o) (hc:o.cls=.type T) (hdt:∀ c,o.data ≠ .cls c) (hsig:Manifest.signature? id=some sig) (hkind:builtinKind id=some .method) (hv:Manifest.varargsMethods.contains id=false)
    (hmod:isSubtype (.type T) (.type "module")=pure false) (harg:Bind.checkArgs id { sig with full:=s!"{Bind.lastOf T}.{Bind.lastOf id}" } ⟨.ref a :: rest,[]⟩=pure ()) (h:Q () s):wpAny (model prog w) A (checkBoundCall id ⟨.ref a :: rest,[]⟩) Q E s:=by
  have hT:s.TypeIs (.ref a) T:=⟨_,ho,hc⟩
  unfold checkBoundCall
  rw [hsig]
  dsimp only
  rw [hkind]
  dsimp only
  rw [if_neg (by decide)]
  refine wpAny_bind (wpAny_isInstance (T:=T) (b:=false) hT hmod ?_)
  rw [hv]
  simp only [Bool.or_false,Bool.false_eq_true,if_false]
  refine wpAny_bind (isType_no ho hdt ?_)
  simp only [Bool.false_eq_true,if_false]
  refine wpAny_bind (wpAny_typeOf hT ?_)
  dsimp only
  exact wpAny_of_eq harg h
theorem call_bound {id:String} {B:Builtin} {g a:Addr} {rest:List Value} {Q:Value→Shared→Prop} (ho:s.heap.get? g=some (boundObj id (.ref a))) (hp:plainId id=true) (hb:entryFor table id=some B)
    (hchk:∀ {A':Around} {E':Value→Shared→Prop} {Q':Unit→Shared→Prop},Q' () s→wpAny (model prog w) A' (checkBoundCall id ⟨.ref a :: rest,[]⟩) Q' E' s)
    (h:wpAny (model prog w) A.in1 (B ⟨.ref a :: rest,[]⟩) (fun fin s'=>∃ v,fin=.done (.ret v)∧Q v s') E s):wpAny (model prog w) A (call (.ref g) rest) Q E s:=by
  refine wpAny_call (codeAny_of_tree ?_)
  show wpAny _ A.in1 (callAny (.ref g) ⟨rest,[]⟩) _ _ s
  simp only [callAny]
  refine wpAny_bind (wpAny_load ho ?_)
  simp only [boundObj,show (Value.type "builtin_function_or_method" == Value.type "method" || Value.type "builtin_function_or_method" == Value.type "builtin_function_or_method" || Value.type "builtin_function_or_method" == Value.type "method-wrapper")=true by decide,if_true]
  refine KFB.if_so (by decide) ?_
  refine wpAny_bind (hchk ?_)
  refine wpAny_bind (wpAny_pure (wpAny_pure ?_))
  refine ⟨plainId_quiet hp _,codeAny_builtin hb ?_⟩
  rw [Around.under_plainId hp]
  refine wpAny_mono h (fun fin s' hf=>?_) fun _ _ e=>e
  obtain ⟨v,rfl,hv⟩:=hf
  exact hv
theorem call_boundC {id T:String} {B:Builtin} {g a:Addr} {o:Obj} {rest:List Value} {sig:Manifest.Signature} {Q:Value→Shared→Prop} (ho:s.heap.get? g=some (boundObj id (.ref a))) (hp:plainId id=true) (hb:entryFor table id=some B) (hoa:s.heap.get? a=some o) (hc:o.cls=.type T) (hdt:∀ c,o.data ≠ .cls c) (hsig:Manifest.signature? id=some sig) (hkind:builtinKind id=some .method) (hv:Manifest.varargsMethods.contains id=false)
    (hmod:isSubtype (.type T) (.type "module")=pure false) (harg:Bind.checkArgs id { sig with full:=s!"{Bind.lastOf T}.{Bind.lastOf id}" } ⟨.ref a :: rest,[]⟩=pure ())
    (h:wpAny (model prog w) A.in1 (B ⟨.ref a :: rest,[]⟩) (fun fin s'=>∃ v,fin=.done (.ret v)∧Q v s') E s):wpAny (model prog w) A (call (.ref g) rest) Q E s :=
  call_bound ho hp hb (fun q=>check_bound hoa hc hdt hsig hkind hv hmod harg q) h
end
theorem dget_plain:plainId "dict.get"=true:=by decide +kernel
theorem dget_kind:builtinKind "dict.get"=some .method:=by decide +kernel
theorem dget_var:Manifest.varargsMethods.contains "dict.get"=false:=by decide +kernel
theorem scon_plain:plainId "set.__contains__"=true:=by decide +kernel
theorem scon_kind:builtinKind "set.__contains__"=some .method:=by decide +kernel
theorem scon_var:Manifest.varargsMethods.contains "set.__contains__"=false:=by decide +kernel
theorem dget_arg (a:Addr) (x y:Value):Bind.checkArgs "dict.get" ⟨.positional,s!"{Bind.lastOf "dict"}.{Bind.lastOf "dict.get"}","get",.self,[⟨"key",.posOnly,true⟩,⟨"default",.posOnly,false⟩]⟩ ⟨[.ref a,x,y],[]⟩=pure ():=by kernel_rfl
theorem scon_arg (a:Addr) (x:Value):Bind.checkArgs "set.__contains__" ⟨.oneArg,s!"{Bind.lastOf "set"}.{Bind.lastOf "set.__contains__"}","__contains__",.self,[⟨"object",.posOnly,true⟩]⟩ ⟨[.ref a,x],[]⟩=pure ():=by kernel_rfl
section
variable {X:Cx} {k:Nat} {env:Env} {ρ:List (Str×B)} {Q:Fl→List (Str×B)→Prop}
noncomputable def AtO (X:Cx) (ρ:List (Str×B)) (a:Addr) (o:Obj):Prop:=(∃ key,aM ρ key (.at a o))∨X.h₀.get? a=some o
theorem AtO.get {a:Addr} {o:Obj} (h:AtO X ρ a o) {bad:Addr→Prop} {O:Str→Option Addr} {s:Shared} (r:Rel X bad O env ρ s):s.heap.get? a=some o:=by
  rcases h with ⟨key,h⟩ | h
  · exact (r.pt _ _ _ h).2
  · exact r.base _ _ h
theorem keeper_bound {M:Model} {h:Heap} {g:Addr} {id:String} {self:Value} (ho:h.get? g=some (boundObj id self)):∃ k,(k=Keeper.frame∨k=Keeper.machine∨k=Keeper.boundFrame)∧Looks M h (keeperOf (.ref g)) k :=
  ⟨.machine,.inr (.inl rfl),(Looks.ld (part:=none) ho).andThen .now⟩
theorem bound_use {x:Str} {p pos:Pos} {e:Expr} {es:List Expr} {ds:List PyData} {g:Addr} {id:String} {self:Value} {A:Around} {bad:Addr→Prop} {O:Str→Option Addr} {s:Shared} {P:Value→Shared→Prop} (R:Room k A) (r:Rel X bad O env ρ s) (hx:aM ρ x (.raw (.ref g))) (hg:AtO X ρ g (boundObj id self)) (ha:EvL X k env ρ pos (e :: es) ds)
    (h:∀ vs s',Ext s s'→Rel X bad O env ρ s'→RepL (aS bad O) s'.heap ds vs→wpAny (model X.prog X.w) A (call (.ref g) vs) P noE s')
    (hd:(x == ("__debug__":Str))=false:=by decide) (he:starEach (e :: es) env=(false,eval e env) :: starEach es env:=by rfl) (hplain:(backTo pos (starEach es env)).any (·.1)=false:=by rfl) :
    wpAny (model X.prog X.w) A (eval (.Call (.Name x p) (e :: es) [] pos) env) P noE s:=by
  refine wpAny_Call_Name_kw (wpAny_Name (Lk.load r.ok.kind (r.raw x _ hx) ?_) hd)
  refine callWith_of (P:=fun h=>h.get? g=some (boundObj id self)) (by rw [he];show ((false || (backTo pos (starEach es env)).any (·.1)) || false)=false;rw [hplain];rfl) (fun h e=>keeper_bound e) ?_
  refine ha.args he R r fun vs s1 x1 r1 q1=>⟨hg.get r1,h vs s1 x1 r1 q1⟩
theorem ev_getBound {x:Str} {p pos:Pos} {e e':Expr} {g d:Addr} {o:Obj} {kvs:List (Int×Value)} {i j z:Int} (hx:aM ρ x (.raw (.ref g))) (hg:AtO X ρ g (boundObj "dict.get" (.ref d))) (hd:AtO X ρ d o) (ho:o.IsDictOf (DK X) kvs) (hlow:(d == sysModules)=false)
    (h1:Ev X k env ρ e (.int i)) (h2:Ev X k env ρ e' (.int j)) (hs:∀ v,valueAt kvs i=some v→∃ t,v=.int z t) (hn:valueAt kvs i=none→z=j)
    (hdb:(x == ("__debug__":Str))=false:=by decide) (he:starEach [e,e'] env=[(false,eval e env),(false,eval e' env)]:=by rfl) (he':starEach [e'] env=[(false,eval e' env)]:=by rfl):Ev X k env ρ (.Call (.Name x p) [e,e'] [] pos) (.int z):=fun A bad O s R r=>by
  refine bound_use R r hx hg (aB h1 (aB h2 aG he') (by rw [he,he'])) (fun vs s1 x1 r1 q1=>?_) hdb (by rw [he,he']) (by rw [he'];rfl)
  refine q1.twoE fun v w qa qb=>qa.intE fun t=>qb.intE fun u=>?_
  have D1:s1.heap.DictOf (DK X) d kvs:=Heap.dictOf_iff.mpr ⟨o,hd.get r1,ho⟩
  have hc:o.cls=.type "dict"∧∀ c,o.data ≠ .cls c:=by
    obtain ⟨es,ep,hE,hdt,_⟩:=ho
    exact ⟨hE.1,fun c e=>by rw [hdt] at e;cases e⟩
  refine call_boundC (hg.get r1) dget_plain PySem.F.entry_dict_get (hd.get r1) hc.1 hc.2 dget_sig dget_kind dget_var sub_dict_module (dget_arg _ _ _) ?_
  show wpAny _ _ (dictGet d (.int i t) >>= _) _ _ s1
  refine wpAny_bind (wpAny_dictGet_of (intKind_is _ _ i t) D1.mapOf ?_)
  have x2:=x1.trans (Ext.toks s1 (s1.toks+1))
  cases hv:valueAt kvs i with
  | some v =>
    obtain ⟨tt,rfl⟩:=hs v hv
    exact wpAny_pure ⟨_,rfl,x2,.int _ _⟩
  | none =>
    show wpAny _ _ (Builtin.Dict.missed d (.int i t) >>= _) _ _ _
    refine wpAny_bind (wpAny_missed_other hlow (wpAny_pure ⟨_,rfl,x2,?_⟩))
    rw [hn hv];exact .int _ _
theorem ev_notin {x:Str} {p pos:Pos} {e:Expr} {g js:Addr} {led:Bool} {i:Int} (hx:aM ρ x (.raw (.ref g))) (hg:AtO X ρ g (boundObj "set.__contains__" (.ref js))) (hj:AtO X ρ js { cls:=.type "set",dict:=none,data:=.set #[] 0 (.fresh 0 0 led) }) (h1:Ev X k env ρ e (.int i))
    (hdb:(x == ("__debug__":Str))=false:=by decide) (he:starEach [e] env=[(false,eval e env)]:=by rfl):Ev X k env ρ (.Call (.Name x p) [e] [] pos) (.bool false):=fun A bad O s R r=>by
  refine bound_use R r hx hg (aB h1 aG he) (fun vs s1 x1 r1 q1=>?_) hdb he rfl
  refine q1.oneE fun v qa=>qa.intE fun t=>?_
  have hS:s1.heap.SetOf (DK X) js (fun _=>false) 0:=(setObjOf_fresh (knd:=DK X) led).setOf (hj.get r1) (by unfold scanBound;decide)
  refine call_boundC (hg.get r1) scon_plain entry_set_contains (hj.get r1) rfl (fun c e=>by cases e) scon_sig scon_kind scon_var sub_set_module (scon_arg _ _) ?_
  have x2:=x1.trans (Ext.toks s1 (s1.toks+1))
  unfold Builtin.«frozenset.__contains__» Builtin.Frozenset.oneOther
  simp only [List.isEmpty_nil,bind_assoc]
  unfold Builtin.Frozenset.addrOf Builtin.Frozenset.withSetAsKey setContains
  refine wpAny_bind (wpAny_pure ?_)
  try dsimp only
  refine wpAny_bind (wpAny_pure ?_)
  try dsimp only
  refine wpAny_bind (wpAny_tryCatch ?_)
  refine wpAny_holding ?_
  refine wpAny_bind ((DK X).pyHash (intKind_is _ _ i t) ?_)
  refine wpAny_bind (wpAny_setFind_of (s:={ s1 with toks:=s1.toks+1 }) (intKind_is _ _ i t) rfl hS fun r hr=>?_)
  refine wpAny_pure ?_
  show wpAny _ _ (ret (Value.bool r.isSome)) _ _ _
  rw [hr]
  exact wpAny_pure ⟨_,rfl,x2,.bool _⟩
theorem evn_get {x:Str} {p pos:Pos} {d:Addr} {o:Obj} {kvs:List (Int×Value)} (hx:aM ρ x (.raw (.ref d))) (hd:AtO X ρ d o) (ho:o.IsDictOf (DK X) kvs) (hdb:(x == ("__debug__":Str))=false:=by decide):EvN X k env ρ (.Attribute (.Name x p) "get" pos) (fun o'=>o'=boundObj "dict.get" (.ref d)):=fun A bad O s R r=>by
  obtain ⟨es,ep,hE,hdt,_⟩:=ho
  refine Attribute_name (wpAny_Name (Lk.load r.ok.kind (r.raw x _ hx) ?_) hdb)
  refine getAttr_bound (hd.get r) hE.1 hE.2.1 (fun c e=>by rw [hdt] at e;cases e) PySem.F.slot_dict_get.lookup PySem.F.type_dict_get (by decide) dget_type sub_dict_dict dget_own PySem.F.slot_dict_getattribute am_entry_dict_getattribute PySem.F.args_dict_getattribute_2 ?_
  exact ⟨⟨fun b o e=>Heap.get?_push_of_some _ e,rfl,rfl⟩,_,_,rfl,get_size _,Heap.get?_push_size _ rfl,new_low r (Nat.le_refl _),rfl⟩
end
theorem set_ga:Slot "set" "__getattribute__" "set.__getattribute__" :=
  .of (owner:="set") (n:="__getattribute__") (by rw [typeLookup_type,builtinLookup_eq_fast];kernel_rfl) (by decide +kernel) (by decide +kernel) (by decide +kernel)
    (by first | exact .inl (by decide +kernel) | exact .inr (by decide +kernel)) (by rw [isSubtype_type];kernel_rfl)
theorem set_ga_entry:entryFor table "set.__getattribute__"=some Builtin.«object.__getattribute__» :=
  entryFor_alias (id':="object.__getattribute__") (by kernel_rfl) (by decide +kernel) (by decide +kernel) (by kernel_rfl)
theorem set_ga_args (a b:Value):argsOk "set.__getattribute__" ⟨[a,b],[]⟩:=by unfold argsOk;kernel_rfl
noncomputable abbrev mtSt (i:Nat):Stmt:=aD (aR (aD topBody 3)) i
noncomputable def fdMT (i:Nat) (nm:Str) (z:Value×Value×Option Addr×Value):FuncData:=fnOf nm ("Match."++nm) (defArgs (mtSt i)) (aH (mtSt i)) (bL (mtSt i)) .none .none z.1 z.2.1 z.2.2.1 z.2.2.2 .none
structure MF (X:Cx):Prop where
  obj:∃ od cd sl,X.K.lookup 135=some ⟨.type "type",od,.cls cd,sl⟩∧cd.mro=[.ref 135,.type "tuple",.type "object"]∧cd.bases=[.type "tuple"]∧(sl.toList[4]?).join=some .none∧cd.hasDel=false
  reads:readsIn X.K 135 (.type "type")=true
  new:findCls X.K (.ref 135) (.type "type") "__new__"=some (.get (.builtin "staticmethod.__get__") (.ref 136) .none (.ref 135))
  srec:recIn X.K 136 "staticmethod"=some [.ref 82]
  call:specialIn X.K (.ref 135) "__call__"=some (some (.builtin "type.__call__"))
  typ:instIn X.K (.ref 135) (.type "type")=some true
  init:findIn X.K (.ref 135) "__init__"=some (some (.builtin "object.__init__"))
  tnew:findCls X.K (.type "tuple") (.type "type") "__new__"=some (.val (.builtin "tuple.__new__"))
  keep:keepIn X.K (.ref 135)=true
  iter:findIn X.K (.ref 135) "__iter__"=some (some (.builtin "tuple.__iter__"))
  ltm:findIn X.K (.ref 135) "__lt__"=some (some (.builtin "tuple.__lt__"))
  dnew:∃ z,DefAt X 82 (fdMT 4 "__new__" z) (aH (mtSt 4)) ["_cls","a","b","size"]
theorem MF.on {X:Cx} (F:MF X) {h:Heap} {D:PyData→Value→Prop} (k:∀ b o,X.h₀.get? b=some o→h.get? b=some o):MF (X.on h D) :=
  ⟨F.obj,F.reads,F.new,F.srec,F.call,F.typ,F.init,F.tnew,F.keep,F.iter,F.ltm,let ⟨z,d⟩:=F.dnew;⟨z,d.on k⟩⟩
theorem tn_plain:plainId "tuple.__new__"=true:=by decide +kernel
theorem tn_kind:builtinKind "tuple.__new__"=some .builtinFn:=by decide +kernel
theorem tn_split:splitId "tuple.__new__"=some ("tuple","__new__"):=by decide +kernel
theorem made_tuple:Bind.madeBy (.type "tuple")=pure (some "tuple.__new__"):=PySem.F.called_tuple.made
theorem best_tuple:Builtin.Slots.bestBase [.type "tuple"]=pure (.type "tuple"):=by first | rfl | kernel_rfl
structure ML (M:Model) (h:Heap):Prop where
  obj:∃ od cd sl,h.get? 135=some ⟨.type "type",od,.cls cd,sl⟩∧cd.mro=[.ref 135,.type "tuple",.type "object"]∧cd.hasDel=false
  mro:Looks M h (mroOf (.ref 135)) [.ref 135,.type "tuple",.type "object"]
  made:Looks M h (Bind.madeBy (.ref 135)) none
  base:Looks M h (Bind.staticBase (.ref 135)) (.type "tuple")
  self:Looks M h (isSubtype (.ref 135) (.ref 135)) true
  tup:Looks M h (isSubtype (.ref 135) (.type "tuple")) true
  top:Looks M h (isSubtype (.ref 135) (.type "object")) true
  call:Looks M h (specialOf (.ref 135) "__call__") (some (.builtin "type.__call__"))
  typ:Looks M h (isInstance (.ref 135) (.type "type")) true
  init:Looks M h (typeLookup (.ref 135) "__init__") (some (.builtin "object.__init__"))
  isT:Looks M h (isType (.ref 135)) true
  iter:Looks M h (typeLookup (.ref 135) "__iter__") (some (.builtin "tuple.__iter__"))
  ltm:Looks M h (typeLookup (.ref 135) "__lt__") (some (.builtin "tuple.__lt__"))
theorem MF.looks {X:Cx} (F:MF X) {M:Model} {h:Heap} (Kin:X.K.In h):ML M h:=by
  obtain ⟨od,cd,sl,ho,e1,e2,e3,e4⟩:=F.obj
  have hc:clsIn X.K 135=some cd:=by unfold clsIn;rw [ho]
  have hm:Looks M h (mroOf (.ref 135)) [.ref 135,.type "tuple",.type "object"]:=e1 ▸ ((looks_clsIn Kin hc).andThen .now)
  have made:Looks M h (Bind.madeBy (.ref 135)) none:=by
    intro A Q E s k q
    unfold Bind.madeBy
    refine wpAny_bind (hm A _ E s k ?_)
    rw [List.forIn_cons]
    refine wpAny_bind (wpAny_bind (wpAny_bind (wpAny_bind (wpAny_loadPart (k _ _ (Kin _ _ ho)) (wpAny_pure ?_)))))
    dsimp only
    rw [← Array.getElem?_toList,e3]
    exact wpAny_pure (wpAny_pure (wpAny_pure q))
  have mi:∀ v,[.ref 135,.type "tuple",.type "object"].contains v=true→mroIn X.K 135 v=some true:=fun v hv=>by unfold mroIn;rw [hc,Option.bind_some,e1,if_neg (by decide),hv]
  refine ⟨⟨od,cd,sl,Kin _ _ ho,e1,e4⟩,hm,made,?_,looks_mroIn Kin (mi _ (by decide)),looks_mroIn Kin (mi _ (by decide)),looks_mroIn Kin (mi _ (by decide)),looks_specialIn Kin F.call,looks_instIn Kin F.typ,looks_findIn Kin F.init,(Looks.ld (Kin _ _ ho)).andThen .now,looks_findIn Kin F.iter,looks_findIn Kin F.ltm⟩
  intro A Q E s k q
  unfold Bind.staticBase
  refine wpAny_bind (hm A _ E s k ?_)
  rw [List.forIn_cons]
  refine wpAny_bind (wpAny_bind (wpAny_bind (made A _ E s k ?_)))
  simp only [Option.isSome_none,Bool.false_eq_true,if_false]
  have ld:Looks M h (classData 135) cd:=looks_clsIn Kin hc
  refine wpAny_bind (ld A _ E s k ?_)
  rw [e2,best_tuple]
  refine wpAny_bind (wpAny_pure (wpAny_pure ?_))
  dsimp only
  rw [List.forIn_cons]
  refine wpAny_bind (wpAny_bind ?_)
  rw [made_tuple]
  refine wpAny_pure ?_
  simp only [Option.isSome_some,if_true]
  exact wpAny_pure (wpAny_pure (wpAny_pure q))
theorem ML.keeps {M:Model} {h h':Heap} (L:ML M h) (k:∀ b o,h.get? b=some o→h'.get? b=some o):ML M h' :=
  ⟨let ⟨od,cd,sl,a,b⟩:=L.obj;⟨od,cd,sl,k _ _ a,b⟩,L.mro.keeps k,L.made.keeps k,L.base.keeps k,L.self.keeps k,L.tup.keeps k,L.top.keeps k,L.call.keeps k,L.typ.keeps k,L.init.keeps k,L.isT.keeps k,L.iter.keeps k,L.ltm.keeps k⟩
section
variable {prog:Program} {w:World} {A:Around} {E:Value→Shared→Prop}
theorem call_bi {s:Shared} {id:String} {args:List Value} {b:Builtin} {Q:Value→Shared→Prop} (hp:plainId id=true) (he:PySem.entryFor PySem.table id=some b)
    (h1:∀ (P:Unit→Shared→Prop) (E':Value→Shared→Prop),P () s→wpAny (model prog w) A.in1 (checkBuiltinCall id ⟨args,[]⟩) P E' s)
    (h2:∀ (P:PySem.Fin→Shared→Prop) (E':Value→Shared→Prop),(∀ v s',Q v s'→P (.done (.ret v)) s')→wpAny (model prog w) A.in1 (b ⟨args,[]⟩) P E' s):wpAny (model prog w) A (call (.builtin id) args) Q E s :=
  wpAny_call (codeAny_call_builtin hp he (h1 _ _ (h2 _ _ fun _ _ h=>h)))
theorem tn_check (v:Value):checkBuiltinCall "tuple.__new__" ⟨[.ref 135,v],[]⟩=checkBuiltinCall "tuple.__new__" ⟨[.ref 135,.none],[]⟩:=by kernel_rfl
theorem tnew_call {s:Shared} {T:Addr} {o:Obj} {vs:Array Value} {n:Nat} {Q:Value→Shared→Prop} (L:ML (model prog w) s.heap) (ho:s.heap.get? T=some o) (hc:o.cls=.type "tuple") (hd:o.data=.seq vs n) (hz:vs.size≤sizeLine)
    (h:∀ h' l dd,(∀ b ob,s.heap.get? b=some ob→h'.get? b=some ob)→s.heap.get? l=none→h'.get? l=some { cls:=.ref 135,dict:=dd,data:=.seq vs }→Q (.ref l) { s with heap:=h' }) :
    wpAny (model prog w) A (call (.builtin "tuple.__new__") [.ref 135,.ref T]) Q E s:=by
  refine call_bi tn_plain PySem.F.entry_tuple_new (fun P E' hP=>?_) fun P E' hP=>?_
  · rw [tn_check]
    simp only [checkBuiltinCall,tn_kind,tn_split]
    have hT:=L.isT
    have h1:=L.tup
    have h2:=L.base
    have h3:=L.made
    have h4:=L.init
    repeat (first | exact hP | simp only [made_tuple,bne_self_eq_false,Bool.false_eq_true,if_false,if_true,Bool.not_true,beq_self_eq_true] | lk)
  unfold Builtin.«tuple.__new__»
  refine wpAny_bind (L.isT.at ?_)
  rw [if_neg (by decide)]
  refine wpAny_bind (L.tup.at ?_)
  rw [if_neg (by decide)]
  have here:Looks (model prog w) s.heap (Bind.madeHere "tuple.__new__" (.ref 135)) ():=L.base.andThen (Looks.andThen (a:=some "tuple.__new__") (Looks.of_pure made_tuple) (Looks.of_pure (by rfl)))
  refine wpAny_bind (here.at ?_)
  refine wpAny_bind (L.init.at ?_)
  rw [if_pos (by rfl)]
  refine wpAny_bind (wpAny_of_eq (a:=()) (by first | rfl | kernel_rfl) ?_)
  refine wpAny_bind (wpAny_of_eq (a:=()) (by first | rfl | kernel_rfl) ?_)
  dsimp only
  rw [if_neg (by decide)]
  refine wpAny_bind (wpAny_collect_seq (hsz:=hz) T (.inr rfl) ho hc hd fun h' hk=>?_)
  obtain ⟨od,cd,sl,hC,_,hdel⟩:=L.obj
  rw [Array.toArray_toList]
  refine wpAny_bind (wpAny_pure (wpAny_bind (wpAny_alloc (wpAny_bind ?_))))
  unfold newObj
  dsimp only
  rw [if_neg (by exact aF 0xf110116f100f rfl hz:¬ vs.size > sizeLine)]
  unfold newObjAsIs classHasDel
  refine wpAny_bind (wpAny_alloc (wpAny_bind (wpAny_bind (wpAny_load (Heap.get?_push_of_some _ (Heap.get?_push_of_some _ (hk _ _ hC))) (wpAny_pure ?_)))))
  rw [hdel]
  refine wpAny_pure (wpAny_pure (hP _ _ (h _ _ (some h'.objs.size) (fun b ob e=>Heap.get?_push_of_some _ (Heap.get?_push_of_some _ (hk b ob e))) ?_ (Heap.get?_push_size _ rfl))))
  cases e:s.heap.get? (h'.push { cls:=.type "dict",data:=.dict #[] }).objs.size with
  | none=>rfl
  | some o' =>
    have:=Heap.lt_size (hk _ _ e)
    rw [Heap.size_push] at this
    exact absurd this (Nat.not_lt.mpr (Nat.le_succ _))
end
noncomputable def mtd (i j n:Nat):PyData:=.dict [(.none,.tuple [.int i,.int j,.int n])]
section
variable {X:Cx} {k:Nat} {env:Env} {ρ:List (Str×B)} {Q:Fl→List (Str×B)→Prop}
theorem getm_tnew (F:MF X) {A:Around} {s:Shared} {pl:Sem Bool} {P:Value×List Value→Shared→Prop} (Kin:X.K.In s.heap) (h:P (.builtin "tuple.__new__",[]) { s with toks:=s.toks+1 }) :
    wpAny (model X.prog X.w) A (getMethod (.type "tuple") "__new__" pl) P noE s:=by
  have hstub:opaqueClassAbove (.type "tuple")=pure none:=by unfold opaqueClassAbove;dsimp only;rw [show Manifest.isStub "tuple"=false by decide +kernel];rfl
  have ht:typeOf (.type "tuple")=pure (.type "type"):=by first | rfl | kernel_rfl
  have L0:Looks (model X.prog X.w) s.heap (typeOf (.type "tuple")) (.type "type"):=Looks.of_pure ht
  have hg:findIn X.K (.type "type") "__getattribute__"=some (some (.builtin "type.__getattribute__")):=type_tga
  unfold getMethod specialOf
  refine wpAny_bind (wpAny_bind (L0.here ((looks_findIn Kin hg).here ?_)))
  dsimp only
  rw [if_pos canon_tga]
  refine wpAny_bind (wpAny_mono (Q:=fun v=>P (v,[])) (E:=noE) ?_ (fun _ _ z=>wpAny_pure z) fun _ _ z=>z)
  have LO:Looks (model X.prog X.w) s.heap (opaqueClassAbove (.type "tuple")) none:=Looks.of_pure hstub
  refine cls_open Kin LO L0 hg (looks_hook Kin (r:=none) (by rfl)) (by show subIn X.K _ _=_;rfl) F.tnew ?_
  exact wpAny_pure (by show wpAny _ _ (handedOut (.builtin "tuple.__new__")) _ _ _;rw [handedOut_of (by decide +kernel)];exact wpAny_pure h)
theorem ev_tnew (F:MF X) (ht:X.gl ("tuple":Str)=some (.type "tuple")) {p apos pos:Pos} {pl:Sem Bool} {e e':Expr} {ds:List PyData} (hk:env.kindOf ("tuple":Str)=some .globalImplicit) (he:EvV X k env ρ e (.ref 135)) (he':Ev X k env ρ e' (.tuple ds)) (hz:ds.length≤sizeLine)
    (hev:eval (.Call (.Attribute (.Name "tuple" p) "__new__" apos) [e,e'] [] pos) env=(do
      let ov ← eval (.Name "tuple" p) env
      standAt apos.atName
      let (f,first) ← holding [ov] (getMethod ov "__new__" pl)
      callWith pos f first (backTo pos (starEach [e,e'] env)) []):=by rfl)
    (hst:starEach [e,e'] env=[(false,eval e env),(false,eval e' env)]:=by rfl) (hst2:starEach [e'] env=[(false,eval e' env)]:=by rfl) :
    Ev X k env ρ (.Call (.Attribute (.Name "tuple" p) "__new__" apos) [e,e'] [] pos) (.dict [(.none,.tuple ds)]):=fun A bad O s R r=>by
  refine MethodCall_ (glob_use r ht hk ?_) hev
  refine getm_tnew F (r.wf.kin.keeps r.base) ?_
  have x0:=Ext.toks s (s.toks+1)
  have r0:=r.ext x0
  refine callWith_method1 ?_ (by rw [hst,hst2]) (by rw [hst2];rfl)
  refine wpAny_items_cons (he.use R r0 fun s1 x1 r1=>?_) (by rw [hst,hst2])
  refine wpAny_items_cons (he'.use R r1 fun v s2 x2 r2 q2=>?_) hst2
  refine wpAny_items_nil ?_
  refine q2.tupE fun T vs n hb ho qs=>?_
  have hl:vs.size=ds.length:=by rw [← Array.length_toList,qs.length]
  refine tnew_call (F.looks (r2.wf.kin.keeps r2.base)) ho rfl rfl (by rw [hl];exact hz) fun h' l dd hk hl hnew=>?_
  have x3:Ext s2 { s2 with heap:=h' }:=⟨hk,rfl,rfl⟩
  exact ⟨x0.trans (x1.trans (x2.trans x3)),.mt (new_good r2 hl) hnew (qs.ext x3)⟩
end
theorem new_call {X:Cx} {k:Nat} (F:DF X) (G:MF X) {A:Around} {bad:Addr→Prop} {s:Shared} {us:List Value} {i j n:Nat} (R:Room (k+1) A) (a:At X s) (low:∀ a,bad a→∃ o,s.heap.get? a=some o) (q:RepL bad s.heap [.int i,.int j,.int n] us) :
    codeAny (model X.prog X.w) A (.call (.ref 82) ⟨.ref 135 :: us,[]⟩) (fun r s'=>∃ v,r=.ok (.ret v)∧Ext s s'∧Rep bad s'.heap (mtd i j n) v) s:=by
  obtain ⟨z,D⟩:=G.dnew
  have F':DF (X.on s.heap fun _ _=>False):=F.on a.base
  have G':MF (X.on s.heap fun _ _=>False):=G.on a.base
  cases q with
  | cons q1 q =>
    cases q with
    | cons q2 q =>
      refine q.oneE fun v q3=>?_
      refine codeAny_mono (still_frame (bad:=bad) (Dt:=fun _ _=>False) (bs:=[.raw (.ref 135),.val (.int i),.val (.int j),.val (.int n)]) (P:=fun fl _=>fl=.ret (mtd i j n)) D R a low (fun _ _ e=>e.elim) (.cons (.raw _) (.cons (.val q1) (.cons (.val q2) (.cons (.val q3) .nil)))) rfl fun L=>?_) fun r s' h=>?_
      · refine aC (ex_doc ?_)
        refine aC (ex_return (d:=mtd i j n) (ev_tnew G' F'.tuple rfl (bG (by k_mem)) (aV (aB (aA (d:=.int i) (by k_mem)) (aB (aA (d:=.int j) (by k_mem)) (aB (aA (d:=.int n) (by k_mem)) aG))) (by simp only [List.length_cons,List.length_nil];decide)) (by simp only [List.length_cons,List.length_nil];decide)) ⟨rfl,.inr ⟨_,rfl⟩⟩)
      · obtain ⟨v,fl,ρ',O',L,rfl,rfl,hv,x,r'⟩:=h
        exact ⟨v,rfl,x,hv⟩
theorem slot_callA {prog:Program} {w:World} {A:Around} {s:Shared} {R:Result→Shared→Prop} {id owner n:String} {self:Value} {rest:List Value} {kw:List (Str×Value)} {b:Builtin} (hq:(Code.builtin id ⟨self :: rest,kw⟩).quiet=true) (hb:entryFor table id=some b) (hk:builtinKind id=some .slot) (hs:splitId id=some (owner,n)) (hi:Looks (model prog w) s.heap (isInstance self (.type owner)) true) (ha:argsOk id ⟨self :: rest,kw⟩)
    (h:wpAny (model prog w) (A.under (.builtin id ⟨self :: rest,kw⟩)) (b ⟨self :: rest,kw⟩) (fun fin s'=>match fin with | .done f=>R (.ok f) s' | .again c'=>c'.quiet=true∧codeAny (model prog w) A c' R s') (fun e s'=>R (.error e) s') s):codeAny (model prog w) A (.call (.builtin id) ⟨self :: rest,kw⟩) R s :=
  codeAny_call_builtin_at hq hb (check_slot hk hs hi ha h)
theorem slot_callB {prog:Program} {w:World} {A:Around} {s:Shared} {R:Result→Shared→Prop} {id owner n:String} {self:Value} {rest:List Value} {b:Builtin} (hp:plainId id=true) (hb:entryFor table id=some b) (hk:builtinKind id=some .slot) (hs:splitId id=some (owner,n)) (hi:Looks (model prog w) s.heap (isInstance self (.type owner)) true) (ha:argsOk id ⟨self :: rest,[]⟩)
    (h:wpAny (model prog w) A.in1 (b ⟨self :: rest,[]⟩) (fun fin s'=>match fin with | .done f=>R (.ok f) s' | .again c'=>c'.quiet=true∧codeAny (model prog w) A c' R s') (fun e s'=>R (.error e) s') s):codeAny (model prog w) A (.call (.builtin id) ⟨self :: rest,[]⟩) R s :=
  codeAny_call_builtin hp hb (check_slot hk hs hi ha h)
theorem oi_args4 (a b c d:Value):argsOk "object.__init__" ⟨[a,b,c,d],[]⟩:=by unfold argsOk;kernel_rfl
theorem match_call {X:Cx} {k:Nat} (F:DF X) (G:MF X) {A:Around} {bad:Addr→Prop} {s:Shared} {us:List Value} {i j n:Nat} {Q:Value→Shared→Prop} (R:Room (k+2) A) (a:At X s) (low:∀ a,bad a→∃ o,s.heap.get? a=some o) (q:RepL bad s.heap [.int i,.int j,.int n] us)
    (h:∀ v s',Ext s s'→Rep bad s'.heap (mtd i j n) v→Q v s'):wpAny (model X.prog X.w) A (call (.ref 135) us) Q noE s:=by
  have Kin:=a.wf.kin.keeps a.base
  have L:=G.looks (M:=model X.prog X.w) Kin
  obtain ⟨od,cd,sl,hC,hmro,_⟩:=L.obj
  have h82:∀ {h':Heap},(∀ b o,s.heap.get? b=some o→h'.get? b=some o)→X.K.In h':=fun hk=>Kin.keeps hk
  refine wpAny_call (codeAny_of_tree ?_)
  show wpAny _ _ (callAny (.ref 135) _) _ _ _
  refine nd_load hC ?_
  show wpAny _ _ (callAny.viaDunder (.ref 135) _) _ _ _
  unfold callAny.viaDunder
  refine wpAny_bind (L.call.here ?_)
  dsimp only
  rw [tc_bind]
  refine wpAny_bind (wpAny_pure (wpAny_bind (wpAny_pure ?_)))
  refine wpAny_pure (a:=Fin.again (.call (.builtin "type.__call__") ⟨.ref 135 :: us,[]⟩)) (And.intro rfl ?_)
  refine slot_callA (Code.quiet_builtin _ (by decide +kernel)) entry_typeCall tc_kind tc_split L.typ (tc_args _ _ _) ?_
  have R':Room (k+1) (A.under (.builtin "type.__call__" ⟨.ref 135 :: us,[]⟩)):=R.tc 135 us []
  generalize A.under (.builtin "type.__call__" ⟨.ref 135 :: us,[]⟩)=A' at R' ⊢
  unfold Builtin.«type.__call__»
  dsimp only
  rw [if_neg (by decide)]
  refine wpAny_bind (L.mro.here ?_)
  rw [if_neg (by decide)]
  refine wpAny_bind (L.made.here ?_)
  dsimp only
  refine wpAny_bind ?_
  refine cls_bind Kin G.reads G.new (wpAny_call (sm_get (s:={ s with toks:=s.toks+1 }) Kin G.srec (handed_on rfl ?_)))
  refine wpAny_bind (wpAny_holding (wpAny_call ?_))
  have x0:=Ext.toks s (s.toks+1)
  refine codeAny_mono (new_call F G (s:={ s with toks:=s.toks+1 }) R' (a.ext x0) low q) fun res s1 hr=>?_
  obtain ⟨v,rfl,x1,rv⟩:=hr
  have rv':=rv
  cases rv with
  | @mt l dd vs m _ hb ho qs =>
    have x01:=x0.trans x1
    have L1:=L.keeps x01.keep
    obtain ⟨h1,g1,d1,t1,o1⟩:=s1
    have t1':Looks (model X.prog X.w) h1 (typeOf (.ref l)) (.ref 135):=(Looks.ld ho).andThen .now
    have ii:Looks (model X.prog X.w) h1 (isInstance (.ref l) (.ref 135)) true:=t1'.andThen L1.self
    have io:Looks (model X.prog X.w) h1 (isInstance (.ref l) (.type "object")) true:=t1'.andThen L1.top
    refine wpAny_bind (ii.here ?_)
    simp only [Bool.not_true,Bool.false_eq_true,if_false]
    refine wpAny_bind (wpAny_holding ?_)
    have fin:Q (.ref l) ⟨h1,g1,d1,t1,o1⟩:=h _ _ x01 rv'
    unfold callSpecial? specialOf
    refine wpAny_bind (wpAny_bind (t1'.here (L1.init.here ?_)))
    dsimp only
    refine wpAny_holding ?_
    rw [oi_bind]
    refine wpAny_bind (wpAny_pure ?_)
    dsimp only
    obtain ⟨u1,u2,u3,rfl⟩:∃ u1 u2 u3,us=[u1,u2,u3]:=by
      cases q with
      | cons _ q=>cases q with
        | cons _ q=>cases q with
          | cons _ q=>cases q;exact ⟨_,_,_,rfl⟩
    refine wpAny_bind (wpAny_call (slot_callB oi_plain entry_oi oi_kind oi_split io (oi_args4 _ _ _ _) ?_))
    unfold Builtin.«object.__init__»
    have m1:=L1.made
    have i1:=L1.init
    dsimp only
    repeat (first | exact fin | simp only [bne_self_eq_false,Bool.false_eq_true,if_false,if_true,Bool.not_true,beq_self_eq_true,Bool.not_false,List.isEmpty_cons,List.isEmpty_nil,Bool.or_false,Bool.or_true,Bool.true_or,Bool.false_or] | lk)
theorem ev_match {X:Cx} {k:Nat} {env:Env} {ρ:List (Str×B)} (F:DF X) (G:MF X) {p pos:Pos} {e e' e'':Expr} {i j n:Nat} (hk:env.kindOf ("Match":Str)=some .globalImplicit) (h:EvL X (k+2) env ρ pos [e,e',e''] [.int i,.int j,.int n])
    (he:starEach [e,e',e''] env=(false,eval e env) :: starEach [e',e''] env:=by rfl) (hplain:(backTo pos (starEach [e',e''] env)).any (·.1)=false:=by rfl):Ev X (k+2) env ρ (.Call (.Name "Match" p) [e,e',e''] [] pos) (mtd i j n):=fun A bad O s R r=>by
  refine wpAny_Call_Name_kw (glob_use r F.mtch hk ?_)
  have h':=h A bad O s R r
  refine callWith_K (r.wf.kin.keeps r.base) G.keep (wpAny_mono h' (fun vs s1 q=>?_) fun _ _ x=>x) he hplain
  have r1:=r.ext q.1
  exact ⟨r1.wf.kin.keeps r1.base,match_call F G R r1.at (badO_alive r1) q.2 fun v s2 x2 rv=>⟨q.1.trans x2,rv⟩⟩
theorem ti_kind:builtinKind "tuple.__iter__"=some .slot:=by decide +kernel
theorem ti_split:splitId "tuple.__iter__"=some ("tuple","__iter__"):=by decide +kernel
noncomputable def TIt (h:Heap) (it t:Addr) (i:Nat):Prop:=h.get? it=some { cls:=.type "tuple_iterator",data:=.fields #[.ref t,.int i 0] }
noncomputable def SeqAt' (h:Heap) (t:Addr) (items:Array Value):Prop:=∃ o n,h.get? t=some o∧o.data=.seq items n
section
variable {prog:Program} {w:World} {A:Around} {E:Value→Shared→Prop} {s:Shared}
theorem bind_bound {self f:Value} {name:Str} {Q:Option (Value×List Value)→Shared→Prop} (hs:Looks (model prog w) s.heap (specialOf self name) (some f)) (hb:bindSpecial f self=pure (f,[self])) (h:Q (some (f,[self])) s):wpAny (model prog w) A (bindSpecialIfBound? self name) Q E s:=by
  unfold bindSpecialIfBound?
  refine wpAny_bind (hs.here ?_)
  dsimp only
  rw [hb]
  refine wpAny_bind (wpAny_askSetting ?_)
  refine wpAny_ite ?_
  split
  · exact wpAny_bind (wpAny_pure (wpAny_pure h))
  · exact wpAny_tryCatch (wpAny_bind (wpAny_pure (wpAny_pure h)))
theorem mt_iter {t:Addr} {dd:Option Addr} {items:Array Value} {n:Nat} {Q:Value→Shared→Prop} (L:ML (model prog w) s.heap) (ho:s.heap.get? t=some { cls:=.ref 135,dict:=dd,data:=.seq items n })
    (hQ:∀ h' it,(∀ b o,s.heap.get? b=some o→h'.get? b=some o)→s.heap.get? it=none→TIt h' it t 0→Q (.ref it) { s with heap:=h' }):wpAny (model prog w) A (pyIter (.ref t)) Q E s:=by
  obtain ⟨hh,g,dr,tk,os⟩:=s
  have t1:Looks (model prog w) hh (typeOf (.ref t)) (.ref 135):=(Looks.ld ho).andThen .now
  have it1:=L.iter
  have iT:Looks (model prog w) hh (isInstance (.ref t) (.type "tuple")) true:=t1.andThen L.tup
  have bnd:=PySem.F.slot_tuple_iter.bind (.ref t)
  have fin:∀ {P:Value→Shared→Prop},P (.ref hh.objs.size) ⟨hh.push { cls:=.type "tuple_iterator",data:=.fields #[.ref t,.int 0 0] },g,dr,tk,os⟩→wpAny (model prog w) A (call (.builtin "tuple.__iter__") [.ref t]) P E ⟨hh,g,dr,tk,os⟩:=fun hp=>by
    refine wpAny_call (slot_callB PySem.F.slot_tuple_iter.plain PySem.F.entry_tuple_iter ti_kind ti_split iT (PySem.F.args_tuple_iter_1 _) ?_)
    show wpAny _ _ (do ret (← newFields "tuple_iterator" [.ref t,rawInt 0])) _ _ _
    exact wpAny_bind (wpAny_newObj_type (wpAny_pure hp))
  have done:∀ (P:Value→Shared→Prop),Q (.ref hh.objs.size) ⟨hh.push { cls:=.type "tuple_iterator",data:=.fields #[.ref t,.int 0 0] },g,dr,tk,os⟩:=fun _=>hQ _ _ (fun b o e=>Heap.get?_push_of_some _ e) (get_size _) (Heap.get?_push_size _ rfl)
  have nx:Looks (model prog w) (hh.push { cls:=.type "tuple_iterator",data:=.fields #[.ref t,.int 0 0] }) (specialOf (.ref hh.objs.size) "__next__") (some (.builtin "tuple_iterator.__next__")) :=
    Looks.andThen (a:=.type "tuple_iterator") ((Looks.ld (Heap.get?_push_size _ rfl)).andThen .now) (Looks.of_pure PySem.F.slot_tuple_iterator_next.lookup)
  unfold pyIter
  refine wpAny_bind ?_
  refine wpAny_bind (t1.here (it1.here ?_))
  dsimp only
  refine wpAny_bind ?_
  unfold callSpecialIfBoundUnlessNone?
  refine wpAny_holding (wpAny_bind (bind_bound (s:=⟨hh,g,dr,tk,os⟩) (t1.andThen it1) bnd ?_))
  dsimp only
  rw [if_neg (by decide)]
  refine wpAny_bind (fin (wpAny_pure ?_))
  dsimp only
  exact wpAny_bind (nx.here (wpAny_pure (done fun _ _=>True)))
theorem ti_next {it t:Addr} {i:Nat} {items:Array Value} {x:Value} {Q:Option Value→Shared→Prop} (hit:TIt s.heap it t i) (ht:SeqAt' s.heap t items) (hx:items[i]?=some x)
    (hQ:∀ h',TIt h' it t (i+1)→Heap.SameBut it s.heap h'→Q (some x) { s with heap:=h' }):wpAny (model prog w) A (pyNext (.ref it)) Q E s:=by
  obtain ⟨o,n,ho,hd⟩:=ht
  have hT:s.TypeIs (.ref it) "tuple_iterator":=⟨_,hit,rfl⟩
  unfold pyNext
  refine wpAny_bind (wpAny_attempt (wpAny_callSpecial?_slot (name:=Str.ofString "__next__") hT PySem.F.slot_tuple_iterator_next
    (wpAny_call_entry PySem.F.slot_tuple_iterator_next hT PySem.F.entry_tuple_iterator_next ?_ (PySem.F.args_tuple_iterator_next_1 _))))
  show wpAny _ _ (field (.ref it) 0 >>= _) _ _ s
  refine wpAny_bind (wpAny_field hit rfl (x:=.ref t) rfl ?_)
  show wpAny _ _ (if (Value.ref t == Value.none)=true then _ else _) _ _ s
  rw [if_neg (show ¬ ((Value.ref t == Value.none)=true) from Bool.false_ne_true)]
  show wpAny _ _ (field (.ref it) 1 >>= _) _ _ s
  refine wpAny_bind (wpAny_field hit rfl (x:=.int i 0) rfl ?_)
  show wpAny _ _ (seqItems? (.ref t) >>= _) _ _ s
  refine wpAny_bind (wpAny_seqItems ho hd ?_)
  simp only [Int.toNat_natCast,hx]
  refine wpAny_bind (wpAny_setField_rec hit (by simp) fun h' he' hs'=>wpAny_pure ⟨x,rfl,wpAny_pure (hQ h' ?_ hs')⟩)
  have e:((#[Value.ref t,Value.int (i:Int) 0]:Array Value).setIfInBounds 1 (rawInt ((i:Int)+1)))=#[.ref t,.int ((i+1:Nat):Int) 0]:=by simp [rawInt]
  rw [e] at he'
  exact he'
theorem ti_end {it t:Addr} {i:Nat} {items:Array Value} {Q:Option Value→Shared→Prop} (hh:A.handled=none) (hit:TIt s.heap it t i) (ht:SeqAt' s.heap t items) (hx:items[i]?=none)
    (hQ:∀ h',(∀ b o,b ≠ it→s.heap.get? b=some o→h'.get? b=some o)→Q none { s with heap:=h' }):wpAny (model prog w) A (pyNext (.ref it)) Q E s:=by
  obtain ⟨o,n,ho,hd⟩:=ht
  have hT:s.TypeIs (.ref it) "tuple_iterator":=⟨_,hit,rfl⟩
  unfold pyNext
  refine wpAny_bind (wpAny_attempt (wpAny_callSpecial?_slot (name:=Str.ofString "__next__") hT PySem.F.slot_tuple_iterator_next
    (wpAny_call_entry PySem.F.slot_tuple_iterator_next hT PySem.F.entry_tuple_iterator_next ?_ (PySem.F.args_tuple_iterator_next_1 _))))
  show wpAny _ _ (field (.ref it) 0 >>= _) _ _ s
  refine wpAny_bind (wpAny_field hit rfl (x:=.ref t) rfl ?_)
  show wpAny _ _ (if (Value.ref t == Value.none)=true then _ else _) _ _ s
  rw [if_neg (show ¬ ((Value.ref t == Value.none)=true) from Bool.false_ne_true)]
  show wpAny _ _ (field (.ref it) 1 >>= _) _ _ s
  refine wpAny_bind (wpAny_field hit rfl (x:=.int i 0) rfl ?_)
  show wpAny _ _ (seqItems? (.ref t) >>= _) _ _ s
  refine wpAny_bind (wpAny_seqItems ho hd ?_)
  simp only [Int.toNat_natCast,hx]
  refine wpAny_bind (wpAny_rule (wpAny_bind (wpAny_setField_rec hit (by simp) fun h' he' hs'=>?_)))
  show wpAny _ _ (newExc (.type "StopIteration") [] >>= _) _ _ _
  refine wpAny_bind ?_
  simp only [newExc,newTuple]
  refine wpAny_bind (wpAny_newObj_type ?_ (by size_fits))
  refine wpAny_bind (m:=firstArgMember _ _) (wpAny_of_eq (a:=Value.none) (by first | rfl | (simp only [firstArgMember];rfl)) ?_)
  refine wpAny_newObj_type ?_ (by size_fits)
  simp only [raiseNew]
  refine wpAny_bind (wpAny_handled ?_)
  first | rw [show A.in1.handled=none from hh] | rw [hh]
  refine wpAny_bind (wpAny_pure (wpAny_throw ?_))
  refine wpAny_bind (wpAny_isInstance (T:="StopIteration") (b:=true) ⟨_,Heap.get?_push_size _ rfl,rfl⟩ isSubtype_stop ?_)
  exact wpAny_pure (hQ _ fun b o hb e=>Heap.get?_push_of_some _ (Heap.get?_push_of_some _ (hs'.extBut b o hb e)))
theorem ti_draw {it t:Addr} {items:Array Value} (hne:t ≠ it):∀ (n i:Nat) (s:Shared) (Q:List Value→Shared→Prop),TIt s.heap it t i→SeqAt' s.heap t items→i+n≤items.size →
    (∀ h',TIt h' it t (i+n)→Heap.SameBut it s.heap h'→Q ((items.toList.drop i).take n) { s with heap:=h' })→wpAny (model prog w) A (draw (.ref it) n) Q E s
  | 0,i,s,Q,hit,_,_,hQ=>wpAny_pure (by simpa using hQ s.heap hit (Heap.SameBut.refl ..))
  | n+1,i,s,Q,hit,ht,hle,hQ=>by
    have hlt:i < items.size:=by exact aO 0xf11201f2181a0a0f rfl hle
    show wpAny _ _ (pyNext (.ref it) >>= _) Q E s
    refine wpAny_bind (ti_next hit ht (x:=items[i]) (by simp [hlt]) fun h₁ hit₁ hs₁=>?_)
    have ht₁:SeqAt' h₁ t items:=let ⟨o,m,ho,hd⟩:=ht;⟨o,m,(hs₁.2 t hne).trans ho,hd⟩
    refine wpAny_bind (wpAny_holding (ti_draw hne n (i+1) _ _ hit₁ ht₁ (by exact aO 0xf1121180aa0f2181a0a0f rfl hle) fun h₂ hit₂ hs₂=>wpAny_pure ?_))
    have hd:items.toList.drop i=items[i] :: items.toList.drop (i+1):=by simp [List.drop_eq_getElem_cons,hlt]
    have:=hQ h₂ (by rw [show i+(n+1)=i+1+n by exact aF 0xf1f1f1180aa181a0a2ff rfl];exact hit₂) (hs₁.trans hs₂)
    rw [hd,List.take_succ_cons] at this
    exact this
theorem mt_unpack {t:Addr} {dd:Option Addr} {items:Array Value} {n:Nat} {Q:List Value→Shared→Prop} (hh:A.handled=none) (L:ML (model prog w) s.heap) (ho:s.heap.get? t=some { cls:=.ref 135,dict:=dd,data:=.seq items n })
    (hQ:∀ h',(∀ b o,s.heap.get? b=some o→h'.get? b=some o)→Q items.toList { s with heap:=h' }):wpAny (model prog w) A (unpackItems (.ref t) items.size none) Q E s:=by
  have t1:Looks (model prog w) s.heap (typeOf (.ref t)) (.ref 135):=(Looks.ld ho).andThen .now
  have it1:Looks (model prog w) s.heap (specialOf (.ref t) "__iter__") (some (.builtin "tuple.__iter__")):=t1.andThen L.iter
  unfold unpackItems
  refine wpAny_bind ?_
  unfold notIterableAtAll
  refine wpAny_bind (it1.here ?_)
  refine wpAny_pure ?_
  simp only [Bool.false_eq_true,if_false]
  refine wpAny_bind (wpAny_holding (mt_iter L ho fun h1 it hk hn hit=>?_))
  have hne:t ≠ it:=fun e=>by rw [e,hn] at ho;cases ho
  have ht1:SeqAt' h1 t items:=⟨_,_,hk _ _ ho,rfl⟩
  refine wpAny_bind (wpAny_holding (ti_draw hne items.size 0 _ _ hit ht1 (by exact aQ 0xf10008a0ff rfl) fun h2 hit2 hs2=>?_))
  have hall:List.take items.size (List.drop 0 items.toList)=items.toList:=by
    rw [List.drop_zero];exact List.take_of_length_le (by simp)
  rw [hall,if_neg (by simp)]
  have ht2:SeqAt' h2 t items:=let ⟨o,m,ho,hd⟩:=ht1;⟨o,m,(hs2.2 t hne).trans ho,hd⟩
  refine wpAny_bind (wpAny_holding (ti_end hh hit2 ht2 (by simp) fun h3 he3=>?_))
  simp only [Option.isSome_none,Bool.false_eq_true,if_false]
  refine wpAny_pure (hQ h3 fun b o e=>?_)
  have hb:b ≠ it:=fun z=>by rw [z,hn] at e;cases e
  exact he3 b o hb ((hs2.2 b hb).trans (hk b o e))
end
theorem asg_mt {X:Cx} {k:Nat} {env:Env} {ρ:List (Str×B)} (G:MF X) {ts:List Expr} {n:Nat} {p:Pos} {ds:List PyData} {ρ':List (Str×B)} (h:AsgL X k env ρ ts ds ρ') (hn:(assignEach ts env).length=ds.length) (hstar:(assignEach ts env).findIdx? (·.1)=none):Asg X k env ρ (.Tuple ts n p) (.dict [(.none,.tuple ds)]) ρ':=fun A bad O s v R r q=>by
  refine q.mtE fun t dd vs m hb ho qs=>?_
  have hl:vs.size=ds.length:=by rw [← Array.length_toList,qs.length]
  rw [arm_assign_Tuple]
  refine wpAny_bind (wpAny_standAt ?_)
  unfold unpack
  rw [hstar,hn,← hl]
  refine wpAny_bind (wpAny_holding (mt_unpack R.handled (G.looks (r.wf.kin.keeps r.base)) ho fun h' hk=>?_))
  have x1:Ext s { s with heap:=h' }:=⟨hk,rfl,rfl⟩
  refine wpAny_mono (h A bad O { s with heap:=h' } vs.toList R (r.ext x1) (qs.ext x1)) (fun _ s2 p=>?_) fun _ _ x=>x
  obtain ⟨O2,st2,r2⟩:=p
  exact ⟨O2,(Step.of_ext x1).trans st2,r2⟩
section
variable {X:Cx} {k:Nat} {env:Env} {ρ:List (Str×B)} {Q:Fl→List (Str×B)→Prop}
noncomputable def AsgVL (X:Cx) (k:Nat) (env:Env) (ρ:List (Str×B)) (ts:List Expr) (vs:List Value) (P:List (Str×B)→Prop):Prop :=
  ∀ (A:Around) (bad:Addr→Prop) (O:Str→Option Addr) (s:Shared),Room k A→Rel X bad O env ρ s →
    wpAny (model X.prog X.w) A (assignInOrder ((assignEach ts env).map (·.2)) vs) (fun _ s'=>∃ O' ρ',P ρ'∧Step env O O' s s'∧Rel X bad O' env ρ' s') noE s
theorem asgvl_nil {P:List (Str×B)→Prop} (h:P ρ):AsgVL X k env ρ [] [] P:=fun A bad O s R r=>wpAny_pure ⟨O,ρ,h,Step.refl _ _ _,r⟩
theorem asgvl_cons {t:Expr} {ts:List Expr} {v:Value} {vs:List Value} {P:List (Str×B)→Prop} (h:AsgV X k env ρ t v fun ρ₁=>AsgVL X k env ρ₁ ts vs P) (he:assignEach (t :: ts) env=(false,assign t env) :: assignEach ts env:=by rfl):AsgVL X k env ρ (t :: ts) (v :: vs) P:=fun A bad O s R r=>by
  rw [he,List.map_cons]
  unfold assignInOrder
  refine wpAny_bind (wpAny_holding (wpAny_mono (h A bad O s R r) (fun _ s1 p=>?_) fun _ _ x=>x))
  obtain ⟨O1,ρ1,h1,st,r1⟩:=p
  refine wpAny_mono (h1 A bad O1 s1 R r1) (fun _ s2 p=>?_) fun _ _ x=>x
  obtain ⟨O2,ρ2,h2,st2,r2⟩:=p
  exact ⟨O2,ρ2,h2,st.trans st2,r2⟩
theorem ex_tup4 {ts:List Expr} {e1 e2 e3 e4:Expr} {n n':Nat} {p p' pos:Pos} {v1 v2 v3:Value} {Po:Obj→Prop} (key:Str) (h1:EvV X k env ρ e1 v1) (h2:EvV X k env ρ e2 v2) (h3:EvV X k env ρ e3 v3) (h4:EvN X k env ρ e4 Po)
    (hq:∀ l o,Po o→AsgVL X k env (put ρ key (.at l o)) ts [v1,v2,v3,.ref l] (Q .next))
    (hst:starEach [e1,e2,e3,e4] env=[(false,eval e1 env),(false,eval e2 env),(false,eval e3 env),(false,eval e4 env)]:=by rfl) (hst2:starEach [e2,e3,e4] env=[(false,eval e2 env),(false,eval e3 env),(false,eval e4 env)]:=by rfl) (hst3:starEach [e3,e4] env=[(false,eval e3 env),(false,eval e4 env)]:=by rfl) (hst4:starEach [e4] env=[(false,eval e4 env)]:=by rfl)
    (hn:(assignEach ts env).length=4:=by rfl) (hstar:(assignEach ts env).findIdx? (·.1)=none:=by rfl)
    (hs:swapsWithSole [.Tuple ts n p] (.Tuple [e1,e2,e3,e4] n' p') pos.line env=pure false:=by rfl) (hw:swappedStores [.Tuple ts n p] (.Tuple [e1,e2,e3,e4] n' p') env=pure none:=by rfl) (hm:(assignEach [.Tuple ts n p] env).map (·.2)=[assign (.Tuple ts n p) env]:=by rfl) :
    Ex1 X k env ρ (.Assign [.Tuple ts n p] (.Tuple [e1,e2,e3,e4] n' p') pos) Q:=fun A bad O s R r=>by
  refine wpAny_Assign_stores (wpAny_Tuple ?_) hs hw
  refine wpAny_items_cons (h1.use R r fun s1 x1 r1=>?_) (by rw [hst,hst2])
  refine wpAny_items_cons (h2.use R r1 fun s2 x2 r2=>?_) (by rw [hst2,hst3])
  refine wpAny_items_cons (h3.use R r2 fun s3 x3 r3=>?_) (by rw [hst3,hst4])
  refine wpAny_items_cons (wpAny_mono (h4 A bad O s3 R r3) (fun u s4 h=>?_) fun _ _ x=>x) hst4
  obtain ⟨x4,l,o,rfl,hl,ho,_,hP⟩:=h
  refine wpAny_items_nil ⟨by simp only [List.length_cons,List.length_nil];decide,?_⟩
  rw [hm]
  have x13:=x1.trans (x2.trans x3)
  have x5:Ext s3 { s4 with heap:=s4.heap.push { cls:=.type "tuple",data:=.seq [v1,v2,v3,.ref l].toArray } }:=x4.trans (Ext.push _ _)
  have hT:IsTup (s4.heap.push { cls:=.type "tuple",data:=.seq [v1,v2,v3,.ref l].toArray }) s4.heap.objs.size #[v1,v2,v3,.ref l]:=⟨_,Heap.get?_push_size _ rfl,rfl,_,rfl⟩
  refine wpAny_assign_Tuple R.handled hT (by rw [hn];rfl) hstar fun h' he=>?_
  have x6:Ext s3 { s4 with heap:=h' }:=x5.trans ⟨fun b o e=>he b o (Nat.ne_of_lt (Heap.lt_size e)) e,rfl,rfl⟩
  obtain ⟨st,r6⟩:=r3.at_new key x6 hl (he _ _ (Nat.ne_of_lt (by rw [Heap.size_push];exact Nat.lt_succ_of_lt (Heap.lt_size ho))) (Heap.get?_push_of_some _ ho))
  refine wpAny_mono (hq l o hP A bad _ _ R r6) (fun _ s7 p=>?_) fun _ _ x=>x
  obtain ⟨O7,ρ7,h7,st7,r7⟩:=p
  exact ⟨.next,ρ7,O7,h7,rfl,(Step.of_ext x13).trans (st.trans st7),r7⟩
theorem evn_contains {e:Expr} {pos:Pos} {js:Addr} {led:Bool} (he:EvV X k env ρ e (.ref js)) (hj:AtO X ρ js { cls:=.type "set",dict:=none,data:=.set #[] 0 (.fresh 0 0 led) })
    (hev:eval (.Attribute e "__contains__" pos) env=(do
      let o ← eval e env
      standAt pos.atName
      let r ← holding [o] (getAttr o "__contains__" true)
      letTemporaryGo e o r
      pure r):=by with_unfolding_all rfl):EvN X k env ρ (.Attribute e "__contains__" pos) (fun o'=>o'=boundObj "set.__contains__" (.ref js)):=fun A bad O s R r=>by
  refine Attribute_any_ (he.use R r fun s1 x1 r1=>?_) hev
  refine getAttr_bound (hj.get r1) rfl rfl (fun c e=>by cases e) PySem.F.slot_set_contains.lookup PySem.F.type_set_contains (by decide) scon_type sub_set_set scon_own set_ga set_ga_entry set_ga_args ?_
  exact ⟨x1.trans ⟨fun b o e=>Heap.get?_push_of_some _ e,rfl,rfl⟩,_,_,rfl,x1.none (get_size _),Heap.get?_push_size _ rfl,new_low r1 (Nat.le_refl _),rfl⟩
theorem ex_kset {x y key:Str} {px py p pos:Pos} {i e:Expr} {d:Addr} {o:Obj} {kvs:List (Int×Value)} {j v:Int} (he:Ev X k env ρ e (.int v)) (hy:Own env y) (hx:aM (put ρ y (.val (.int v))) x (.raw (.ref d))) (hi:Ev X k env (put ρ y (.val (.int v))) i (.int j)) (hk:aM (put ρ y (.val (.int v))) key (.at d o)) (ho:o.IsDictOf (DK X) kvs) (hz:kvs.length≤sizeLine)
    (hq:∀ o' t,o'.IsDictOf (DK X) (stored kvs j (.int v t))→Q .next (put (put ρ y (.val (.int v))) key (.at d o'))) (hd:(x == ("__debug__":Str))=false:=by decide)
    (hns:∀ a b c d,i ≠ .Slice a b c d:=by intro _ _ _ _ h;cases h)
    (hm:(assignEach [.Name y py,.Subscript (.Name x px) i p] env).map (·.2)=[assign (.Name y py) env,assign (.Subscript (.Name x px) i p) env]:=by rfl) (hw:swappedStores [.Name y py,.Subscript (.Name x px) i p] e env=pure none:=by rfl) :
    Ex1 X k env ρ (.Assign [.Name y py,.Subscript (.Name x px) i p] e pos) Q:=fun A bad O s R r =>
  wpAny_Assign_two (he.use R r fun u s1 x1 r1 q1=>by
    refine q1.intE fun t=>?_
    refine wpAny_assign_Name (store_val r1 hy (.int v t) fun s2 st2 r2=>?_)
    rw [assign_Subscript]
    refine wpAny_bind (wpAny_holding (wpAny_Name (Lk.load r2.ok.kind (r2.raw x _ hx) ?_) hd))
    refine wpAny_bind (wpAny_holding (hi.use R r2 fun w s3 x3 r3 q3=>?_))
    refine q3.intE fun t'=>?_
    refine wpAny_bind (wpAny_standAt (wpAny_bind (wpAny_holding ?_)))
    refine wpAny_setItem_pairs (hsz:=hz) (intKind_is _ _ j t') (dictOf_at r3 hk ho) fun h' hD' hs'=>?_
    obtain ⟨o',ho',hd'⟩:=Heap.dictOf_iff.mp hD'
    obtain ⟨st4,r4⟩:=r3.at_change (s':={ s3 with heap:=h',toks:=s3.toks+1 }) hk (fun b ob hb e=>(hs'.2 b hb).trans e) ho' rfl rfl
    refine wpAny_releaseD ⟨.next,_,_,hq o' t hd',rfl,(Step.of_ext x1).trans (st2.trans ((Step.of_ext x3).trans st4)),r4⟩) hm hw
theorem evi_b2jget {x:Str} {px apos cpos:Pos} {pl:Sem Bool} {e e':Expr} {d:Addr} {bs:List Int} {c:Int} (hx:aM ρ x (.raw (.ref d))) (hch:ChainD X X.h₀ bs d) (he:Ev X k env ρ e (.int c)) (he':Ev X k env ρ e' (.list []))
    (hd:(x == ("__debug__":Str))=false:=by decide)
    (hev:eval (.Call (.Attribute (.Name x px) "get" apos) [e,e'] [] cpos) env=(do
      let ov ← eval (.Name x px) env
      standAt apos.atName
      let (f,first) ← holding [ov] (getMethod ov "get" pl)
      callWith cpos f first (backTo cpos (starEach [e,e'] env)) []):=by rfl)
    (hst:starEach [e,e'] env=[(false,eval e env),(false,eval e' env)]:=by rfl) (hst2:starEach [e'] env=[(false,eval e' env)]:=by rfl) :
    EvI X k env ρ (.Call (.Attribute (.Name x px) "get" apos) [e,e'] [] cpos) ((posTo bs bs.length c).map .int):=fun A bad O s R r=>by
  obtain ⟨kvs,hD,hlow,hz,hc⟩:=hch
  refine MethodCall_ (wpAny_Name (Lk.load r.ok.kind (r.raw x _ hx) ?_) hd) hev
  refine getMethod_dictOf PySem.F.slot_dict_get PySem.F.type_dict_get (hD.keep r.base) ?_
  refine callWith_method1 ?_ (by rw [hst,hst2]) (by rw [hst2];rfl)
  refine wpAny_items_cons (he.use R r fun v s1 x1 r1 q1=>?_) (by rw [hst,hst2])
  refine wpAny_items_cons (he'.use R r1 fun u s2 x2 r2 q2=>?_) hst2
  refine wpAny_items_nil ?_
  refine q1.intE fun t=>?_
  have D2:=hD.keep r2.base
  refine call_meetsIn PySem.F.slot_dict_get D2.typeIs PySem.F.entry_dict_get (PySem.F.args_dict_get_3 _ _ _) (meets_dict_get_default (DK X) d (intKind_is _ _ c t) hlow u) ⟨_,D2.mapOf,?_⟩
  have x3:Ext s { s2 with toks:=s2.toks+1 }:=(x1.trans x2).trans (Ext.toks s2 (s2.toks+1))
  show wpAny _ _ (pyIter ((valueAt kvs c).getD u)) _ _ _
  rcases hc c with ⟨v,l,o,hv,rfl,ho,hio⟩ | ⟨hv,hp⟩
  · rw [hv,Option.getD_some]
    obtain ⟨vs,n,rfl,hil⟩:=hio
    refine it_list (bad:=bad) (O:=O) R x3 ((r.ext x3).base _ _ ho) hil.rep fun s4 I x4 t4=>?_
    obtain ⟨P,St,t4⟩:=t4
    refine ⟨x4,I,_,_,P,St,rfl,t4,fun b hb'=>?_⟩
    simp at hb'
    rcases hb' with rfl | rfl
    · exact .inl (by simp)
    · refine .inr ⟨fun hp=>?_,fun y hy=>?_⟩
      · have:=place_new r.frm hp;rw [ho] at this;cases this
      · have:=(r.good y _ hy).2.1;rw [ho] at this;cases this
  · rw [hv,hp,Option.getD_none,List.map_nil]
    refine q2.listE fun l us n hb g qs=>?_
    refine it_list R x3 (s1:={ s2 with toks:=s2.toks+1 }) g qs fun s4 I x4 t4=>?_
    obtain ⟨P,St,t4⟩:=t4
    refine ⟨x4,I,_,_,P,St,rfl,t4,fun b hb'=>?_⟩
    simp at hb'
    rcases hb' with rfl | rfl
    · exact .inl (by simp)
    · exact .inr ⟨noplace_seq r2.frm g rfl,fun y hy=>hb (.inr ⟨y,hy⟩)⟩
end
noncomputable def mm (as bs:List Int):Mt:=fun x y=>match as[x]?,bs[y]? with
  | some a,some b=>a == b
  | _,_=>false
noncomputable def posN (bs:List Int) (c:Int):List Nat:=(List.range bs.length).filter fun j=>bs[j]? == some c
theorem posTo_eq (bs:List Int) (c:Int):posTo bs bs.length c=(posN bs c).map fun j:Nat=>(j:Int):=rfl
theorem mem_posN {bs:List Int} {c:Int} {y:Nat}:y∈posN bs c ↔ bs[y]?=some c:=by
  unfold posN
  rw [List.mem_filter,List.mem_range,beq_iff_eq]
  exact ⟨fun h=>h.2,fun h=>⟨(List.getElem?_eq_some_iff.mp h).1,h⟩⟩
theorem posN_sorted (bs:List Int) (c:Int):(posN bs c).Pairwise (· < ·):=(List.pairwise_lt_range (n:=bs.length)).filter _
theorem posN_lt {bs:List Int} {c:Int} {t j y:Nat} (h:(posN bs c)[t]?=some j) (hy:y∈(posN bs c).take t):y < j:=by
  have hs:=posN_sorted bs c
  obtain ⟨h1,h2⟩:=List.getElem?_eq_some_iff.mp h
  obtain ⟨i,hi,e⟩:=List.mem_iff_getElem.mp hy
  rw [List.length_take] at hi
  rw [List.getElem_take] at e
  have:=(List.pairwise_iff_getElem.mp hs) i t (by exact aO 0xf1108f1118f201f301f213 rfl hi) h1 (by exact aO 0xf1118f1108f101f301f213 rfl hi)
  rw [e,h2] at this
  exact this
theorem posN_ge {bs:List Int} {c:Int} {t j y:Nat} (h:(posN bs c)[t]?=some j) (hy:y∈posN bs c) (hn:y ∉ (posN bs c).take t):j≤y:=by
  have hs:=posN_sorted bs c
  obtain ⟨h1,h2⟩:=List.getElem?_eq_some_iff.mp h
  obtain ⟨i,hi,e⟩:=List.mem_iff_getElem.mp hy
  rcases Nat.lt_or_ge i t with hit | hit
  · exact absurd (List.mem_iff_getElem.mpr ⟨i,by rw [List.length_take];exact aO 0xf11101f10101f321f021101f103 rfl h1 hit,by rw [List.getElem_take];exact e⟩) hn
  · rcases Nat.eq_or_lt_of_le hit with rfl | hlt
    · rw [e] at h2;exact aF 0xf11010f102f rfl h2
    · have:=(List.pairwise_iff_getElem.mp hs) t i h1 hi hlt
      rw [e,h2] at this;exact aF 0xf11100f101f rfl this
theorem take_succ_mem {α:Type} {l:List α} {t:Nat} {j y:α} (h:l[t]?=some j):y∈l.take (t+1) ↔ y∈l.take t∨y=j:=by
  rw [List.take_add_one,h,List.mem_append];simp
theorem rl_eq {m:Mt} {alo blo r j:Nat} (h:m r j=true):rl m alo blo r j=(if alo < r∧blo < j then rl m alo blo (r - 1) (j - 1) else 0)+1:=by
  cases r with
  | zero=>simp [rl,h]
  | succ r =>
    rw [rl,if_pos h]
    simp only [Nat.add_sub_cancel,Nat.lt_succ_iff]
noncomputable def DP (kvs:List (Int×Value)) (S:Nat→Prop) (f:Nat→Nat):Prop:=∀ z:Int,(∃ (y:Nat) (t:Tok),z=y∧S y∧valueAt kvs z=some (.int (f y) t))∨(valueAt kvs z=none∧∀ y:Nat,z=y→¬ S y)
theorem DP.nil {f:Nat→Nat} {S:Nat→Prop} (h:∀ y,¬ S y):DP [] S f:=fun z=>.inr ⟨rfl,fun y _=>h y⟩
theorem DP.add {kvs:List (Int×Value)} {S S':Nat→Prop} {f:Nat→Nat} {j:Nat} {t:Tok} (h:DP kvs S f) (hj:¬ S j) (hS:∀ y,S' y ↔ S y∨y=j):DP (stored kvs j (.int (f j) t)) S' f:=fun z=>by
  have hn:valueAt kvs (j:Int)=none:=by
    rcases h j with ⟨y,_,e,hy,_⟩ | ⟨e,_⟩
    · have:y=j:=by exact aF 0xf81f11f012f1c0c5f rfl e
      subst this;exact absurd hy hj
    · exact e
  rw [valueAt_stored _ _ _ hn]
  by_cases hz:z=j
  · subst hz
    exact .inl ⟨j,t,rfl,(hS j).mpr (.inr rfl),if_pos rfl⟩
  · rw [if_neg hz]
    rcases h z with ⟨y,t',e,hy,hv⟩ | ⟨e,hno⟩
    · exact .inl ⟨y,t',e,(hS y).mpr (.inl hy),hv⟩
    · refine .inr ⟨e,fun y ey hy=>?_⟩
      rcases (hS y).mp hy with hy | rfl
      · exact hno y ey hy
      · exact hz ey
theorem DP.congr {kvs:List (Int×Value)} {S S':Nat→Prop} {f:Nat→Nat} (h:DP kvs S f) (hS:∀ y,S' y ↔ S y):DP kvs S' f:=fun z=>by
  rcases h z with ⟨y,t',e,hy,hv⟩ | ⟨e,hno⟩
  · exact .inl ⟨y,t',e,(hS y).mpr hy,hv⟩
  · exact .inr ⟨e,fun y ey hy=>hno y ey ((hS y).mp hy)⟩
structure FC (as bs:List Int) (va vb:Value) (d g js:Addr) (alo ahi blo bhi:Nat) (ρ:List (Str×B)):Prop where
  a:aM ρ "a" (.raw va)
  b:aM ρ "b" (.raw vb)
  b2j:aM ρ "b2j" (.raw (.ref d))
  isb:aM ρ "isbjunk" (.raw (.ref g))
  bg:aM ρ "#g" (.at g (boundObj "set.__contains__" (.ref js)))
  alo:aM ρ "alo" (.val (.int alo))
  ahi:aM ρ "ahi" (.val (.int ahi))
  blo:aM ρ "blo" (.val (.int blo))
  bhi:aM ρ "bhi" (.val (.int bhi))
  no:aM ρ "nothing" (.val (.list []))
structure FB (bi bj bk:Nat) (ρ:List (Str×B)):Prop where
  i:aM ρ "besti" (.val (.int bi))
  j:aM ρ "bestj" (.val (.int bj))
  k:aM ρ "bestsize" (.val (.int bk))
theorem FC.pt {as bs:List Int} {va vb:Value} {d g js:Addr} {alo ahi blo bhi:Nat} {ρ:List (Str×B)} (C:FC as bs va vb d g js alo ahi blo bhi ρ) {z:Str} {b:B}
    (h:(neS "a" z && (neS "b" z && (neS "b2j" z && (neS "isbjunk" z && (neS "#g" z && (neS "alo" z && (neS "ahi" z && (neS "blo" z && (neS "bhi" z && neS "nothing" z)))))))))=true):FC as bs va vb d g js alo ahi blo bhi (put ρ z b):=by
  simp only [Bool.and_eq_true] at h
  obtain ⟨h1,h2,h3,h4,h5,h6,h7,h8,h9,h10⟩:=h
  exact ⟨hn C.a h1,hn C.b h2,hn C.b2j h3,hn C.isb h4,hn C.bg h5,hn C.alo h6,hn C.ahi h7,hn C.blo h8,hn C.bhi h9,hn C.no h10⟩
theorem FB.pt {bi bj bk:Nat} {ρ:List (Str×B)} (C:FB bi bj bk ρ) {z:Str} {b:B} (h:(neS "besti" z && (neS "bestj" z && neS "bestsize" z))=true):FB bi bj bk (put ρ z b):=by
  simp only [Bool.and_eq_true] at h
  exact ⟨hn C.i h.1,hn C.j h.2.1,hn C.k h.2.2⟩
inductive BestAt (m:Mt) (alo ahi blo bhi:Nat) (P:Nat→Nat→Prop) (ρ:List (Str×B)):Prop
  | mk {bi bj bk:Nat}:FB bi bj bk ρ→FInv m alo ahi blo bhi P bi bj bk→BestAt m alo ahi blo bhi P ρ
inductive NewAt (X:Cx) (d2:Addr) (S:Nat→Prop) (f:Nat→Nat) (n:Nat) (ρ:List (Str×B)):Prop
  | mk {o2:Obj} {kvs2:List (Int×Value)}:aM ρ "newj2len" (.raw (.ref d2))→aM ρ "#n" (.at d2 o2)→o2.IsDictOf (DK X) kvs2→kvs2.length≤n→DP kvs2 S f→NewAt X d2 S f n ρ
structure FE (r:Nat) (gh d1:Addr) (o1:Obj) (ρ:List (Str×B)):Prop where
  i:aM ρ "i" (.val (.int r))
  g:aM ρ "j2lenget" (.raw (.ref gh))
  h:aM ρ "#h" (.at gh (boundObj "dict.get" (.ref d1)))
  o:aM ρ "#o" (.at d1 o1)
theorem FE.pt {r:Nat} {gh d1:Addr} {o1:Obj} {ρ:List (Str×B)} (C:FE r gh d1 o1 ρ) {z:Str} {b:B} (h:(neS "i" z && (neS "j2lenget" z && (neS "#h" z && neS "#o" z)))=true):FE r gh d1 o1 (put ρ z b):=by
  simp only [Bool.and_eq_true] at h
  exact ⟨hn C.i h.1,hn C.g h.2.1,hn C.h h.2.2.1,hn C.o h.2.2.2⟩
section
variable {X:Cx} {k:Nat} {L f:Addr} {z:Value×Value×Value×Value} {as bs:List Int} {va vb:Value} {d g js:Addr} {alo ahi blo bhi:Nat}
noncomputable abbrev envF (z:Value×Value×Value×Value) (L:Addr):Env:=callEnvC (fdSM 6 "find_longest_match" z) L 196
noncomputable abbrev bodyF (i:Nat):Stmt:=(aH (smSt 6)).getD i (.Pass ⟨0,0,0,0⟩)
noncomputable abbrev Rows (alo blo bhi r:Nat):Nat→Nat→Prop:=fun x y=>alo≤x∧x < r∧blo≤y∧y < bhi
noncomputable abbrev Cells (alo blo bhi r:Nat) (S:Nat→Prop):Nat→Nat→Prop:=fun x y=>(alo≤x∧x < r∧blo≤y∧y < bhi)∨(x=r∧blo≤y∧y < bhi∧S y)
structure FN (X:Cx) (as bs:List Int) (va vb:Value) (d g js:Addr) (alo ahi blo bhi r:Nat) (S:Nat→Prop) (n:Nat) (d2:Addr) (ρ:List (Str×B)):Prop where
  c:FC as bs va vb d g js alo ahi blo bhi ρ
  best:BestAt (mm as bs) alo ahi blo bhi (Cells alo blo bhi r S) ρ
  new:NewAt X d2 (fun y=>blo≤y∧y < bhi∧S y) (rl (mm as bs) alo blo r) n ρ
theorem inner_loop (hdata:X.dat (.list (as.map .int)) va) (hdatb:X.dat (.list (bs.map .int)) vb) (hch:ChainD X X.h₀ bs d) (h1:alo≤ahi) (h2:ahi≤as.length) (h3:blo≤bhi) (h4:bhi≤bs.length) (hza:as.length≤sizeLine) (hz:bs.length+1≤sizeLine)
    {r:Nat} (hr1:alo≤r) (hr2:r < ahi) {d1 d2 gh:Addr} {o1:Obj} {kvs1:List (Int×Value)} (ho1:o1.IsDictOf (DK X) kvs1) (hlow1:(d1 == sysModules)=false) (hdp:DP kvs1 (fun y=>alo < r∧blo≤y∧y < bhi∧mm as bs (r - 1) y=true) (rl (mm as bs) alo blo (r - 1)))
    {ρ:List (Str×B)} {Q:Fl→List (Str×B)→Prop}
    (J:FN X as bs va vb d g js alo ahi blo bhi r (fun _=>False) 0 d2 ρ) (E:FE r gh d1 o1 ρ)
    (hq:∀ ρ',FN X as bs va vb d g js alo ahi blo bhi r (fun y=>mm as bs r y=true) bs.length d2 ρ'→Q .next ρ')
    {tgt:Expr} {it:Expr} {body:List Stmt} {pos:Pos} (hst:(aD (forBody (bodyF 7)) 2)=.For tgt it body [] pos:=by rfl) :
    Ex1 X k (envF z L) ρ (aD (forBody (bodyF 7)) 2) Q:=by
  have hra:r < as.length:=by exact aO 0xf111121f021100f rfl h2 hr2
  obtain ⟨c,hc⟩:∃ c,as[r]?=some c:=⟨_,List.getElem?_eq_getElem hra⟩
  have hm:∀ y,mm as bs r y=true ↔ bs[y]?=some c:=fun y=>by
    unfold mm
    rw [hc]
    cases e:bs[y]? with
    | none=>simp
    | some b=>simp only [beq_iff_eq,Option.some.injEq];exact eq_comm
  have ec:as.getD r 0=c:=by rw [List.getD_eq_getElem?_getD,hc];rfl
  have JC:=J.c
  refine ex_for (items:=(posTo bs bs.length c).map .int) (evi_b2jget JC.b2j hch (ev_item (n:=(r:Int)) (d:=.int c) (bB (ev_ofV (bG JC.a) hdata)) (aA E.i) (by exact aF 0xf11c0ce3ff rfl) (by rw [List.length_map];exact aF 0xf111c0c4f101f rfl hra) (by rw [List.length_map];exact hza) (by rw [← ec];exact item_int hra)) (aA JC.no))
    (fun t ρ=>FN X as bs va vb d g js alo ahi blo bhi r (fun y=>y∈(posN bs c).take t) t d2 ρ∧FE r gh d1 o1 ρ) ?_ ?_ ?_
  · refine ⟨⟨J.c,?_,?_⟩,E⟩
    · obtain ⟨fb,fi⟩:=J.best
      exact ⟨fb,fi.skip (fun x y h=>h.imp id fun h=>h.2.2.2.elim) (fun x y h=>.inl (h.imp id fun h=>by simp at h))⟩
    · obtain ⟨a1,a2,a3,a4,a5⟩:=J.new
      exact ⟨a1,a2,a3,a4,a5.congr fun y=>by simp⟩
  · intro t dd ρ' ht JE Q1 H1
    rw [posTo_eq,List.map_map,List.getElem?_map] at ht
    obtain ⟨j,hpt,hdd⟩:=Option.map_eq_some_iff.mp ht
    obtain rfl:PyData.int (j:Nat)=dd:=hdd
    clear ht
    have hjm:bs[j]?=some c:=mem_posN.mp (List.mem_of_getElem? hpt)
    have hjl:j < bs.length:=(List.getElem?_eq_some_iff.mp hjm).1
    have htl:t < bs.length:=by
      have h1:=(List.getElem?_eq_some_iff.mp hpt).1
      have h2:(posN bs c).length≤bs.length:=by unfold posN;exact Nat.le_trans (List.length_filter_le _ _) (by simp)
      exact aO 0xf111201f210101f rfl h1 h2
    have hmj:mm as bs r j=true:=(hm j).mpr hjm
    obtain ⟨⟨C,⟨fb,fi⟩,⟨a1,a2,a3,a4,a5⟩⟩,E'⟩:=JE
    rename_i bi bj bk o2 kvs2
    refine ⟨_,aK (.inl rfl),?_⟩
    have C:=C.pt (z:="j") (b:=.val (.int j)) rfl
    have E:=E'.pt (z:="j") (b:=.val (.int j)) rfl
    have fb:=fb.pt (z:="j") (b:=.val (.int j)) rfl
    have a1:=hn (x:="j") (b:=.val (.int j)) a1 rfl
    have a2:=hn (x:="j") (b:=.val (.int j)) a2 rfl
    have hj:aM (put ρ' "j" (.val (.int j))) "j" (.val (.int j)):=hs
    generalize put ρ' "j" (.val (.int j))=ρ1 at *
    refine aC (ex_if (aL (aA hj) (aA C.blo) rfl) (fun e=>?_) (fun e=>aE ?_))
    · simp only [decide_eq_true_eq] at e
      have e':j < blo:=by exact aF 0xf11101f1c0c4f rfl e
      refine aC (ex_continue (H1.cont ⟨⟨C,⟨fb,fi.skip (fun x y h=>h.imp id fun h=>⟨h.1,h.2.1,h.2.2.1,(take_succ_mem hpt).mpr (.inl h.2.2.2)⟩) (fun x y h=>.inl (h.imp id fun h=>⟨h.1,h.2.1,h.2.2.1,((take_succ_mem hpt).mp h.2.2.2).resolve_right (by exact aO 0xf1180226f210101f rfl e' h.2.1)⟩))⟩,⟨a1,a2,a3,by exact aF 0xf11181a00f100f rfl a4,a5.congr fun y=>?_⟩⟩,E⟩))
      rw [take_succ_mem hpt]
      constructor
      · rintro ⟨x1,x2,x3 | x3⟩
        · exact ⟨x1,x2,x3⟩
        · exact (aO 0xf8119f022210101f rfl e' x1 x3).elim
      · rintro ⟨x1,x2,x3⟩;exact ⟨x1,x2,.inl x3⟩
    simp only [decide_eq_false_iff_not] at e
    have hbj:blo≤j:=by exact aF 0xf11010f1c0c46f rfl e
    refine aC (ex_if (aL (aA hj) (aA C.bhi) rfl) (fun e=>?_) (fun e=>aE ?_))
    · simp only [decide_eq_true_eq] at e
      have e':bhi≤j:=by exact aF 0xf11100f1c0c3f rfl e
      have key:∀ y,y < bhi→mm as bs r y=true→y∈(posN bs c).take t:=fun y hy hmy=>by
        rcases Classical.em (y∈(posN bs c).take t) with h | h
        · exact h
        · have:=posN_ge hpt (mem_posN.mpr ((hm y).mp hmy)) h;exact (aO 0xf1119f210021100f rfl e' hy this).elim
      refine aC (ex_break (H1.brk (hq _ ⟨C,⟨fb,fi.skip (fun x y h=>h.imp id fun h=>⟨h.1,h.2.1,h.2.2.1,(hm y).mpr (mem_posN.mp (List.mem_of_mem_take h.2.2.2))⟩) (fun x y h=>.inl (h.imp id fun h=>⟨h.1,h.2.1,h.2.2.1,key y h.2.2.1 h.2.2.2⟩))⟩,⟨a1,a2,a3,by exact aO 0xf111120f020101f rfl htl a4,a5.congr fun y=>?_⟩⟩)))
      constructor
      · rintro ⟨x1,x2,x3⟩;exact ⟨x1,x2,key y x2 x3⟩
      · rintro ⟨x1,x2,x3⟩;exact ⟨x1,x2,(hm y).mpr (mem_posN.mp (List.mem_of_mem_take x3))⟩
    simp only [decide_eq_false_iff_not] at e
    have hbh:j < bhi:=by exact aF 0xf11011f1c0c36f rfl e
    have hrlp:=rl_pos (alo:=alo) (blo:=blo) hmj
    have hrle:=rl_le (m:=mm as bs) (alo:=alo) (blo:=blo) hr1 hbj
    have hreq:=rl_eq (alo:=alo) (blo:=blo) hmj
    generalize hK:rl (mm as bs) alo blo r j=K at hrlp hrle hreq
    have hget:(∀ v,valueAt kvs1 ((j:Int) - 1)=some v→∃ t,v=.int ((K:Int) - 1) t)∧(valueAt kvs1 ((j:Int) - 1)=none→(K:Int) - 1=0):=by
      rcases hdp ((j:Int) - 1) with ⟨y,t',ey,⟨s1,s2,s3,s4⟩,hv⟩ | ⟨hv,hno⟩
      · have hy:y=j - 1:=by exact aF 0xf818f108ff111f1110ff212f1c180cd5f1800 rfl ey
        subst hy
        rw [if_pos (by exact bF 0xf110001f1001f2311017f4304c182cd5101f1821 rfl s1 ey s2)] at hreq
        refine ⟨fun v hv'=>?_,fun hn=>by rw [hv] at hn;cases hn⟩
        rw [hv] at hv';cases hv'
        exact ⟨t',by rw [hreq];congr 1;push_cast;exact aQ 0xf1f1f18180cad0c5ff rfl⟩
      · refine ⟨fun v hv'=>(by rw [hv] at hv';cases hv'),fun _=>?_⟩
        split at hreq
        · rename_i hcond
          have hnm:mm as bs (r - 1) (j - 1)=false:=by
            cases em:mm as bs (r - 1) (j - 1) with
            | false=>rfl
            | true=>exact absurd ⟨hcond.1,by exact aF 0xf1101200f101f1811 rfl hcond.2,by exact aF 0xf1011121f101f1801 rfl hbh,em⟩ (hno (j - 1) (by exact aF 0xf18f1108ff11f110ff2c181cd5f101f1810 rfl hcond.2))
          rw [rl_no hnm] at hreq
          exact aQ 0xf11f81f08180cd5f1808a02f rfl hreq
        · exact aQ 0xf11f81f08180cd5f1808a02f rfl hreq
    refine aC (ex_kset (key:="#n") (d:=d2) (o:=o2) (kvs:=kvs2) (j:=j) (v:=K)
      (bH (aU (ev_getBound (g:=gh) (d:=d1) (o:=o1) (kvs:=kvs1) (i:=(j:Int) - 1) (j:=0) (z:=(K:Int) - 1) E.g (.inl ⟨"#h",E.h⟩) (.inl ⟨"#o",E.o⟩) ho1 hlow1 (ev_sub (aA hj) aJ) aJ hget.1 hget.2) aJ) (by congr 1;exact aQ 0xf1f1f0c18180cda5ff rfl)) (.inl rfl) (hn a1 rfl) (aA (hn hj rfl)) (hn a2 rfl) a3 (by exact bF 0xf1111130f2300211180a0f rfl hz htl a4) fun o3 t3 ho3=>?_)
    have C:=(C.pt (z:="k") (b:=.val (.int K)) rfl).pt (z:="#n") (b:=.at d2 o3) rfl
    have E:=(E.pt (z:="k") (b:=.val (.int K)) rfl).pt (z:="#n") (b:=.at d2 o3) rfl
    have fb:=(fb.pt (z:="k") (b:=.val (.int K)) rfl).pt (z:="#n") (b:=.at d2 o3) rfl
    have a1:=hn (x:="#n") (b:=.at d2 o3) (hn (x:="k") (b:=.val (.int K)) a1 rfl) rfl
    have a2:aM (put (put ρ1 "k" (.val (.int K))) "#n" (.at d2 o3)) "#n" (.at d2 o3):=hs
    have hj:=hn (x:="#n") (b:=.at d2 o3) (hn (x:="k") (b:=.val (.int K)) hj rfl) rfl
    have hk:aM (put (put ρ1 "k" (.val (.int K))) "#n" (.at d2 o3)) "k" (.val (.int K)):=hn hs rfl
    generalize put (put ρ1 "k" (.val (.int K))) "#n" (.at d2 o3)=ρ2 at *
    have hdp3:DP (stored kvs2 j (.int (K:Int) t3)) (fun y=>blo≤y∧y < bhi∧y∈(posN bs c).take (t+1)) (rl (mm as bs) alo blo r):=by
      rw [← hK]
      refine a5.add (fun h=>?_) fun y=>?_
      · have:=posN_lt hpt h.2.2;exact aQ 0xf19f001f rfl this
      · rw [take_succ_mem hpt]
        constructor
        · rintro ⟨x1,x2,x3 | x3⟩
          · exact .inl ⟨x1,x2,x3⟩
          · exact .inr x3
        · rintro (⟨x1,x2,x3⟩ | rfl)
          · exact ⟨x1,x2,.inl x3⟩
          · exact ⟨hbj,hbh,.inr rfl⟩
    have hlen3:(stored kvs2 j (.int (K:Int) t3)).length≤t+1:=by have:=stored_length_le kvs2 (j:Int) (.int (K:Int) t3);exact aO 0xf111181a20f180a20100f rfl a4 this
    have hstep:=fi.step hr1 hr2 hbj hbh (fun x y h=>by
      rcases h with h | h
      · exact bF 0xf1132110271018f101f rfl h.2.1
      · have:=posN_lt hpt h.2.2.2;exact bF 0xf1001f11f801f32110271018f321102f rfl h.1 this)
    rw [hK] at hstep
    have hcells:∀ {a b e:Nat},FInv (mm as bs) alo ahi blo bhi (fun x y=>Cells alo blo bhi r (fun y=>y∈(posN bs c).take t) x y∨(x=r∧y=j)) a b e→FInv (mm as bs) alo ahi blo bhi (Cells alo blo bhi r (fun y=>y∈(posN bs c).take (t+1))) a b e:=fun h=>h.skip (fun x y h=>by
        rcases h with (h | h) | ⟨rfl,rfl⟩
        · exact .inl h
        · exact .inr ⟨h.1,h.2.1,h.2.2.1,(take_succ_mem hpt).mpr (.inl h.2.2.2)⟩
        · exact .inr ⟨rfl,hbj,hbh,(take_succ_mem hpt).mpr (.inr rfl)⟩) (fun x y h=>by
        rcases h with h | ⟨q1,q2,q3,q4⟩
        · exact .inl (.inl (.inl h))
        · rcases (take_succ_mem hpt).mp q4 with h' | q5
          · exact .inl (.inl (.inr ⟨q1,q2,q3,h'⟩))
          · exact .inl (.inr ⟨q1,q5⟩))
    refine aC (ex_if (aL (aA hk) (aA fb.k) rfl) (fun e=>?_) (fun e=>?_))
    · simp only [decide_eq_true_eq] at e
      rw [if_pos (by exact aF 0xf11101f1c0c4f rfl e)] at hstep
      refine aC (ex_swap (xs:=["besti","bestj","bestsize"]) (ds:=[.int (r+1 - K:Nat),.int (j+1 - K:Nat),.int K]) (aV (aB (bH (aU (ev_sub (aA E.i) (aA hk)) aJ) (by congr 1;exact aO 0xf18f1108ff11f110ff3c181c2cda5f182a10a0f1182a0 rfl hrle.1)) (aB (bH (aU (ev_sub (aA hj) (aA hk)) aJ) (by congr 1;exact aO 0xf18f1108ff11f110ff3c181c2cda5f182a10a0f1182a0 rfl hrle.2)) (aB (aA hk) aG))) (by simp only [List.length_cons,List.length_nil];decide)) (bJ (.inl rfl) (bJ (.inl rfl) (bJ (.inl rfl) asgn_nil))) (aE (aE ?_)) rfl rfl rfl)
      exact H1.next ⟨⟨((C.pt rfl).pt rfl).pt rfl,⟨⟨by k_mem,by k_mem,by k_mem⟩,hcells hstep⟩,⟨by k_mem,by k_mem,ho3,hlen3,hdp3⟩⟩,((E.pt rfl).pt rfl).pt rfl⟩
    · simp only [decide_eq_false_iff_not] at e
      rw [if_neg (by exact aF 0xf111016f1c0c46f rfl e)] at hstep
      exact aE (aE (H1.next ⟨⟨C,⟨fb,hcells hstep⟩,⟨a1,a2,ho3,hlen3,hdp3⟩⟩,E⟩))
  · rintro ρ' ⟨JN,_⟩
    have hl:((posTo bs bs.length c).map PyData.int).length=(posN bs c).length:=by rw [posTo_eq];simp
    rw [hl,List.take_length] at JN
    refine hq _ ⟨JN.c,?_,?_⟩
    · obtain ⟨fb,fi⟩:=JN.best
      exact ⟨fb,fi.skip (fun x y h=>h.imp id fun h=>⟨h.1,h.2.1,h.2.2.1,(hm y).mpr (mem_posN.mp h.2.2.2)⟩) (fun x y h=>.inl (h.imp id fun h=>⟨h.1,h.2.1,h.2.2.1,mem_posN.mpr ((hm y).mp h.2.2.2)⟩))⟩
    · obtain ⟨a1,a2,a3,a4,a5⟩:=JN.new
      have hle:(posN bs c).length≤bs.length:=by unfold posN;exact Nat.le_trans (List.length_filter_le _ _) (by simp)
      exact ⟨a1,a2,a3,by exact aO 0xf111200f210100f rfl a4 hle,a5.congr fun y=>by rw [mem_posN,hm]⟩
end
theorem mm_iff {as bs:List Int} {x y:Nat} (hx:x < as.length) (hy:y < bs.length):mm as bs x y=(as.getD x 0 == bs.getD y 0):=by
  unfold mm
  rw [List.getD_eq_getElem?_getD,List.getD_eq_getElem?_getD,List.getElem?_eq_getElem hx,List.getElem?_eq_getElem hy]
  rfl
theorem ev_at {X:Cx} {k:Nat} {env:Env} {ρ:List (Str×B)} {value slice:Expr} {pos:Pos} {xs:List Int} {n:Nat} {i:Int} (hv:Ev X k env ρ value (.list (xs.map .int))) (hi:Ev X k env ρ slice (.int i)) (hin:i=n) (hn:n < xs.length) (hz:xs.length≤sizeLine)
    (hs:∀ a u,subscripted slice false (.ref a) (.int i u)=operate [.ref a,.int i u] (getItem (.ref a) (.int i u)):=by intro _ _;with_unfolding_all rfl):Ev X k env ρ (.Subscript value slice pos) (.int (xs.getD n 0)):=by
  subst hin
  exact ev_item (bB hv) hi (by exact aF 0xf11c0ce3ff rfl) (by rw [List.length_map];exact aF 0xf111c0c4f101f rfl hn) (by rw [List.length_map];exact hz) (item_int hn) hs
section
variable {X:Cx} {k:Nat} {as bs:List Int} {va vb:Value} {d js:Addr} {alo ahi blo bhi:Nat}
inductive OldAt (X:Cx) (S:Nat→Prop) (f:Nat→Nat) (ρ:List (Str×B)):Prop
  | mk {d1:Addr} {o1:Obj} {kvs1:List (Int×Value)}:aM ρ "j2len" (.raw (.ref d1))→aM ρ "#o" (.at d1 o1)→o1.IsDictOf (DK X) kvs1→(d1 == sysModules)=false→DP kvs1 S f→OldAt X S f ρ
theorem find_walk (F:DF X) (G:MF X) {cd:ClassData} (hC:ClsOk X.K 242 cd) {x dx:Addr} {m:Str→Option Value} {N:Nat} {led:Bool} {L:Addr} {z:Value×Value×Value×Value}
    (hx:X.h₀.get? x=some (instObj 242 dx)) (hdx:∃ o,X.h₀.get? dx=some o∧AObj o m N) (ha:m "a"=some va) (hva:handedIn va=true) (hb:m "b"=some vb) (hvb:handedIn vb=true) (hd:m "b2j"=some (.ref d)) (hj:m "bjunk"=some (.ref js))
    (hjs:X.h₀.get? js=some { cls:=.type "set",dict:=none,data:=.set #[] 0 (.fresh 0 0 led) })
    (hdata:X.dat (.list (as.map .int)) va) (hdatb:X.dat (.list (bs.map .int)) vb) (hch:ChainD X X.h₀ bs d) (h1:alo≤ahi) (h2:ahi≤as.length) (h3:blo≤bhi) (h4:bhi≤bs.length) (hza:as.length+1≤sizeLine) (hz:bs.length+1≤sizeLine) :
    Exs X (k+2) (envF z L) [("self",.raw (.ref x)),("alo",.val (.int alo)),("ahi",.val (.int ahi)),("blo",.val (.int blo)),("bhi",.val (.int bhi))] (aH (smSt 6))
      fun fl _=>∃ i j n,fl=.ret (mtd i j n)∧Best (mm as bs) alo ahi blo bhi i j n:=by
  have hsl:sizeLine < 2 ^ 30:=by decide
  have S:∀ {ρ:List (Str×B)},SelfD X ρ 242 x dx "#d" m N:=⟨hx,.inr hdx⟩
  refine aC (ex_doc ?_)
  refine aC (ex_tup4 "#g" (evv_attr (key:="#d") (by k_mem) S hC (F.own "a" (by decide)).1 ha hva) (evv_attr (key:="#d") (by k_mem) S hC (F.own "b" (by decide)).1 hb hvb) (evv_attr (key:="#d") (by k_mem) S hC (F.own "b2j" (by decide)).1 hd) (evn_contains (evv_attr (key:="#d") (by k_mem) S hC (F.own "bjunk" (by decide)).1 hj) (.inr hjs)) fun g og hog=>asgvl_cons (asgv_name (.inl rfl) (asgvl_cons (asgv_name (.inl rfl) (asgvl_cons (asgv_name (.inl rfl) (asgvl_cons (asgv_name (.inl rfl) (asgvl_nil ?_)))))))))
  subst hog
  refine aC (ex_if (b:=false) (tst_isNoneI (aA (d:=.int ahi) (by k_mem)) evv_none) (fun e=>by cases e) fun _=>aE ?_)
  refine aC (ex_if (b:=false) (tst_isNoneI (aA (d:=.int bhi) (by k_mem)) evv_none) (fun e=>by cases e) fun _=>aE ?_)
  refine aC (ex_swap (xs:=["besti","bestj","bestsize"]) (ds:=[.int alo,.int blo,.int 0]) (aV (aB (aA (d:=.int alo) (by k_mem)) (aB (aA (d:=.int blo) (by k_mem)) (aB aJ aG))) (by simp only [List.length_cons,List.length_nil];decide)) (bJ (.inl rfl) (bJ (.inl rfl) (bJ (.inl rfl) asgn_nil))) ?_ rfl rfl rfl)
  refine aC (ex_assignN "#o" evn_dict fun d0 o0 hlow0 ho0=>asgv_name (.inl rfl) ?_)
  subst ho0
  refine aC (bK (d:=.list []) (ev_list aG (by simp)) (.inl rfl) ?_)
  refine aC (ex_for (items:=aY alo 1 ((ahi:Int) - alo).toNat) (evi_range2 F.range rfl (aA (d:=.int alo) (by k_mem)) (aA (d:=.int ahi) (by k_mem)) (by exact bF 0xf11111f1f10000000000990c30c1000000000099e37f4000000069313182a0210100f rfl h1 h2 hza hsl) (by exact aO 0xf1111f1f10000000000990c30c1000000000099e37f4000000069212181a0100f rfl h2 hza hsl))
    (fun i ρ=>FC as bs va vb d g js alo ahi blo bhi ρ∧BestAt (mm as bs) alo ahi blo bhi (Rows alo blo bhi (alo+i)) ρ∧OldAt X (fun y=>alo < alo+i∧blo≤y∧y < bhi∧mm as bs (alo+i - 1) y=true) (rl (mm as bs) alo blo (alo+i - 1)) ρ) ?_ ?_ ?_)
  · refine ⟨⟨by k_mem,by k_mem,by k_mem,by k_mem,by k_mem,by k_mem,by k_mem,by k_mem,by k_mem,by k_mem⟩,⟨⟨by k_mem,by k_mem,by k_mem⟩,(FInv.start h1 h3).skip (fun _ _ h=>h.elim) fun x y h=>by exact (lq5 0xf119f4313207080a1171007f rfl h).elim⟩,⟨by k_mem,by k_mem,⟨#[],0,⟨rfl,rfl,rfl⟩,rfl,fun _ he=>by simp at he,.nil,by simp⟩,hlow0,DP.nil fun y h=>by exact aQ 0xf19f080a01f rfl h.1⟩⟩
  · intro i dd ρ hi J Q1 H1
    have hil:i < ((ahi:Int) - alo).toNat:=by have:=(List.getElem?_eq_some_iff.mp hi).1;rwa [bI] at this
    rw [intsBy_get hil] at hi
    obtain rfl:PyData.int ((alo+i:Nat):Int)=dd:=by cases hi;congr 1;exact aF 0xf1f1f1c01f0ca10ac5ff rfl
    have hr:alo+i < ahi:=by exact aO 0xf1008f118f102a1f301f082c1cd5 rfl hil
    clear hi
    refine ⟨_,aK (.inl rfl),?_⟩
    obtain ⟨JC,⟨fb,fi⟩,⟨j1,j2,j3,j4,j5⟩⟩:=J
    rename_i bi bj bk d1 o1 kvs1
    have C:=JC.pt (z:="i") (b:=.val (.int (alo+i:Nat))) rfl
    have fb:=fb.pt (z:="i") (b:=.val (.int (alo+i:Nat))) rfl
    have j1:=hn (x:="i") (b:=.val (.int (alo+i:Nat))) j1 rfl
    have j2:=hn (x:="i") (b:=.val (.int (alo+i:Nat))) j2 rfl
    have hi:aM (put ρ "i" (.val (.int (alo+i:Nat)))) "i" (.val (.int (alo+i:Nat))):=hs
    generalize put ρ "i" (.val (.int (alo+i:Nat)))=ρ1 at *
    clear JC
    refine aC (ex_assignN "#h" (evn_get (d:=d1) (o:=o1) (kvs:=kvs1) j1 (.inl ⟨"#o",j2⟩) j3) fun gh oh _ hoh=>asgv_name (.inl rfl) ?_)
    subst hoh
    refine aC (ex_assignN "#n" evn_dict fun d2 o2 hlow2 ho2=>asgv_name (.inl rfl) ?_)
    subst ho2
    refine aC (inner_loop hdata hdatb hch h1 h2 h3 h4 (by exact aF 0xf11100f1180a0f rfl hza) hz (r:=alo+i) (by exact aF 0xf110a00ff rfl) hr (d1:=d1) (d2:=d2) (gh:=gh) (o1:=o1) (kvs1:=kvs1) j3 j4 j5
      ⟨(((C.pt rfl).pt rfl).pt rfl).pt rfl,⟨(((fb.pt rfl).pt rfl).pt rfl).pt rfl,fi.skip (fun x y h=>.inl h) fun x y h=>.inl (h.elim id fun h=>h.2.2.2.elim)⟩,⟨by k_mem,by k_mem,⟨#[],0,⟨rfl,rfl,rfl⟩,rfl,fun _ he=>by simp at he,.nil,by simp⟩,Nat.zero_le _,DP.nil fun y h=>h.2.2⟩⟩ ⟨by k_mem,by k_mem,by k_mem,by k_mem⟩ fun ρ' JN=>?_)
    obtain ⟨C,⟨fb,fi⟩,⟨a1,a2,a3,a4,a5⟩⟩:=JN
    refine aC (ex_assignV (bG a1) (asgv_name (.inl rfl) ?_))
    refine exs_rekey (x:="#n") (y:="#o") (a:=d2) (hn a2 rfl) (by decide) (aE (H1.next ?_))
    refine ⟨((C.pt rfl).pt rfl).pt rfl,⟨((fb.pt rfl).pt rfl).pt rfl,fi.skip (fun x y h=>by rcases h with h | h <;> lia) fun x y h=>?_⟩,⟨by k_mem,by k_mem,a3,hlow2,?_⟩⟩
    · rcases Nat.lt_or_ge x (alo+i) with hlt | hge
      · exact .inl (.inl ⟨h.1,hlt,h.2.2.1,h.2.2.2⟩)
      · have hxe:x=alo+i:=by exact lq6 0xf100001f101f20a12f120a05414307182a0a1171007f rfl h hge
        cases e:mm as bs x y with
        | false=>exact .inr rfl
        | true=>exact .inl (.inr ⟨hxe,h.2.2.1,h.2.2.2,hxe ▸ e⟩)
    · refine a5.congr fun y=>?_
      rw [show alo+(i+1) - 1=alo+i by exact aF 0xf11f110ff18f108ff10a22ff18181a0a0 rfl]
      exact ⟨fun h=>h.2,fun h=>⟨by exact aF 0xf1181a0a01ff rfl,h⟩⟩
  · rintro ρ ⟨JC,⟨fb,fi⟩,_⟩
    rename_i bi bj bk
    rw [bI] at fi
    have best:Best (mm as bs) alo ahi blo bhi bi bj bk:=(fi.skip (P':=fun x y=>alo≤x∧x < ahi∧blo≤y∧y < bhi) (fun x y h=>by exact lq6 0xf10001f1001f11008f1018ff11f541430721171007f541430760a1171007f080c2cd5 rfl h) fun x y h=>.inl (by exact lq6 0xf10001f1001f10110f1011ff11f541430760a1171007f541430211100f080c2cd5 rfl h.1 h.2.1 h.2.2.1 h.2.2.2)).finish
    obtain ⟨c1,c2,c3,c4,c5,c6,c7,c8,c9,c10⟩:=id JC
    obtain ⟨b1,b2,b3⟩:=id fb
    have hw:=best.win
    unfold InW at hw
    have WL:∀ (test:Expr) (pos:Pos) (body:List Stmt),Tst X (k+2) (envF z L) ρ test false→Ex1 X (k+2) (envF z L) ρ (.While test body [] pos) fun f ρ'=>f=.next∧ρ'=ρ:=fun test pos body ht =>
      ex_while (fun _ ρ'=>ρ'=ρ) (n:=0) rfl (fun n ρ' e _ _=>by subst e;exact ⟨false,ht,(fun e=>by cases e),fun _=>⟨rfl,rfl⟩⟩)
    have next:∀ {st:Stmt} {ss:List Stmt} {Q:Fl→List (Str×B)→Prop},Ex1 X (k+2) (envF z L) ρ st (fun f ρ'=>f=.next∧ρ'=ρ)→Exs X (k+2) (envF z L) ρ ss Q→Exs X (k+2) (envF z L) ρ (st :: ss) Q:=fun h1 h2 =>
      aC fun A bad O s R r=>wpAny_mono (h1 A bad O s R r) (fun fl s' p=>by
        obtain ⟨f,ρ',O',⟨rfl,rfl⟩,fi,st,r'⟩:=p
        exact ⟨.next,ρ',O',h2,fi,st,r'⟩) fun _ _ x=>x
    have itB:∀ {e:Expr} {pos:Pos} {p:Pos} {n:Nat} {i:Int} (_:Ev X (k+2) (envF z L) ρ e (.int i)) (_:i=n) (_:n < bs.length) (_:∀ a u,subscripted e false (.ref a) (.int i u)=operate [.ref a,.int i u] (getItem (.ref a) (.int i u))),Ev X (k+2) (envF z L) ρ (.Subscript (.Name "b" p) e pos) (.int (bs.getD n 0)):=fun he hi hn hs=>ev_at (ev_ofV (bG c2) hdatb) he hi hn (by exact aF 0xf11100f1180a0f rfl hz) hs
    have itA:∀ {e:Expr} {pos:Pos} {p:Pos} {n:Nat} {i:Int} (_:Ev X (k+2) (envF z L) ρ e (.int i)) (_:i=n) (_:n < as.length) (_:∀ a u,subscripted e false (.ref a) (.int i u)=operate [.ref a,.int i u] (getItem (.ref a) (.int i u))),Ev X (k+2) (envF z L) ρ (.Subscript (.Name "a" p) e pos) (.int (as.getD n 0)):=fun he hi hn hs=>ev_at (ev_ofV (bG c1) hdata) he hi hn (by exact aF 0xf11100f1180a0f rfl hza) hs
    have hnj:∀ {e:Expr} {p pos:Pos} {i:Int} (_:Ev X (k+2) (envF z L) ρ e (.int i)) (_:starEach [e] (envF z L)=[(false,eval e (envF z L))]),Ev X (k+2) (envF z L) ρ (.Call (.Name "isbjunk" p) [e] [] pos) (.bool false):=fun he hs=>ev_notin c4 (.inl ⟨"#g",c5⟩) (.inr hjs) he (by decide) hs
    refine next (WL _ _ _ (tst_of_eq (aW (aL (aA b1) (aA c6) rfl) fun q1=>aW (aL (aA b2) (aA c8) rfl) fun q2=>aW (tst_not (tst_bool (hnj (itB (n:=bj - 1) (ev_sub (aA b2) aJ) ?_ ?_ (by intro _ _;with_unfolding_all rfl)) rfl))) fun _=>aW (aL (itA (n:=bi - 1) (ev_sub (aA b1) aJ) ?_ ?_ (by intro _ _;with_unfolding_all rfl)) (itB (n:=bj - 1) (ev_sub (aA b2) aJ) ?_ ?_ (by intro _ _;with_unfolding_all rfl)) rfl) fun _=>tst_and0) ?_)) ?_
    · simp only [decide_eq_true_eq] at q1 q2;exact aF 0xf18f1108ff11f110ff2c181cd5f1c0c4f1810 rfl q2
    · simp only [decide_eq_true_eq] at q1 q2;exact lq5 0xf1118f111108f151f2c4c4032a0100f1820 rfl h4 hw.2.2.2 q2
    · simp only [decide_eq_true_eq] at q1 q2;exact aF 0xf18f1108ff11f110ff2c181cd5f1c0c4f1810 rfl q1
    · simp only [decide_eq_true_eq] at q1 q2;exact lq5 0xf1118f111108f151f2c4c4032a0100f1820 rfl h2 hw.2.1 q1
    · simp only [decide_eq_true_eq] at q1 q2;exact aF 0xf18f1108ff11f110ff2c181cd5f1c0c4f1810 rfl q2
    · simp only [decide_eq_true_eq] at q1 q2;exact lq5 0xf1118f111108f151f2c4c4032a0100f1820 rfl h4 hw.2.2.2 q2
    · rcases Nat.lt_or_ge alo bi with h1' | h1'
      · rcases Nat.lt_or_ge blo bj with h2' | h2'
        · have:=best.left h1' h2'
          rw [mm_iff (by exact lq5 0xf1118f111108f151f241032a0100f1820 rfl h2 hw.2.1 h1') (by exact lq5 0xf1118f111108f151f241032a0100f1820 rfl h4 hw.2.2.2 h2')] at this
          rw [this];simp
        · have:¬ ((blo:Int) < bj):=by exact aF 0xf110c1c46f100f rfl h2'
          simp [this]
      · have:¬ ((alo:Int) < bi):=by exact aF 0xf110c1c46f100f rfl h1'
        simp [this]
    refine next (WL _ _ _ (tst_of_eq (aW (aL (aU (aA b1) (aA b3)) (aA c7) rfl) fun q1=>aW (aL (aU (aA b2) (aA b3)) (aA c9) rfl) fun q2=>aW (tst_not (tst_bool (hnj (itB (n:=bj+bk) (aU (aA b2) (aA b3)) ?_ ?_ (by intro _ _;with_unfolding_all rfl)) rfl))) fun _=>aW (aL (itA (n:=bi+bk) (aU (aA b1) (aA b3)) ?_ ?_ (by intro _ _;with_unfolding_all rfl)) (itB (n:=bj+bk) (aU (aA b2) (aA b3)) ?_ ?_ (by intro _ _;with_unfolding_all rfl)) rfl) fun _=>tst_and0) ?_)) ?_
    · simp only [decide_eq_true_eq] at q1 q2;exact aF 0xf1f1f10ac1c0ca5ff rfl
    · simp only [decide_eq_true_eq] at q1 q2;exact bF 0xf111132a1f0c3c2ca4100f rfl h4 q2
    · simp only [decide_eq_true_eq] at q1 q2;exact aF 0xf1f1f10ac1c0ca5ff rfl
    · simp only [decide_eq_true_eq] at q1 q2;exact bF 0xf111132a1f0c3c2ca4100f rfl h2 q1
    · simp only [decide_eq_true_eq] at q1 q2;exact aF 0xf1f1f10ac1c0ca5ff rfl
    · simp only [decide_eq_true_eq] at q1 q2;exact bF 0xf111132a1f0c3c2ca4100f rfl h4 q2
    · rcases Nat.lt_or_ge (bi+bk) ahi with h1' | h1'
      · rcases Nat.lt_or_ge (bj+bk) bhi with h2' | h2'
        · have:=best.right h1' h2'
          rw [mm_iff (by exact bF 0xf111132a1f032a1100f rfl h2 h1') (by exact bF 0xf111132a1f032a1100f rfl h4 h2')] at this
          rw [this];simp
        · have:¬ ((bj:Int)+bk < bhi):=by exact aO 0xf110c2c1ca46f21a00f rfl h2'
          simp [this]
      · have:¬ ((bi:Int)+bk < ahi):=by exact aO 0xf110c2c1ca46f21a00f rfl h1'
        simp [this]
    refine next (WL _ _ _ (tst_of_eq (aW (aL (aA b1) (aA c6) rfl) fun q1=>aW (aL (aA b2) (aA c8) rfl) fun q2=>aW (b:=false) (c:=true) (tst_bool (hnj (itB (n:=bj - 1) (ev_sub (aA b2) aJ) ?_ ?_ (by intro _ _;with_unfolding_all rfl)) rfl)) fun e=>by cases e) ?_)) ?_
    · simp only [decide_eq_true_eq] at q1 q2;exact aF 0xf18f1108ff11f110ff2c181cd5f1c0c4f1810 rfl q2
    · simp only [decide_eq_true_eq] at q1 q2;exact lq5 0xf1118f111108f151f2c4c4032a0100f1820 rfl h4 hw.2.2.2 q2
    · simp
    refine next (WL _ _ _ (tst_of_eq (aW (aL (aU (aA b1) (aA b3)) (aA c7) rfl) fun q1=>aW (aL (aU (aA b2) (aA b3)) (aA c9) rfl) fun q2=>aW (b:=false) (c:=true) (tst_bool (hnj (itB (n:=bj+bk) (aU (aA b2) (aA b3)) ?_ ?_ (by intro _ _;with_unfolding_all rfl)) rfl)) fun e=>by cases e) ?_)) ?_
    · simp only [decide_eq_true_eq] at q1 q2;exact aF 0xf1f1f10ac1c0ca5ff rfl
    · simp only [decide_eq_true_eq] at q1 q2;exact bF 0xf111132a1f0c3c2ca4100f rfl h4 q2
    · simp
    refine aC (ex_return (ev_match F G rfl (aB (aA b1) (aB (aA b2) (aB (aA b3) aG)))) ⟨bi,bj,bk,rfl,best⟩)
end
section
variable {O:KeyOrd} (ky:Keyed→O.α)
noncomputable def kk (xs:Array Keyed) (i:Nat):O.α:=ky (xs.getD i (.none,.none))
noncomputable def SegS (xs:Array Keyed) (lo n:Nat):Prop:=∀ i j,lo≤i→i≤j→j < lo+n→O.kle (kk ky xs i) (kk ky xs j)
noncomputable def SegD (xs:Array Keyed) (lo n:Nat):Prop:=∀ i j,lo≤i→i≤j→j < lo+n→O.kle (kk ky xs j) (kk ky xs i)
noncomputable def Same (xs ys:Array Keyed) (lo n:Nat):Prop:=∀ i,i < lo∨lo+n≤i→ys[i]?=xs[i]?
theorem Same.refl (xs:Array Keyed) (lo n:Nat):Same xs xs lo n:=fun _ _=>rfl
theorem Same.trans {xs ys zs:Array Keyed} {lo n:Nat} (h:Same xs ys lo n) (g:Same ys zs lo n):Same xs zs lo n:=fun i hi=>(g i hi).trans (h i hi)
theorem Same.mono {xs ys:Array Keyed} {lo n lo' n':Nat} (h:Same xs ys lo n) (h1:lo'≤lo) (h2:lo+n≤lo'+n'):Same xs ys lo' n':=fun i hi=>h i (by exact lq5 0xf10101f1011f421a01418f430a0041830a21a0100f rfl h1 h2 hi)
variable {ky}
theorem kk_congr {xs ys:Array Keyed} {i j:Nat} (h:xs[i]?=ys[j]?):kk ky xs i=kk ky ys j:=by unfold kk;rw [Array.getD_eq_getD_getElem?,Array.getD_eq_getD_getElem?,h]
theorem kk_bubble {xs:Array Keyed} {src d:Nat} (hs:src < xs.size) (hd:d≤src) (k:Nat) :
    kk ky (bubble xs src d) k=if k=src - d then kk ky xs src else if src - d < k∧k≤src then kk ky xs (k - 1) else kk ky xs k:=by
  have e:=getElem?_bubble hs d hd k
  by_cases h1:k=src - d
  · rw [if_pos h1] at e ⊢;exact kk_congr e
  · rw [if_neg h1] at e ⊢
    by_cases h2:src - d < k∧k≤src
    · rw [if_pos h2] at e ⊢;exact kk_congr e
    · rw [if_neg h2] at e ⊢;exact kk_congr e
theorem kk_mirror {xs:Array Keyed} {i j:Nat} (hj:j≤xs.size) (k:Nat):kk ky (mirror xs i j ((j - i) / 2)) k=if i≤k∧k < j then kk ky xs (i+j - 1 - k) else kk ky xs k:=by
  have e:=getElem?_mirror_all (i:=i) hj k
  by_cases h1:i≤k∧k < j
  · rw [if_pos h1] at e ⊢;exact kk_congr e
  · rw [if_neg h1] at e ⊢;exact kk_congr e
theorem kk_mirror_equal {xs:Array Keyed} {i j:Nat} (hj:j≤xs.size) (heq:∀ k,i≤k→k < j→kk ky xs k=kk ky xs (j - 1)) (k:Nat):kk ky (mirror xs i j ((j - i) / 2)) k=kk ky xs k:=by
  rw [kk_mirror hj]
  split
  · rw [heq _ (by lia) (by lia),heq k (by lia) (by lia)]
  · rfl
theorem same_mirror {xs:Array Keyed} {i j lo n:Nat} (hj:j≤xs.size) (h1:lo≤i) (h2:j≤lo+n):Same xs (mirror xs i j ((j - i) / 2)) lo n:=fun k hk=>by
  rw [getElem?_mirror_all hj,if_neg (by exact lq5 0xf10101f1011f24141076f430a0041830a20100f rfl h1 h2 hk)]
theorem same_bubble {xs:Array Keyed} {src d lo n:Nat} (hs:src < xs.size) (hd:d≤src) (h1:lo≤src - d) (h2:src < lo+n):Same xs (bubble xs src d) lo n:=fun k hk=>by
  rw [getElem?_bubble hs d hd,if_neg (by exact lq5 0xf100181f10011f5426f430a0041830a11500f211 rfl h1 h2 hk),if_neg (by exact lq5 0xf1000101f100011f14045176f430a0041830a11500f211 rfl h1 h2 hk)]
structure SB (a₀:Array Keyed) (κ:SortKind) (st:SortSt):Prop where
  perm:(arrOf st).Perm a₀
  kind:kindOf st=κ
  failed:failedOf st=none
theorem SB.size {a₀:Array Keyed} {κ:SortKind} {st:SortSt} (h:SB a₀ κ st):(arrOf st).size=a₀.size:=h.perm.size_eq
theorem SB.set {a₀:Array Keyed} {κ:SortKind} {st:SortSt} (h:SB a₀ κ st) {xs:Array Keyed} (hp:xs.Perm (arrOf st)):SB a₀ κ (setArr st xs):=⟨hp.trans h.perm,h.kind,h.failed⟩
noncomputable def Cmp (M:Model) (A:Around) (s:Shared) (ky:Keyed→O.α) (a₀:Array Keyed) (κ:SortKind):Prop:=∀ x y,x∈a₀.toList→y∈a₀.toList→∀ (Q:Bool→Shared→Prop) (E:Value→Shared→Prop),Q (O.blt (ky x) (ky y)) s→wpAny M A (keyLt' κ x.1 y.1) Q E s
variable {M:Model} {A:Around} {E:Value→Shared→Prop} {s:Shared} {a₀:Array Keyed} {κ:SortKind}
theorem lt_of {st:SortSt} {x y:Keyed} {Q:Option Bool→SortSt→Prop} (hC:Cmp M A s ky a₀ κ) (hk:kindOf st=κ) (hx:x∈a₀.toList) (hy:y∈a₀.toList) (h:Q (some (O.blt (ky x) (ky y))) st):wpS M A E s (lt' x y) Q st:=by
  rw [lt'_eq]
  refine wpS_bind (wpS_get ?_)
  rw [hk]
  refine wpS_bind (wpS_lift (wpAny_attempt (hC x y hx hy _ _ ⟨rfl,?_⟩)))
  exact wpS_pure h
theorem SB.mem {st:SortSt} (hB:SB a₀ κ st) {i:Nat} (hi:i < a₀.size):∃ x,(arrOf st)[i]?=some x∧x∈a₀.toList∧kk ky (arrOf st) i=ky x:=by
  have hi':i < (arrOf st).size:=by rw [hB.size];exact hi
  refine ⟨(arrOf st)[i],getElem?_pos _ i hi',(Array.perm_iff_toList_perm.mp hB.perm).mem_iff.mp (by simp),?_⟩
  unfold kk
  rw [Array.getD_eq_getD_getElem?,getElem?_pos _ i hi']
  rfl
theorem lt_at {st:SortSt} {i j:Nat} {Q:Option Bool→SortSt→Prop} (hC:Cmp M A s ky a₀ κ) (hB:SB a₀ κ st) (hi:i < a₀.size) (hj:j < a₀.size) (h:Q (some (O.blt (kk ky (arrOf st) i) (kk ky (arrOf st) j))) st):wpS M A E s (ltAt' i j) Q st:=by
  obtain ⟨x,e1,m1,k1⟩:=hB.mem (ky:=ky) hi
  obtain ⟨y,e2,m2,k2⟩:=hB.mem (ky:=ky) hj
  rw [k1,k2] at h
  rw [ltAt'_eq]
  refine wpS_bind (wpS_get ?_)
  show wpS _ _ _ _ (do let x ← elem' (arrOf st) i;let y ← elem' (arrOf st) j;lt' x y) Q st
  rw [elem'_eq,elem'_eq,e1,e2]
  exact wpS_bind (wpS_pure (wpS_bind (wpS_pure (lt_of hC hB.kind m1 m2 h))))
theorem rev_wp {st:SortSt} {i j:Nat} {Q:Unit→SortSt→Prop} (h:Q () (setArr st (mirror (arrOf st) i j ((j - i) / 2)))):wpS M A E s (reverseSlice' i j) Q st:=by
  rw [reverseSlice'_eq];exact wpS_modify h
noncomputable def ascL (lo a nrem:Nat):StateT SortSt Sem (Option (Option Nat)×Nat) :=
  forIn [a:nrem] ((none,a):Option (Option Nat)×Nat) fun _ r=>do
    let x ← ltAt' (lo+r.2) (lo+r.2 - 1)
    match x with
    | some smaller=>if smaller=true then pure (ForInStep.done (none,r.2)) else pure (ForInStep.yield (none,r.2+1))
    | _=>pure (ForInStep.done (some none,r.2))
noncomputable def tailL (lo n nrem:Nat):StateT SortSt Sem (Option Nat):=do
  reverseSlice' lo (lo+n)
  let r ← ascL lo n nrem
  match r.1 with
  | some x=>pure x
  | none=>pure (some r.2)
noncomputable def descL (lo n nrem:Nat):StateT SortSt Sem (Option (Option Nat)×Nat×Nat) :=
  forIn [n:nrem] ((none,n,0):Option (Option Nat)×Nat×Nat) fun _ r=>do
    let x ← ltAt' (lo+r.2.1) (lo+r.2.1 - 1)
    match x with
    | some smaller =>
      if smaller=true then
        if r.2.2 > 0 then do
          reverseSlice' (lo+r.2.1 - (r.2.2+1)) (lo+r.2.1)
          pure (ForInStep.yield (none,r.2.1+1,0))
        else pure (ForInStep.yield (none,r.2.1+1,0))
      else do
        let x ← ltAt' (lo+r.2.1 - 1) (lo+r.2.1)
        match x with
        | some larger =>
          if larger=true then pure (ForInStep.done (none,r.2.1,r.2.2))
          else pure (ForInStep.yield (none,r.2.1+1,r.2.2+1))
        | _=>pure (ForInStep.done (some none,r.2.1,r.2.2))
    | _=>pure (ForInStep.done (some none,r.2.1,r.2.2))
noncomputable def descP (lo n nrem:Nat):StateT SortSt Sem (Option Nat):=do
  liftM (rule "list.sort.descending-run")
  let r ← descL lo (n+1) nrem
  match r.1 with
  | some x=>pure x
  | none =>
    if r.2.2 > 0 then do
      reverseSlice' (lo+r.2.1 - (r.2.2+1)) (lo+r.2.1)
      tailL lo r.2.1 nrem
    else tailL lo r.2.1 nrem
theorem countRun_parts (lo nrem:Nat):countRun' lo nrem=(do
    let r ← ascL lo 1 nrem
    match r.1 with
    | some x=>pure x
    | none =>
      if (r.2 == nrem)=true then pure (some r.2)
      else if r.2 > 1 then do
        let x ← ltAt' lo (lo+r.2 - 1)
        match x with
        | some rose=>if rose=true then pure (some r.2) else do
          reverseSlice' lo (lo+r.2)
          descP lo r.2 nrem
        | _=>pure none
      else descP lo r.2 nrem):=by
  rw [countRun'_eq]
  unfold descP tailL descL ascL
  dsimp only
  congr 1
  funext r
  obtain ⟨r,n⟩:=r
  have t3:∀ {α:Type} {f g:Option (Option Nat)×Nat→StateT SortSt Sem α} (m:StateT SortSt Sem (Option (Option Nat)×Nat)),(∀ a b,f (a,b)=g (a,b))→(m >>= f)=(m >>= g):=fun m h=>by congr 1;funext x;obtain ⟨a,b⟩:=x;exact h a b
  cases r with
  | some r=>rfl
  | none =>
    dsimp only
    split
    · rfl
    · split
      · congr 1
        funext x
        cases x with
        | none=>rfl
        | some rose =>
          dsimp only
          split
          · rfl
          · congr 1;funext _u
            congr 1;funext _v
            congr 1;funext y
            obtain ⟨r2,n2,q2⟩:=y
            cases r2 with
            | some r2=>rfl
            | none =>
              dsimp only
              split
              · congr 1;funext _w;congr 1;funext _z
                exact t3 _ fun a b=>by cases a <;> rfl
              · congr 1;funext _w
                exact t3 _ fun a b=>by cases a <;> rfl
      · congr 1;funext _v
        congr 1;funext y
        obtain ⟨r2,n2,q2⟩:=y
        cases r2 with
        | some r2=>rfl
        | none =>
          dsimp only
          split
          · congr 1;funext _w;congr 1;funext _z
            exact t3 _ fun a b=>by cases a <;> rfl
          · congr 1;funext _w
            exact t3 _ fun a b=>by cases a <;> rfl
theorem asc_wp {st:SortSt} {lo a nrem:Nat} {Q:Option (Option Nat)×Nat→SortSt→Prop} (hC:Cmp M A s ky a₀ κ) (hn:lo+nrem≤a₀.size) (ha:1≤a) (han:a≤nrem) (hB:SB a₀ κ st) (hs:SegS ky (arrOf st) lo a)
    (h:∀ n,a≤n→n≤nrem→SegS ky (arrOf st) lo n→(n=nrem∨O.klt (kk ky (arrOf st) (lo+n)) (kk ky (arrOf st) (lo+n - 1)))→Q (none,n) st):wpS M A E s (ascL lo a nrem) Q st:=by
  unfold ascL
  refine wpS_forRange (I:=fun x c st'=>st'=st∧c=(none,x)∧SegS ky (arrOf st) lo x) ?step ?fin ⟨rfl,rfl,hs⟩
  case fin =>
    rintro c st' ⟨rfl,rfl,hs'⟩
    rw [show max a nrem=nrem by exact aF 0xf101f111ff108f1108ff122f100f104 rfl han] at hs' ⊢
    exact h nrem han (Nat.le_refl _) hs' (.inl rfl)
  case step =>
    rintro x c st' hax hxn ⟨rfl,rfl,hs'⟩
    dsimp only
    refine wpS_bind (lt_at hC hB (by exact bF 0xf111230a1f131210a0f rfl hn hxn) (by exact bF 0xf11011241f131210a0f1830a1 rfl hn hxn) ?_)
    cases hl:O.blt (kk ky (arrOf st') (lo+x)) (kk ky (arrOf st') (lo+x - 1)) with
    | true=>exact wpS_pure (h x hax (by exact aF 0xf11100f101f rfl hxn) hs' (.inr hl))
    | false =>
      refine wpS_pure ⟨rfl,rfl,fun i j hi hij hj=>?_⟩
      by_cases hjx:j < lo+x
      · exact hs' i j hi hij hjx
      · have hj':j=lo+x:=by exact aO 0xf101f11f21a02f21a016182a1a01f rfl hj hjx
        subst hj'
        by_cases hi':i=lo+x
        · subst hi';exact KeyOrd.kle_refl _
        · exact KeyOrd.kle_trans (hs' i (lo+x - 1) hi (by exact aO 0xf1011f10001f300f21a02621a00f1821a1 rfl hij hi') (by exact aO 0xf18f11108f12a31f1000180f1812a0 rfl ha hax)) hl
theorem tail_wp {st:SortSt} {lo n nrem:Nat} {Q:Option Nat→SortSt→Prop} (hC:Cmp M A s ky a₀ κ) (hn:lo+nrem≤a₀.size) (h1:1≤n) (hnn:n≤nrem) (hB:SB a₀ κ st) (hs:SegD ky (arrOf st) lo n)
    (h:∀ m st',SB a₀ κ st'→1≤m→m≤nrem→SegS ky (arrOf st') lo m→Same (arrOf st) (arrOf st') lo nrem→pendingOf st'=pendingOf st→gallopOf st'=gallopOf st→Q (some m) st'):wpS M A E s (tailL lo n nrem) Q st:=by
  unfold tailL
  have hsz:lo+n≤(arrOf st).size:=by rw [hB.size];exact bF 0xf111230a0f130210a0f rfl hn hnn
  refine wpS_bind (rev_wp ?_)
  have hB':SB a₀ κ (setArr st (mirror (arrOf st) lo (lo+n) ((lo+n - lo) / 2))):=hB.set (mirror_perm _ _ _ _)
  refine wpS_bind (asc_wp hC hn h1 hnn hB' ?_ fun m hm1 hm2 hsm _=>wpS_pure (h m _ hB' (by exact aF 0xf1111180f1000180f rfl h1 hm1) hm2 hsm (same_mirror hsz (Nat.le_refl _) (by exact aO 0xf1112a02a0f100f rfl hnn)) rfl rfl))
  intro i j hi hij hj
  show O.kle (kk ky (mirror (arrOf st) lo (lo+n) ((lo+n - lo) / 2)) i) (kk ky (mirror (arrOf st) lo (lo+n) ((lo+n - lo) / 2)) j)
  rw [kk_mirror hsz,kk_mirror hsz,if_pos (by exact bF 0xf1101f11f30a111007f30a21210100f rfl hi hij hj),if_pos (by exact bF 0xf1001f111f30a212007f30a21210100f rfl hi hij hj)]
  exact hs _ _ (by exact aO 0xf110101410f21a01f0311821a1a1 rfl hj) (by exact bF 0xf1100018f108f650f100f0411401832a2a1 rfl hij) (by exact aO 0xf10188f11008ff11088f110008ff01a41f2100180f2301801a1a0 rfl h1 hi)
theorem desc_wp {st:SortSt} {lo n nrem:Nat} {Q:Option (Option Nat)×Nat×Nat→SortSt→Prop} (hC:Cmp M A s ky a₀ κ) (hn:lo+nrem≤a₀.size) (h1:1≤n) (hnn:n≤nrem) (hB:SB a₀ κ st) (hs:SegD ky (arrOf st) lo n)
    (h:∀ m neq st',SB a₀ κ st'→n≤m→m≤nrem→SegD ky (arrOf st') lo m→neq+1≤m→(∀ i,lo+m - (neq+1)≤i→i < lo+m→kk ky (arrOf st') i=kk ky (arrOf st') (lo+m - 1))→Same (arrOf st) (arrOf st') lo nrem→pendingOf st'=pendingOf st→gallopOf st'=gallopOf st→Q (none,m,neq) st'):wpS M A E s (descL lo n nrem) Q st:=by
  unfold descL
  refine wpS_forRange (I:=fun x c st'=>∃ neq,c=(none,x,neq)∧SB a₀ κ st'∧SegD ky (arrOf st') lo x∧neq+1≤x∧(∀ i,lo+x - (neq+1)≤i→i < lo+x→kk ky (arrOf st') i=kk ky (arrOf st') (lo+x - 1))∧Same (arrOf st) (arrOf st') lo nrem∧pendingOf st'=pendingOf st∧gallopOf st'=gallopOf st) ?step ?fin
    ⟨0,rfl,hB,hs,by exact aQ 0xf1101808a0f0180f rfl h1,fun i h1 h2=>by congr 1;exact aO 0xf11018f108ff100011f1000110ff322f10a21240f1808a10a11810a0 rfl h1 h2,Same.refl _ _ _,rfl,rfl⟩
  case fin =>
    rintro c st' ⟨neq,rfl,hB',hs',hq,he,hS,hp,hg⟩
    rw [show max n nrem=nrem by exact aF 0xf101f111ff108f1108ff122f100f104 rfl hnn] at hs' hq he ⊢
    exact h nrem neq st' hB' hnn (Nat.le_refl _) hs' hq he hS hp hg
  case step =>
    rintro x c st' hax hxn ⟨neq,rfl,hB',hs',hq,he,hS,hp,hg⟩
    dsimp only
    have hsz:lo+x < (arrOf st').size:=by rw [hB'.size];exact bF 0xf111230a1f131210a0f rfl hn hxn
    refine wpS_bind (lt_at hC hB' (by exact bF 0xf111230a1f131210a0f rfl hn hxn) (by exact bF 0xf11011241f131210a0f1830a1 rfl hn hxn) ?_)
    have ext:∀ (st2:SortSt),(∀ i,kk ky (arrOf st2) i=kk ky (arrOf st') i)→O.kle (kk ky (arrOf st') (lo+x)) (kk ky (arrOf st') (lo+x - 1))→SegD ky (arrOf st2) lo (x+1):=fun st2 hk hle i j hi hij hj=>by
      rw [hk,hk]
      by_cases hjx:j < lo+x
      · exact hs' i j hi hij hjx
      · have hj':j=lo+x:=by exact aO 0xf101f11f21a02f21a016182a1a01f rfl hj hjx
        subst hj'
        by_cases hi':i=lo+x
        · subst hi';exact KeyOrd.kle_refl _
        · exact KeyOrd.kle_trans hle (hs' i (lo+x - 1) hi (by exact aO 0xf1011f10001f300f21a02621a00f1821a1 rfl hij hi') (by exact aO 0xf18f1108f12a31f1180a0f1812a0 rfl hq))
    cases hl:O.blt (kk ky (arrOf st') (lo+x)) (kk ky (arrOf st') (lo+x - 1)) with
    | true =>
      dsimp only
      rw [if_pos rfl]
      by_cases hneq:neq > 0
      · rw [if_pos hneq]
        refine wpS_bind (rev_wp (wpS_pure ⟨0,rfl,hB'.set (mirror_perm _ _ _ _),?_,by exact aQ 0xf1180a1808a0ff rfl,fun i h1 h2=>by congr 1;exact aO 0xf11018f108ff100011f1000110ff322f181a0a21240f1808a181a0a118181a0a0 rfl h1 h2,hS.trans (same_mirror (by exact aO 0xf11210a0f210a1f rfl hsz) (by exact aO 0xf1101320f1180a0f180a12a1 rfl hq) (by exact aO 0xf1112a02a0f101f rfl hxn)),hp,hg⟩))
        exact ext _ (fun i=>kk_mirror_equal (by exact aO 0xf11210a0f210a1f rfl hsz) (fun k h1 h2=>he k h1 h2) i) (KeyOrd.kle_of_klt hl)
      · rw [if_neg hneq]
        exact wpS_pure ⟨0,rfl,hB',ext st' (fun _=>rfl) (KeyOrd.kle_of_klt hl),by exact aQ 0xf1180a1808a0ff rfl,fun i h1 h2=>by congr 1;exact aO 0xf11018f108ff100011f1000110ff322f181a0a21240f1808a181a0a118181a0a0 rfl h1 h2,hS,hp,hg⟩
    | false =>
      dsimp only
      rw [if_neg (by simp)]
      refine wpS_bind (lt_at hC hB' (by exact bF 0xf11011241f131210a0f1830a1 rfl hn hxn) (by exact bF 0xf111230a1f131210a0f rfl hn hxn) ?_)
      cases hl2:O.blt (kk ky (arrOf st') (lo+x - 1)) (kk ky (arrOf st') (lo+x)) with
      | true=>exact wpS_pure (h x neq st' hB' hax (by exact aF 0xf11100f101f rfl hxn) hs' hq he hS hp hg)
      | false =>
        have heq:kk ky (arrOf st') (lo+x)=kk ky (arrOf st') (lo+x - 1):=O.total _ _ hl hl2
        refine wpS_pure ⟨neq+1,rfl,hB',ext st' (fun _=>rfl) (by rw [heq];exact KeyOrd.kle_refl _),by exact aF 0xf11181a18180aa0f1180a0f rfl hq,fun i h1 h2=>?_,hS,hp,hg⟩
        rw [show lo+(x+1) - 1=lo+x by exact aF 0xf11f110ff18f108ff10a22ff18181a0a0 rfl]
        by_cases hix:i=lo+x
        · subst hix;rfl
        · rw [heq];exact he i (by exact bF 0xf11018f108f340f350f18182aa181a0a1182a10a0 rfl h1) (by exact aO 0xf11f101f21a01f21a026182a1a01f rfl h2 hix)
theorem descP_wp {st:SortSt} {lo n nrem:Nat} {Q:Option Nat→SortSt→Prop} (hC:Cmp M A s ky a₀ κ) (hn:lo+nrem≤a₀.size) (hnn:n+1≤nrem) (hB:SB a₀ κ st) (hs:SegD ky (arrOf st) lo (n+1))
    (h:∀ m st',SB a₀ κ st'→1≤m→m≤nrem→SegS ky (arrOf st') lo m→Same (arrOf st) (arrOf st') lo nrem→pendingOf st'=pendingOf st→gallopOf st'=gallopOf st→Q (some m) st'):wpS M A E s (descP lo n nrem) Q st:=by
  unfold descP
  refine wpS_bind (wpS_lift (wpAny_rule ⟨rfl,?_⟩))
  refine wpS_bind (desc_wp hC hn (by exact aQ 0xf1180a180ff rfl) hnn hB hs fun m neq st' hB' hm1 hm2 hs' hq he hS hp hg=>?_)
  dsimp only
  have hsz:lo+m≤(arrOf st').size:=by rw [hB'.size];exact bF 0xf111230a0f130210a0f rfl hn hm2
  by_cases hneq:neq > 0
  · rw [if_pos hneq]
    refine wpS_bind (rev_wp (tail_wp hC hn (by exact aF 0xf111180f1180a0f rfl hq) hm2 (hB'.set (mirror_perm _ _ _ _)) ?_ fun m' st2 a1 a2 a3 a4 a5 a6 a7=>h m' st2 a1 a2 a3 a4 (hS.trans ((same_mirror hsz (by exact aO 0xf1101320f1180a0f180a12a1 rfl hq) (by exact aO 0xf1112a02a0f100f rfl hm2)).trans a5)) (a6.trans hp) (a7.trans hg)))
    intro i j hi hij hj
    show O.kle (kk ky (mirror (arrOf st') _ _ _) j) (kk ky (mirror (arrOf st') _ _ _) i)
    rw [kk_mirror_equal hsz (fun k h1 h2=>he k h1 h2),kk_mirror_equal hsz (fun k h1 h2=>he k h1 h2)]
    exact hs' i j hi hij hj
  · rw [if_neg hneq]
    exact tail_wp hC hn (by exact aF 0xf111180f1180a0f rfl hm1) hm2 hB' hs' fun m' st2 a1 a2 a3 a4 a5 a6 a7=>h m' st2 a1 a2 a3 a4 (hS.trans a5) (a6.trans hp) (a7.trans hg)
theorem count_wp {st:SortSt} {lo nrem:Nat} {Q:Option Nat→SortSt→Prop} (hC:Cmp M A s ky a₀ κ) (hn:lo+nrem≤a₀.size) (h1:1≤nrem) (hB:SB a₀ κ st)
    (h:∀ m st',SB a₀ κ st'→1≤m→m≤nrem→SegS ky (arrOf st') lo m→Same (arrOf st) (arrOf st') lo nrem→pendingOf st'=pendingOf st→gallopOf st'=gallopOf st→Q (some m) st'):wpS M A E s (countRun' lo nrem) Q st:=by
  rw [countRun_parts]
  refine wpS_bind (asc_wp hC hn (Nat.le_refl 1) h1 hB (fun i j hi hij hj=>by have:i=j:=(by exact aO 0xf1011f101f212f180a21210100f rfl hi hij hj);subst this;exact KeyOrd.kle_refl _) fun n hn1 hn2 hsn hor=>?_)
  dsimp only
  by_cases hnn:n=nrem
  · rw [if_pos (by simpa using hnn)]
    exact wpS_pure (h n st hB hn1 hn2 hsn (Same.refl _ _ _) rfl rfl)
  · rw [if_neg (by simpa using hnn)]
    have hlt:=hor.resolve_left hnn
    by_cases hgt:n > 1
    · rw [if_pos hgt]
      refine wpS_bind (lt_at hC hB (by exact bF 0xf1111201f3181130210a0f rfl hn hn2 hgt) (by exact bF 0xf1118f100010f241f3181130210a0f1830a0 rfl hn hn2 hgt) ?_)
      cases hrose:O.blt (kk ky (arrOf st) lo) (kk ky (arrOf st) (lo+n - 1)) with
      | true =>
        dsimp only
        rw [if_pos rfl]
        exact wpS_pure (h n st hB hn1 hn2 hsn (Same.refl _ _ _) rfl rfl)
      | false =>
        dsimp only
        rw [if_neg (by simp)]
        have hsz:lo+n≤(arrOf st).size:=by rw [hB.size];exact bF 0xf111230a0f130210a0f rfl hn hn2
        have hall:∀ k,lo≤k→k < lo+n→kk ky (arrOf st) k=kk ky (arrOf st) (lo+n - 1):=by
          intro k hk1 hk
          exact KeyOrd.kle_antisymm (hsn k (lo+n - 1) hk1 (by exact aO 0xf1101300f21a01f1821a1 rfl hk) (by exact aF 0xf18f1108f01a21f0181f1801a0 rfl hgt)) (KeyOrd.kle_trans hrose (hsn lo k (Nat.le_refl _) hk1 hk))
        refine wpS_bind (rev_wp (descP_wp hC hn (by exact aF 0xf11f101f1180a0f1026100f rfl hn2 hnn) (hB.set (mirror_perm _ _ _ _)) ?_ fun m' st2 a1 a2 a3 a4 a5 a6 a7=>h m' st2 a1 a2 a3 a4 ((same_mirror hsz (Nat.le_refl _) (by exact aO 0xf1112a02a0f100f rfl hn2)).trans a5) a6 a7))
        intro i j hi hij hj
        show O.kle (kk ky (mirror (arrOf st) _ _ _) j) (kk ky (mirror (arrOf st) _ _ _) i)
        rw [kk_mirror_equal hsz hall,kk_mirror_equal hsz hall]
        by_cases hjn:j < lo+n
        · rw [hall i hi (by exact bF 0xf11132a01f32a11100f rfl hij hjn),hall j (by exact aO 0xf111200f210100f rfl hi hij) hjn];exact KeyOrd.kle_refl _
        · have hj':j=lo+n:=by exact aO 0xf101f11f21a02f21a016182a1a01f rfl hj hjn
          subst hj'
          by_cases hi':i=lo+n
          · subst hi';exact KeyOrd.kle_refl _
          · rw [hall i hi (by exact aO 0xf11f101f21a01f21a02621a00f rfl hij hi')];exact KeyOrd.kle_of_klt hlt
    · rw [if_neg hgt]
      have hn1':n=1:=by exact aQ 0xf11f101f1802f018160180f rfl hn1 hgt
      subst hn1'
      refine descP_wp hC hn (by exact aQ 0xf11f101f01818a0f018260180f rfl h1 hnn) hB ?_ h
      intro i j hi hij hj
      by_cases hi':i=j
      · subst hi';exact KeyOrd.kle_refl _
      · have e1:i=lo:=by exact aO 0xf11f10011f1001ff012f21261818a0a21210100f rfl hi hij hj hi'
        have e2:j=lo+1:=by exact aO 0xf111f1001ff1001f180a22f21261818a0a21210100f rfl hi hij hj hi'
        subst e1 e2
        exact KeyOrd.kle_of_klt hlt
theorem bin_wp {st:SortSt} {lo n ok:Nat} {Q:Bool→SortSt→Prop} (hC:Cmp M A s ky a₀ κ) (hn:lo+n≤a₀.size) (hok:ok≤n) (hB:SB a₀ κ st) (hs:SegS ky (arrOf st) lo ok)
    (h:∀ st',SB a₀ κ st'→SegS ky (arrOf st') lo n→Same (arrOf st) (arrOf st') lo n→pendingOf st'=pendingOf st→gallopOf st'=gallopOf st→Q true st'):wpS M A E s (binarySort' lo n ok) Q st:=by
  rw [binarySort'_eq]
  refine wpS_bind (wpS_mono (wpS_forRange (I:=fun k c st'=>c=(none,())∧SB a₀ κ st'∧SegS ky (arrOf st') lo (min k n)∧Same (arrOf st) (arrOf st') lo n∧pendingOf st'=pendingOf st∧gallopOf st'=gallopOf st)
    (Q:=fun c st'=>c=(none,())∧SB a₀ κ st'∧SegS ky (arrOf st') lo n∧Same (arrOf st) (arrOf st') lo n∧pendingOf st'=pendingOf st∧gallopOf st'=gallopOf st) ?step ?fin ?init) ?post)
  case post =>
    rintro c st' ⟨rfl,hB',hs',a1,a2,a3⟩
    exact wpS_pure (h st' hB' hs' a1 a2 a3)
  case init =>
    refine ⟨rfl,hB,fun i j hi hij hj=>?_,Same.refl _ _ _,rfl,rfl⟩
    by_cases h1:ok=0
    · have:i=j:=by exact lq5 0xf10110818f10110808ff8000010ff101f212f083260a21210100f4531834 rfl hi hij hj h1
      subst this;exact KeyOrd.kle_refl _
    · exact hs i j hi hij (by exact bF 0xf1f1108181ff1f1108081fff110818f110808ff21a01f0822651a01f3431824 rfl hj h1)
  case fin =>
    rintro c st' ⟨hc,hB',hs',a⟩
    refine ⟨hc,hB',?_,a⟩
    rwa [show min (max (max ok 1) n) n=n by exact aF 0xf1000001f1000101ff1000001f1001101fff1000001f1000101ff1000001f1001101ffff1000008f1000018ff1000008f1000018fff1000008f1000018ff1000008f1000018ffff142ff1331241804 rfl] at hs'
  case step =>
    rintro k c st' hak hkn ⟨rfl,hB',hs',a1,a2,a3⟩
    rw [show min k n=k by exact aF 0xf1101f101ff1010f108ff022f101f103 rfl hkn] at hs'
    have hk:lo+k < a₀.size:=by exact bF 0xf111230a1f131210a0f rfl hn hkn
    refine wpS_bind (wpS_mono (wpS_forRange (I:=fun x c st''=>st''=st'∧∃ l r,c=(none,l,r)∧l≤r∧r≤k∧r - l≤k - x ∧
        (∀ i,i < l→O.kle (kk ky (arrOf st') (lo+i)) (kk ky (arrOf st') (lo+k)))∧(∀ i,r≤i→i < k→O.klt (kk ky (arrOf st') (lo+k)) (kk ky (arrOf st') (lo+i))))
      (Q:=fun c st''=>st''=st'∧∃ l r,c=(none,l,r)∧l≤k ∧
        (∀ i,i < l→O.kle (kk ky (arrOf st') (lo+i)) (kk ky (arrOf st') (lo+k)))∧(∀ i,l≤i→i < k→O.klt (kk ky (arrOf st') (lo+k)) (kk ky (arrOf st') (lo+i)))) ?istep ?ifin ?iinit) ?ipost)
    case iinit=>exact ⟨rfl,0,k,rfl,by exact aQ 0xf10080ff rfl,by exact aQ 0xf1000ff rfl,by exact aQ 0xf1110ff0801 rfl,fun i hi=>by exact (aQ 0xf19f0801f rfl hi).elim,fun i h1 h2=>by exact (aF 0xf119f011100f rfl h1 h2).elim⟩
    case ifin =>
      rintro c st'' ⟨rfl,l,r,rfl,hlr,hrk,hm,hlo,hhi⟩
      have:l=r:=by exact aO 0xf100101018f1001010008ff1000110ff1001f102f530210100f4202084011 rfl hlr hrk hm
      subst this
      exact ⟨rfl,l,l,rfl,hrk,hlo,hhi⟩
    case istep =>
      rintro x c st'' _ hxk ⟨rfl,l,r,rfl,hlr,hrk,hm,hlo,hhi⟩
      dsimp only
      by_cases hge:l ≥ r
      · rw [if_pos hge]
        have:l=r:=by exact aF 0xf101f11f102f010100f rfl hlr hge
        subst this
        exact wpS_pure ⟨rfl,l,l,rfl,hrk,hlo,hhi⟩
      · rw [if_neg hge]
        refine wpS_bind (lt_at hC hB' hk (by exact lq5 0xf122012250a1f4306130210a1f2834a2 rfl hk hrk hge) ?_)
        cases hless:O.blt (kk ky (arrOf st'') (lo+k)) (kk ky (arrOf st'') (lo+(l+r) / 2)) with
        | true =>
          simp only [if_true]
          refine wpS_pure ⟨rfl,l,(l+r) / 2,rfl,by exact aF 0xf1102210f1006f2801a2 rfl hge,by exact aO 0xf12012130f2006100f2802a2 rfl hrk hge,by exact bF 0xf1101001298f11000012908ff108f650f17070f320101183a211402801a2 rfl hm,hlo,fun i h1 h2=>?_⟩
          exact KeyOrd.klt_of_klt_of_kle hless (hs' _ _ (by exact aO 0xf130a00ff2821a2 rfl) (by exact bF 0xf100123a43a0f240f2810a2 rfl h1) (by exact aO 0xf1112a02a1f101f rfl h2))
        | false =>
          simp only [Bool.false_eq_true,if_false]
          refine wpS_pure ⟨rfl,(l+r) / 2+1,r,rfl,by exact aF 0xf10120182a0f1006f2801a2 rfl hge,by exact aF 0xf11100f100f rfl hrk,by exact bF 0xf1101010298f11000102908ff108f650f17070f320101183a21184a002801a2 rfl hm,fun i h1=>?_,hhi⟩
          exact KeyOrd.kle_trans (hs' (lo+i) (lo+(l+r) / 2) (by exact aF 0xf110a00ff rfl) (by exact bF 0xf100143a03a0f184a01f2821a2 rfl h1) (by exact bF 0xf1201213a43a1f2006100f2802a2 rfl hrk hge)) hless
    case ipost =>
      rintro c st'' ⟨rfl,l,r,rfl,hlk,hlo,hhi⟩
      show wpS _ _ _ _ (do moveDown' (lo+k) (lo+l);pure (ForInStep.yield (none,()))) _ _
      rw [moveDown'_eq]
      have hks:lo+k < (arrOf st'').size:=by rw [hB'.size];exact hk
      have ed:lo+k - (lo+l)=k - l:=by exact aO 0xf118f1008ff1108f10008fff181f1810ff108ff432ff21020a10a0 rfl
      rw [ed]
      refine wpS_bind (wpS_modify (wpS_pure ⟨rfl,hB'.set (bubble_perm _ _ _),?_,a1.trans (same_bubble hks (by exact aO 0xf1102a30ff101 rfl) (by exact aO 0xf10011400ff310a1211 rfl) (by exact aO 0xf1112a02a1f101f rfl hkn)),a2,a3⟩))
      rw [show min (k+1) n=k+1 by exact aF 0xf1101f101ff118f108ff180a22f101f1180a3 rfl hkn]
      intro i j hi hij hj
      show O.kle (kk ky (bubble (arrOf st'') (lo+k) (k - l)) i) (kk ky (bubble (arrOf st'') (lo+k) (k - l)) j)
      rw [kk_bubble hks (by exact aO 0xf1102a30ff101 rfl),kk_bubble hks (by exact aO 0xf1102a30ff101 rfl),show lo+k - (k - l)=lo+l by exact aO 0xf1000118f11001108ff10001108f110011008fff1018f108ff02a42f352100f02a12a0312a0011 rfl hlk ed]
      have lo':∀ i,lo≤i→i < lo+l→O.kle (kk ky (arrOf st'') i) (kk ky (arrOf st'') (lo+k)):=fun i h1 h2=>by have:=hlo (i - lo) (by exact aO 0xf1018f11108f231f20a11100f010 rfl h1 h2);rwa [show lo+(i - lo)=i by exact aF 0xf11f110ff18f1108ff120a2f100f010 rfl h1] at this
      have hi':∀ i,lo+l≤i→i < lo+k→O.klt (kk ky (arrOf st'') (lo+k)) (kk ky (arrOf st'') i):=fun i h1 h2=>by have:=hhi (i - lo) (by exact aO 0xf1101310f210a0f021 rfl h1) (by exact bF 0xf1018f11108f341f30a21210a0f020 rfl h1 h2);rwa [show lo+(i - lo)=i by exact aO 0xf11f110ff18f1108ff230a2f210a0f020 rfl h1] at this
      repeat' split
      all_goals first
        | (exfalso;lia)
        | exact KeyOrd.kle_refl _
        | exact lo' _ (by lia) (by lia)
        | exact KeyOrd.kle_of_klt (hi' _ (by lia) (by lia))
        | exact hs' _ _ (by lia) (by lia) (by lia)
end
section
variable {O:KeyOrd} {ky:Keyed→O.α} {M:Model} {A:Around} {E:Value→Shared→Prop} {s:Shared} {a₀:Array Keyed} {κ:SortKind}
theorem runs64 {st:SortSt} {Q:Unit→SortSt→Prop} (hC:Cmp M A s ky a₀ κ) (hB:SB a₀ κ st) (hp:pendingOf st=#[]) (h2:2≤a₀.size) (h64:a₀.size < 64)
    (h:∀ st',SB a₀ κ st'→SegS ky (arrOf st') 0 a₀.size→Q () st'):wpS M A E s sortRuns' Q st:=by
  rw [sortRuns'_eq]
  refine wpS_bind (wpS_get ?_)
  dsimp only
  have hmr:minRun' a₀.size a₀.size 0=a₀.size:=by
    obtain ⟨f,hf⟩:∃ f,a₀.size=f+1:=⟨a₀.size - 1,by exact aQ 0xf18f1108ff11f110ff181a02f0280f1800 rfl h2⟩
    have:minRun' (f+1) a₀.size 0=a₀.size:=by rw [minRun'_succ,if_pos h64];rfl
    rwa [← hf] at this
  simp only [hB.size,hmr]
  refine wpS_bind (wpS_mono (wpS_forRange
    (I:=fun x c st'=>(x=0∧c=(none,0)∧SB a₀ κ st'∧pendingOf st'=#[])∨(1≤x∧c=(none,a₀.size)∧SB a₀ κ st'∧SegS ky (arrOf st') 0 a₀.size∧pendingOf st'=#[(0,a₀.size,0)]))
    (Q:=fun c st'=>c=(none,a₀.size)∧SB a₀ κ st'∧SegS ky (arrOf st') 0 a₀.size∧pendingOf st'=#[(0,a₀.size,0)]) ?step ?fin (.inl ⟨rfl,rfl,hB,hp⟩)) ?post)
  case fin =>
    rintro c st' (⟨hx,_⟩ | ⟨_,hc⟩)
    · exact (aQ 0xf8101f110f9f08120280f0084 rfl h2 hx).elim
    · exact hc
  case step =>
    rintro x c st' _ hx (⟨rfl,rfl,hB',hp'⟩ | ⟨hx1,rfl,hD⟩)
    · dsimp only
      rw [if_neg (by exact aQ 0xf1108006f0280f rfl h2)]
      simp only [Nat.sub_zero,Nat.min_self,Nat.zero_add]
      refine wpS_bind (count_wp hC (by exact aQ 0xf10008a0ff rfl) (by exact aQ 0xf110180f0280f rfl h2) hB' fun m st2 hB2 hm1 hm2 hs2 _ hp2 _=>?_)
      dsimp only
      have fin:∀ st3,SB a₀ κ st3→SegS ky (arrOf st3) 0 a₀.size→pendingOf st3=#[]→SB a₀ κ (setPending st3 ((pendingOf st3).push (0,a₀.size,0)))∧SegS ky (arrOf (setPending st3 ((pendingOf st3).push (0,a₀.size,0)))) 0 a₀.size∧pendingOf (setPending st3 ((pendingOf st3).push (0,a₀.size,0)))=#[(0,a₀.size,0)]:=fun st3 b s p =>
        ⟨⟨b.perm,b.kind,b.failed⟩,s,by show (pendingOf st3).push _=_;rw [p];rfl⟩
      by_cases hlt:m < a₀.size
      · rw [if_pos hlt]
        refine wpS_bind (wpS_lift (wpAny_rule ⟨rfl,?_⟩))
        refine wpS_bind (bin_wp hC (by exact aQ 0xf10008a0ff rfl) hm2 hB2 hs2 fun st3 hB3 hs3 _ hp3 _=>?_)
        simp only [Bool.not_true,Bool.false_eq_true,if_false]
        refine wpS_bind (wpS_get ?_)
        have hb:(pendingOf st3).back?=none:=by rw [hp3,hp2,hp'];rfl
        rw [hb]
        dsimp only
        exact wpS_bind (wpS_modify (wpS_pure (.inr ⟨by exact lqx [] [] 0xf118180ff rfl,rfl,fin st3 hB3 hs3 (by rw [hp3,hp2,hp'])⟩)))
      · rw [if_neg hlt]
        have hm:m=a₀.size:=by exact aF 0xf101f11f102f1016100f rfl hm2 hlt
        subst hm
        refine wpS_bind (wpS_get ?_)
        have hb:(pendingOf st2).back?=none:=by rw [hp2,hp'];rfl
        rw [hb]
        dsimp only
        exact wpS_bind (wpS_modify (wpS_pure (.inr ⟨by exact lqx [] [] 0xf118180ff rfl,rfl,fin st2 hB2 hs2 (by rw [hp2,hp'])⟩)))
    · dsimp only
      rw [if_pos (Nat.le_refl _)]
      exact wpS_pure ⟨rfl,hD⟩
  case post =>
    rintro c st' ⟨rfl,hD⟩
    dsimp only
    refine wpS_bind (wpS_mono (wpS_forRange (I:=fun _ c st''=>st''=st'∧c=(none,())) (Q:=fun c st''=>st''=st'∧c=(none,())) ?_ (fun _ _ hh=>hh) ⟨rfl,rfl⟩) ?_)
    · rintro x c st'' _ _ ⟨rfl,rfl⟩
      refine wpS_bind (wpS_get ?_)
      rw [if_pos (by rw [hD.2.2];exact Nat.le_refl 1)]
      exact wpS_pure ⟨rfl,rfl⟩
    · rintro c st'' ⟨rfl,rfl⟩
      exact wpS_pure (h _ hD.1 hD.2.1)
end
section
variable {prog:Program} {w:World} {A:Around} {E:Value→Shared→Prop} {s:Shared} {O:KeyOrd} {ky:Keyed→O.α} {κ:SortKind}
theorem sort_list {a:Addr} {vs:List Value} {n:Nat} {P:Fin→Shared→Prop} (ho:s.heap.get? a=some { cls:=.type "list",data:=.seq vs.toArray n }) (h64:vs.length < 64)
    (hk:2≤vs.length→∀ s':Shared,(∀ b o,b ≠ a→s.heap.get? b=some o→s'.heap.get? b=some o)→∀ (Q:SortKind→Shared→Prop),Q κ s'→wpAny (model prog w) A (keyKind' vs.toArray) Q E s')
    (hC:∀ s':Shared,(∀ b o,b ≠ a→s.heap.get? b=some o→s'.heap.get? b=some o)→Cmp (model prog w) A s' ky (pairsOf vs) κ)
    (h:∀ h' (xs:Array Keyed) n',(∀ b o,b ≠ a→s.heap.get? b=some o→h'.get? b=some o)→h'.get? a=some { cls:=.type "list",data:=.seq (xs.map (·.2)) n' }→xs.Perm (pairsOf vs)→SegS ky xs 0 vs.length→P (.done (.ret .none)) { s with heap:=h' }) :
    wpAny (model prog w) A (Builtin.«list.sort» ⟨[.ref a],[]⟩) P E s:=by
  rw [list_sort_plain]
  have ha:a < s.heap.objs.size:=Heap.lt_size ho
  have keeps:∀ b o,b ≠ a→s.heap.get? b=some o→(((s.heap.update a (Obj.mapSeq fun _=>#[])).push (seqObj "tuple" vs.toArray 0)).push (seqObj "list" #[] 0)).get? b=some o:=fun b o hb e =>
    Heap.get?_push_of_some _ (Heap.get?_push_of_some _ ((Heap.get?_update_ne _ _ _ _ hb).trans e))
  have fin:∀ st':SortSt,(arrOf st').Perm (pairsOf vs)→SegS ky (arrOf st') 0 vs.length→P (.done (.ret .none)) { s with heap:=sortedHeap s.heap a vs ((arrOf st').map (·.2)) }:=fun st' hp hs=>by
    obtain ⟨e,he⟩:=sortedHeap_at (out:=(arrOf st').map (·.2)) ho
    exact h _ (arrOf st') e (fun b o hb eb=>by rw [sortedHeap_old hb (Heap.lt_size eb)];exact eb) he hp hs
  refine wpAny_bind (listItems_at ho rfl ?_)
  refine wpAny_bind (listUpdate_at ho rfl ?_ (hsz:=by show vs.toArray.size≤_;simp;rw [sizeLine_eq];exact aQ 0xf1110000005900f400901f rfl h64))
  obtain ⟨e1,ho1⟩:∃ e1,(s.heap.update a (Obj.mapSeq fun _=>#[])).get? a=some (seqObj "list" #[] e1):=⟨_,get?_update_seq ho (fun _=>#[])⟩
  refine wpAny_bind (seqEpoch_at ho1 rfl ?_)
  refine wpAny_bind (wpAny_newTuple ?_ (hsz:=by simp;rw [sizeLine_eq];exact aQ 0xf1110000005900f400901f rfl h64))
  refine wpAny_bind (wpAny_newList ?_)
  refine wpAny_holding ?_
  have ho6:(((s.heap.update a (Obj.mapSeq fun _=>#[])).push (seqObj "tuple" vs.toArray 0)).push (seqObj "list" #[] 0)).get? a=some (seqObj "list" #[] e1):=by
    rw [Heap.get?_push_ne _ _ _ (by rw [size_push',Heap.size_update];exact Nat.ne_of_lt (Nat.lt_succ_of_lt ha)),Heap.get?_push_ne _ _ _ (by rw [Heap.size_update];exact Nat.ne_of_lt ha)]
    exact ho1
  show wpAny (model prog w) A _ P E { s with heap:=((s.heap.update a (Obj.mapSeq fun _=>#[])).push (seqObj "tuple" vs.toArray 0)).push (seqObj "list" #[] 0) }
  dsimp only
  have hsz:vs.toArray.size=vs.length:=by simp
  by_cases h2:vs.toArray.size < 2
  · rw [if_pos h2,if_pos h2]
    refine wpAny_bind (wpAny_pure ?_)
    rw [StateT.run_pure]
    refine wpAny_bind (wpAny_pure ?_)
    dsimp only
    refine wpAny_bind (seqEpoch_at ho6 rfl ?_)
    refine wpAny_bind (listUpdate_at ho6 rfl ?_ (hsz2:=by rw [Array.size_map];show (pairsOf vs).size≤_;rw [pairsOf_size,sizeLine_eq];exact aQ 0xf1118100000059a00f400901f rfl h64))
    simp only [bne_self_eq_false,Bool.false_eq_true,if_false]
    refine wpAny_pure (fin (SortSt.mk' general' (vs.toArray.zip vs.toArray) #[] 7 none) (Array.Perm.refl _) ?_)
    intro i j _ hij hj
    have:i=j:=by exact bF 0xf10111f1001f322f108a313202801102f rfl hsz h2 hij hj
    subst this;exact KeyOrd.kle_refl _
  · rw [if_neg h2,if_neg h2]
    refine wpAny_bind (hk (by exact aF 0xf1811280f28016102f rfl hsz h2) { s with heap:=((s.heap.update a (Obj.mapSeq fun _=>#[])).push (seqObj "tuple" vs.toArray 0)).push (seqObj "list" #[] 0) } keeps _ ?_)
    refine wpAny_bind (wpAny_mono (runs64 (ky:=ky) (κ:=κ) (a₀:=pairsOf vs) (st:=SortSt.mk' κ (vs.toArray.zip vs.toArray) #[] 7 none)
      (Q:=fun _ st'=>(arrOf st').Perm (pairsOf vs)∧failedOf st'=none∧SegS ky (arrOf st') 0 vs.length)
      (hC _ keeps) ⟨Array.Perm.refl _,rfl,rfl⟩ rfl (by rw [pairsOf_size];exact aF 0xf1811280f28016102f rfl hsz h2) (by rw [pairsOf_size];exact h64) fun st' b1 b2=>⟨b1.perm,b1.failed,by rw [pairsOf_size] at b2;exact b2⟩) ?_ fun _ _ e=>e)
    rintro ⟨⟨⟩,st'⟩ s' ⟨rfl,hp,hf,hs⟩
    dsimp only
    refine wpAny_bind (seqEpoch_at ho6 rfl ?_)
    refine wpAny_bind (listUpdate_at ho6 rfl ?_ (hsz2:=by refine Nat.le_trans (Nat.le_of_eq ((Array.size_map ..).trans (hp.size_eq.trans (pairsOf_size _)))) ?_;rw [sizeLine_eq];exact aQ 0xf1118100000059a00f400901f rfl h64))
    rw [hf]
    simp only [bne_self_eq_false,Bool.false_eq_true,if_false]
    exact wpAny_pure (fin st' hp hs)
end
noncomputable def bM:List Int→List Int→Bool
  | [],[]=>false
  | [],_ :: _=>true
  | _ :: _,[]=>false
  | a :: as,b :: bs=>if a=b then bM as bs else decide (a < b)
theorem lexlt_irrefl:∀ a,bM a a=false
  | []=>rfl
  | a :: as=>by unfold bM;rw [if_pos rfl];exact lexlt_irrefl as
theorem lexlt_trans:∀ a b c,bM a b=true→bM b c=true→bM a c=true
  | [],[],c,h,_=>by cases h
  | [],b :: bs,[],_,h=>by cases h
  | [],b :: bs,c :: cs,_,_=>rfl
  | a :: as,[],c,h,_=>by cases h
  | a :: as,b :: bs,[],_,h=>by cases h
  | a :: as,b :: bs,c :: cs,h,g=>by
    unfold bM at h g ⊢
    by_cases e1:a=b
    · subst e1
      rw [if_pos rfl] at h
      by_cases e2:a=c
      · subst e2;rw [if_pos rfl] at g ⊢;exact lexlt_trans _ _ _ h g
      · rw [if_neg e2] at g ⊢;exact g
    · rw [if_neg e1] at h
      have h':=of_decide_eq_true h
      by_cases e2:b=c
      · subst e2;rw [if_neg e1];exact h
      · rw [if_neg e2] at g
        have g':=of_decide_eq_true g
        rw [if_neg (by exact lqx [] [_,_,_] 0xf1112056f214104f rfl h' g')];exact decide_eq_true (by exact lqx [] [_,_,_] 0xf111204f214104f rfl h' g')
theorem lexlt_neg:∀ a b c,bM a c=true→bM a b=true∨bM b c=true
  | [],[],c,h=>.inr h
  | [],b :: bs,c,_=>.inl rfl
  | a :: as,b,[],h=>by cases h
  | a :: as,[],c :: cs,_=>.inr rfl
  | a :: as,b :: bs,c :: cs,h=>by
    unfold bM at h ⊢
    by_cases e1:a=b
    · subst e1
      rw [if_pos rfl]
      by_cases e2:a=c
      · subst e2;rw [if_pos rfl] at h ⊢;exact lexlt_neg _ _ _ h
      · rw [if_neg e2] at h ⊢;exact .inr h
    · rw [if_neg e1]
      by_cases e2:b=c
      · subst e2;rw [if_pos rfl];rw [if_neg e1] at h;exact .inl h
      · rw [if_neg e2]
        by_cases hab:a < b
        · exact .inl (decide_eq_true hab)
        · refine .inr (decide_eq_true ?_)
          by_cases e3:a=c
          · exact lqx [] [_,_,_] 0xf101f8011f214f10562051046f rfl hab e3 e1
          · rw [if_neg e3] at h;have:=of_decide_eq_true h;exact lqx [] [_,_,_] 0xf111214f2041046f rfl hab this
theorem lexlt_total:∀ a b,bM a b=false→bM b a=false→a=b
  | [],[],_,_=>rfl
  | [],b :: bs,h,_=>by cases h
  | a :: as,[],_,h=>by cases h
  | a :: as,b :: bs,h,g=>by
    unfold bM at h g
    by_cases e:a=b
    · subst e;rw [if_pos rfl] at h g;rw [lexlt_total _ _ h g]
    · rw [if_neg e] at h;rw [if_neg (fun x=>e x.symm)] at g
      have h':=of_decide_eq_false h;have g':=of_decide_eq_false g
      exact (lqx [] [_,_] 0xf11f101f9f105601461046f rfl h' g' e).elim
noncomputable def lexOrd:KeyOrd:=⟨List Int,bM,lexlt_irrefl,lexlt_trans,lexlt_neg,lexlt_total⟩

theorem tlt_eq (args:Args):Builtin.«tuple.__lt__» args=(do
    let (a,[b]) ← slotArgs "__lt__" 1 args | unsupported "internal:tuple.compare"
    if !(← isInstance b (.type "tuple")) then return ← ret .notImplemented
    let xs ← Builtin.Tuple.tupleItemsOf a
    let ys ← Builtin.Tuple.tupleItemsOf b
    for (x,y) in xs.toList.zip ys.toList do
      if !(← eqBool x y) then
        rule "tuple.compare.by-the-first-pair-that-differs";return ← ret (← richCompare .Lt x y)
    ret (Builtin.Tuple.tupleCompareSizes .Lt xs.size ys.size)):=rfl
section
variable {prog:Program} {w:World} {A:Around} {E:Value→Shared→Prop} {s:Shared}
theorem rich_lt_int {a b:Int} {t u:Tok} {Q:Value→Shared→Prop} (h:Q (.bool (decide (a < b))) s):wpAny (model prog w) A (richCompare .Lt (.int a t) (.int b u)) Q E s :=
  wpAny_richCompare_same (typeIs_int s a t) (typeIs_int s b u) slot_int_lt (call_int_lt ⟨by simp,h⟩)
theorem tlt_loop {f:Value×Value→Option Fin×Unit→Sem (ForInStep (Option Fin×Unit))}
    (hf:∀ x y c,f (x,y) c=(do
      let b ← eqBool x y
      if (!b)=true then do
        rule "tuple.compare.by-the-first-pair-that-differs"
        let r ← richCompare .Lt x y
        let r ← ret r
        pure (.done (some r,()))
      else pure (.yield (none,())))) {Q:Option Fin×Unit→Shared→Prop} :
    ∀ {vs ws:List Value} {ns ms:List Int},IntsAre vs ns→IntsAre ws ms→(Q (none,()) s→True) →
      (∀ r,(r=(none,())∧bM ns ms=decide (ns.length < ms.length))∨r=(some (.done (.ret (.bool (bM ns ms)))),())→Q r s)→wpAny (model prog w) A (forIn (vs.zip ws) ((none,()):Option Fin×Unit) f) Q E s
  | _,_,_,_,.nil,.nil,_,h=>by rw [List.zip_nil_left,List.forIn_nil];exact wpAny_pure (h _ (.inl ⟨rfl,rfl⟩))
  | _,_,_,_,.nil,.cons m u gs,_,h=>by rw [List.zip_nil_left,List.forIn_nil];exact wpAny_pure (h _ (.inl ⟨rfl,by simp [bM]⟩))
  | _,_,_,_,.cons n t hs,.nil,_,h=>by rw [List.zip_nil_right,List.forIn_nil];exact wpAny_pure (h _ (.inl ⟨rfl,by simp [bM]⟩))
  | _,_,_,_,.cons n t hs,.cons m u gs,_,h=>by
    rw [List.zip_cons_cons,List.forIn_cons,hf]
    refine wpAny_bind (wpAny_bind (wpAny_eqBool_int ?_))
    by_cases e:n=m
    · subst e
      rw [if_neg (by simp)]
      refine wpAny_pure ?_
      refine tlt_loop hf hs gs (fun _=>trivial) fun r hr=>h r ?_
      unfold bM
      rw [if_pos rfl]
      simpa using hr
    · rw [if_pos (by simpa using e)]
      refine wpAny_bind (wpAny_rule (wpAny_bind (rich_lt_int ?_)))
      refine wpAny_bind (wpAny_pure (wpAny_pure (wpAny_pure (h _ (.inr ?_)))))
      unfold bM
      rw [if_neg e]
theorem tlt_run {a b:Addr} {o o':Obj} {vs ws:Array Value} {n n':Nat} {ns ms:List Int} {P:Fin→Shared→Prop} (ho:s.heap.get? a=some o) (hd:o.data=.seq vs n) (ho':s.heap.get? b=some o') (hd':o'.data=.seq ws n') (hi:Looks (model prog w) s.heap (isInstance (.ref b) (.type "tuple")) true)
    (hv:IntsAre vs.toList ns) (hw:IntsAre ws.toList ms) (h:P (.done (.ret (.bool (bM ns ms)))) s):wpAny (model prog w) A (Builtin.«tuple.__lt__» ⟨[.ref a,.ref b],[]⟩) P E s:=by
  rw [tlt_eq]
  refine wpAny_bind (wpAny_of_eq (a:=(.ref a,[.ref b])) (by first | rfl | kernel_rfl) ?_)
  dsimp only
  refine wpAny_bind (hi.here ?_)
  simp only [Bool.not_true,Bool.false_eq_true,if_false]
  refine wpAny_bind (wpAny_tupleItemsOf ho hd (wpAny_bind (wpAny_tupleItemsOf ho' hd' ?_)))
  refine wpAny_bind (tlt_loop ?_ hv hw (fun _=>trivial) fun r hr=>?_)
  · intro x y c;rfl
  · rcases hr with ⟨rfl,e⟩ | rfl
    · dsimp only
      refine wpAny_pure ?_
      rw [e] at h
      have l1:=hv.length;have l2:=hw.length
      rw [Array.length_toList] at l1 l2
      unfold Builtin.Tuple.tupleCompareSizes
      rw [l1,l2];exact h
    · exact wpAny_pure h
end
noncomputable abbrev T3:=Nat×Nat×Nat
noncomputable def mt3 (t:T3):PyData:=mtd t.1 t.2.1 t.2.2
noncomputable def key3 (t:T3):List Int:=[t.1,t.2.1,t.2.2]
noncomputable def intOf:Value→Int
  | .int i _=>i
  | _=>0
noncomputable def keyAt (h:Heap) (x:Keyed):List Int:=match x.1 with
  | .ref a=>match h.get? a with
    | some o=>match o.data with
      | .seq vs _=>vs.toList.map intOf
      | _=>[]
    | none=>[]
  | _=>[]
theorem mapM_looks {M:Model} {h:Heap} {α β:Type} {f:α→Sem β} {g:α→β}:∀ {vs:List α},(∀ v∈vs,Looks M h (f v) (g v))→Looks M h (vs.mapM f) (vs.map g)
  | [],_=>by rw [List.mapM_nil];exact .now
  | v :: vs,hv=>by
    rw [List.mapM_cons]
    exact (hv v List.mem_cons_self).andThen ((mapM_looks fun u hu=>hv u (List.mem_cons_of_mem _ hu)).andThen .now)
noncomputable def IsMt (h:Heap) (v:Value):Prop:=∃ l dd xs n ns,v=.ref l∧h.get? l=some { cls:=.ref 135,dict:=dd,data:=.seq xs n }∧IntsAre xs.toList ns
section
variable {prog:Program} {w:World} {A:Around} {E:Value→Shared→Prop} {s:Shared}
theorem IsMt.typ {h:Heap} {v:Value} (m:IsMt h v):Looks (model prog w) h (typeOf v) (.ref 135):=by
  obtain ⟨l,dd,xs,n,ns,rfl,g,_⟩:=m
  exact (Looks.ld g).andThen .now
theorem first_mt {h:Heap} {v:Value} (m:IsMt h v):Looks (model prog w) h (firstOfTuple' v) none:=by
  show Looks _ _ (do
    if (← typeOf v) != .type "tuple" then return none
    return (← Builtin.List.listItems v)[0]?) _
  refine m.typ.andThen ?_
  rw [if_pos (by decide)]
  exact .now
theorem kind_mt {h:Heap} {vs:List Value} (hv:∀ v∈vs,IsMt h v) (h2:2≤vs.length):Looks (model prog w) h (keyKind' vs.toArray) oneType':=by
  rw [keyKind'_eq,List.mapM_toArray]
  have m1:Looks (model prog w) h (List.toArray <$> List.mapM firstOfTuple' vs) (vs.map fun _=>none).toArray:=by
    rw [map_eq_pure_bind]
    exact (mapM_looks fun v hm=>first_mt (hv v hm)).andThen .now
  refine m1.andThen ?_
  obtain ⟨v,us,rfl⟩:∃ v us,vs=v :: us:=by cases vs with | nil=>simp at h2 | cons v us=>exact ⟨v,us,rfl⟩
  rw [if_neg (by simp),if_neg (by simp)]
  have m2:Looks (model prog w) h (oneTypeOnly' (v :: us).toArray) (some (.ref 135)):=by
    rw [oneTypeOnly'_eq,List.mapM_toArray]
    have m3:Looks (model prog w) h (List.toArray <$> List.mapM typeOf (v :: us)) ((v :: us).map fun _=>Value.ref 135).toArray:=by
      rw [map_eq_pure_bind]
      exact (mapM_looks fun v hm=>(hv v hm).typ).andThen .now
    refine m3.andThen ?_
    simp only [List.map_cons,List.getElem?_toArray,List.getElem?_cons_zero]
    rw [if_pos (by simp)]
    exact .now
  refine m2.andThen ?_
  exact .now
theorem tl_kind:builtinKind "tuple.__lt__"=some .slot:=by decide +kernel
theorem tl_split:splitId "tuple.__lt__"=some ("tuple","__lt__"):=by decide +kernel
theorem intOf_ints:∀ {vs:List Value} {ns:List Int},IntsAre vs ns→vs.map intOf=ns
  | _,_,.nil=>rfl
  | _,_,.cons n t h=>by rw [List.map_cons,intOf_ints h];rfl
theorem cmp_mt {a₀:Array Keyed} (L:ML (model prog w) s.heap) (hu:A.units < cLine) (hv:∀ x∈a₀.toList,IsMt s.heap x.1):Cmp (O:=lexOrd) (model prog w) A s (keyAt s.heap) a₀ oneType':=by
  intro x y hx hy Q E' h
  obtain ⟨x1,x2⟩:=x
  obtain ⟨y1,y2⟩:=y
  obtain ⟨l,dd,xs,n,ns,e1,g1,i1⟩:=hv _ hx
  obtain ⟨m,dd',ys,n',ms,e2,g2,i2⟩:=hv _ hy
  dsimp only at e1 e2
  subst e1 e2
  have k1:keyAt s.heap (.ref l,x2)=ns:=by unfold keyAt;simp only [g1,intOf_ints i1]
  have k2:keyAt s.heap (.ref m,y2)=ms:=by unfold keyAt;simp only [g2,intOf_ints i2]
  rw [k1,k2] at h
  have h':Q (bM ns ms) s:=h
  have t1:Looks (model prog w) s.heap (typeOf (.ref l)) (.ref 135):=(Looks.ld g1).andThen .now
  have t2:Looks (model prog w) s.heap (typeOf (.ref m)) (.ref 135):=(Looks.ld g2).andThen .now
  dsimp only
  rw [keyLt'_oneType,oneLt'_eq]
  simp only [if_true]
  refine wpAny_bind (wpAny_cRoomFor hu ?_)
  refine wpAny_bind ?_
  unfold callSpecialIfBound?
  refine wpAny_holding (wpAny_bind (bind_bound (t1.andThen L.ltm) (PySem.F.slot_tuple_lt.bind (.ref l)) ?_))
  dsimp only
  refine wpAny_bind (wpAny_call (slot_callB PySem.F.slot_tuple_lt.plain PySem.F.entry_tuple_lt tl_kind tl_split (t1.andThen L.tup) (PySem.F.args_tuple_lt_2 _ _) ?_))
  refine tlt_run g1 rfl g2 rfl (t2.andThen L.tup) i1 i2 ?_
  refine wpAny_pure ?_
  dsimp only
  exact wpAny_truthy_bool h'
end
section
variable {X:Cx} {k:Nat} {env:Env} {ρ:List (Str×B)} {Q:Fl→List (Str×B)→Prop}
theorem Rel.turnX {bad:Addr→Prop} {O:Str→Option Addr} {s:Shared} {x:Str} {l:Addr} {ds ds':List PyData} {vs':Array Value} {n':Nat} {h':Heap} {t:Nat} (r:Rel X bad O env ρ s) (hx:ρ.lookup x=some (.own ds)) (ho:O x=some l)
    (hs:∀ b o,b ≠ l→s.heap.get? b=some o→h'.get? b=some o) (hg:h'.get? l=some { cls:=.type "list",data:=.seq vs' n' }) (q:RepL (aS bad O) s.heap ds' vs'.toList) :
    Step env O O s { s with heap:=h',toks:=t }∧Rel X bad O env (put ρ x (.own ds')) { s with heap:=h',toks:=t }:=by
  obtain ⟨l₀,vs,n,ho',lk,g,_⟩:=r.own x ds hx
  obtain rfl:l₀=l:=Option.some.inj (ho'.symm.trans ho)
  have x1:Ext s { s with heap:=h'.update l₀ fun _=>{ cls:=.type "list",data:=.seq vs n } }:=⟨fun b o e=>by
    by_cases hb:b=l₀
    · subst hb
      rw [g] at e;cases e
      exact Heap.get?_update_self _ hg rfl
    · exact (Heap.get?_update_ne _ _ _ _ hb).trans (hs b o hb e),rfl,rfl⟩
  have sb:=Heap.SameBut.update h' l₀ fun _=>({ cls:=.type "list",data:=.seq vs n }:Obj)
  have sb':Heap.SameBut l₀ (h'.update l₀ fun _=>{ cls:=.type "list",data:=.seq vs n }) h':=⟨sb.1.symm,fun b hb=>(sb.2 b hb).symm⟩
  obtain ⟨st,r2⟩:=(r.ext x1).turn (t:=t) hx ho sb' hg (q.ext x1)
  exact ⟨(Step.of_ext x1).trans st,r2⟩
theorem method0_use {pl:Sem Bool} {x:Str} {name:Str} {id:String} {px apos cpos:Pos} {ds:List PyData} {A:Around} {bad:Addr→Prop} {O:Str→Option Addr} {s:Shared} {P:Value→Shared→Prop} (r:Rel X bad O env ρ s) (hx:ρ.lookup x=some (.own ds)) (slot:Slot "list" name id) (hty:typeOf (.builtin id)=pure (.type "method_descriptor"))
    (h:∀ l vs n,O x=some l→s.heap.get? l=some { cls:=.type "list",data:=.seq vs n }→RepL (aS bad O) s.heap ds vs.toList→wpAny (model X.prog X.w) A (call (.builtin id) [.ref l]) P noE s) (hd:(x == ("__debug__":Str))=false:=by decide)
    (he:eval (.Call (.Attribute (.Name x px) name apos) [] [] cpos) env=(do
      let ov ← eval (.Name x px) env
      standAt apos.atName
      let (f,first) ← holding [ov] (getMethod ov name pl)
      callWith cpos f first (backTo cpos (starEach [] env)) []):=by rfl):wpAny (model X.prog X.w) A (eval (.Call (.Attribute (.Name x px) name apos) [] [] cpos) env) P noE s:=by
  obtain ⟨l,vs,n,ho,lk,g,q⟩:=own_at r hx
  refine MethodCall_ (wpAny_Name (Lk.load r.ok.kind lk ?_) hd) he
  exact getMethod_list_of slot hty ⟨_,g,rfl,_,rfl⟩ ⟨_,g,rfl⟩ (callWith_method0 (h l vs n ho g q))
theorem RepL.perm {bad:Addr→Prop} {h:Heap} {vs vs':List Value} (p:vs'.Perm vs):∀ {ms:List T3},RepL bad h (ms.map mt3) vs→∃ ms':List T3,ms'.Perm ms∧RepL bad h (ms'.map mt3) vs':=by
  induction p with
  | nil=>intro ms q;exact ⟨ms,.refl _,q⟩
  | cons x p ih =>
    intro ms q
    cases ms with
    | nil=>cases q
    | cons m ms =>
      cases q with
      | cons a b =>
        obtain ⟨ms',h1,h2⟩:=ih b
        exact ⟨m :: ms',h1.cons _,.cons a h2⟩
  | swap x y l =>
    intro ms q
    cases ms with
    | nil=>cases q.inv0
    | cons m ms =>
    obtain ⟨_,_,e,a,q⟩:=RepL.inv q
    cases e
    cases ms with
    | nil=>cases q.inv0
    | cons m' ms =>
    obtain ⟨_,_,e,b,c⟩:=RepL.inv q
    cases e
    exact ⟨m' :: m :: ms,.swap _ _ _,.cons b (.cons a c)⟩
  | trans p1 p2 ih1 ih2 =>
    intro ms q
    obtain ⟨ms1,h1,q1⟩:=ih2 q
    obtain ⟨ms2,h2,q2⟩:=ih1 q1
    exact ⟨ms2,h2.trans h1,q2⟩
theorem Rep.invI {bad:Addr→Prop} {h:Heap} {i:Int} {v:Value} (q:Rep bad h (.int i) v):∃ t,v=.int i t:=by cases q;exact ⟨_,rfl⟩
theorem Rep.invB {bad:Addr→Prop} {h:Heap} {b:Bool} {v:Value} (q:Rep bad h (.bool b) v):v=.bool b:=by cases q;rfl
theorem Rep.invN {bad:Addr→Prop} {h:Heap} {v:Value} (q:Rep bad h .none v):v=.none:=by cases q;rfl
theorem RepL.ints {bad:Addr→Prop} {h:Heap}:∀ {ns:List Int} {vs:List Value},RepL bad h (ns.map .int) vs→IntsAre vs ns
  | [],_,q=>by rw [q.inv0];exact .nil
  | n :: ns,_,q=>by
    obtain ⟨v,vs,rfl,q1,q2⟩:=q.inv
    obtain ⟨t,rfl⟩:=q1.invI
    exact .cons _ _ (RepL.ints q2)
theorem RepL.ints3 {bad:Addr→Prop} {h:Heap} {a b c:Int} {L:List Value} (q:RepL bad h [.int a,.int b,.int c] L):IntsAre L [a,b,c]:=RepL.ints (ns:=[a,b,c]) q
theorem Rep.isMt {bad:Addr→Prop} {h:Heap} {t:T3} {v:Value} (q:Rep bad h (mt3 t) v):IsMt h v∧keyAt h (v,v)=key3 t∧∃ l,v=.ref l∧¬ bad l:=by
  unfold mt3 mtd at q
  refine q.mtE fun l dd vs n hb g qs=>?_
  have:IntsAre vs.toList (key3 t):=qs.ints3
  exact ⟨⟨l,dd,vs,n,_,rfl,g,this⟩,by unfold keyAt;simp only [g,intOf_ints this],l,rfl,hb⟩
theorem RepL.allMt {bad:Addr→Prop} {h:Heap} {ms:List T3}:∀ {vs:List Value},RepL bad h (ms.map mt3) vs→(∀ v∈vs,IsMt h v∧∃ l,v=.ref l∧¬ bad l)∧vs.map (fun v=>keyAt h (v,v))=ms.map key3:=by
  induction ms with
  | nil=>intro vs q;rw [q.inv0];exact ⟨fun v hv=>(List.not_mem_nil hv).elim,rfl⟩
  | cons m ms ih =>
    intro vs q
    obtain ⟨v,vs,rfl,a,b⟩:=RepL.inv q
    obtain ⟨h1,h2⟩:=ih b
    refine ⟨fun v hv=>?_,by rw [List.map_cons,List.map_cons,h2,a.isMt.2.1]⟩
    rcases List.mem_cons.mp hv with rfl | hv
    · exact ⟨a.isMt.1,a.isMt.2.2⟩
    · exact h1 v hv
noncomputable def le3 (a b:T3):Prop:=bM (key3 b) (key3 a)=false
theorem pairs_fst {vs:List Value}:∀ x∈(pairsOf vs).toList,x.1=x.2∧x.2∈vs:=by
  intro x hx
  have:x∈vs.zip vs:=by simpa [pairsOf] using hx
  obtain ⟨i,hi,e⟩:=List.mem_iff_getElem.mp this
  rw [List.getElem_zip] at e
  exact ⟨by rw [← e],by rw [← e];exact List.getElem_mem _⟩
theorem pairs_snd (vs:List Value):(pairsOf vs).toList.map (·.2)=vs:=by
  simp [pairsOf,List.map_snd_zip]
theorem ex_sort {pl:Sem Bool} {x:Str} {px apos cpos pos:Pos} {ms:List T3} (G:MF X) (hx:ρ.lookup x=some (.own (ms.map mt3))) (h64:ms.length < 64) (hq:∀ ms':List T3,ms'.Perm ms→ms'.Pairwise le3→Q .next (put ρ x (.own (ms'.map mt3)))) (hd:(x == ("__debug__":Str))=false:=by decide)
    (he:eval (.Call (.Attribute (.Name x px) "sort" apos) [] [] cpos) env=(do
      let ov ← eval (.Name x px) env
      standAt apos.atName
      let (f,first) ← holding [ov] (getMethod ov "sort" pl)
      callWith cpos f first (backTo cpos (starEach [] env)) []):=by rfl)
    (hi:interactive env=false:=by rfl) (hs:swapsWith (.Call (.Attribute (.Name x px) "sort" apos) [] [] cpos) none pos.line env=pure false:=by rfl) :
    Ex1 X (k+1) env ρ (.Expr (.Call (.Attribute (.Name x px) "sort" apos) [] [] cpos) pos) Q:=fun A bad O s R r=>by
  refine wpAny_Expr (method0_use r hx slot_list_sort PySem.F.type_list_sort (fun l vs n ho g q=>?_) hd he) hi hs
  obtain ⟨hall,hkeys⟩:=q.allMt
  have hl:vs.toList.length=ms.length:=by have:=q.length;rw [List.length_map] at this;exact aF 0xf81f11f012f102f rfl this
  have L:=G.looks (M:=model X.prog X.w) (r.wf.kin.keeps r.base)
  have hne:∀ v∈vs.toList,∃ m,v=.ref m∧m ≠ l:=fun v hv=>by
    obtain ⟨_,m,rfl,hb⟩:=hall v hv
    exact ⟨m,rfl,fun e=>hb (.inr ⟨x,e ▸ ho⟩)⟩
  have still:∀ h':Heap,(∀ b o,b ≠ l→s.heap.get? b=some o→h'.get? b=some o)→(∀ v∈vs.toList,IsMt h' v)∧ML (model X.prog X.w) h'∧∀ v∈vs.toList,∀ u,keyAt h' (v,u)=keyAt s.heap (v,u):=fun h' hk=>by
    have hkK:∀ b o,X.h₀.get? b=some o→h'.get? b=some o:=fun b o e=>hk b o (fun z=>(r.good x l ho).2.1 |> fun n0=>by rw [z,n0] at e;cases e) (r.base b o e)
    refine ⟨fun v hv=>?_,G.looks (r.wf.kin.keeps hkK),fun v hv u=>?_⟩
    · obtain ⟨⟨m,dd,xs,n',ns,rfl,gm,im⟩,_⟩:=hall v hv
      obtain ⟨m',e,hn⟩:=hne _ hv
      cases e
      exact ⟨m,dd,xs,n',ns,rfl,hk _ _ hn gm,im⟩
    · obtain ⟨⟨m,dd,xs,n',ns,rfl,gm,im⟩,_⟩:=hall v hv
      obtain ⟨m',e,hn⟩:=hne _ hv
      cases e
      unfold keyAt
      simp only [gm,hk _ _ hn gm]
  refine wpAny_call_entry slot_list_sort ⟨_,g,rfl⟩ entry_list_sort ?_ (args_list_sort _)
  have hu:A.in1.units < cLine:=by have:=R.in1.units;have c:cLine=9900:=rfl;exact aO 0xf111201f26ac2922232829164b0a0f rfl this c
  refine sort_list (κ:=oneType') (O:=lexOrd) (ky:=keyAt s.heap) (vs:=vs.toList) (n:=n) (by simpa using g) (by exact aF 0xf811400911f012400901f rfl h64 hl) (fun h2 s' hk Q' hQ'=>?_) (fun s' hk=>?_) fun h' xs n' hk hg' hp hsort=>?_
  · exact (kind_mt (still _ hk).1 h2).here hQ'
  · obtain ⟨c1,c2,c3⟩:=still _ hk
    intro a b ha hb Q' E' h'
    refine cmp_mt (a₀:=pairsOf vs.toList) c2 hu (fun p hp=>?_) a b ha hb Q' E' ?_
    · obtain ⟨e1,e2⟩:=pairs_fst p hp
      rw [e1];exact c1 _ e2
    · obtain ⟨a1,a2⟩:=pairs_fst a ha
      obtain ⟨b1,b2⟩:=pairs_fst b hb
      obtain ⟨x1,x2⟩:=a;obtain ⟨y1,y2⟩:=b
      dsimp only at a1 a2 b1 b2;subst a1 b1
      rw [c3 _ a2,c3 _ b2];exact h'
  · have pv:(xs.map (·.2)).toList.Perm vs.toList:=by
      have:=(Array.perm_iff_toList_perm.mp hp).map (·.2)
      rw [pairs_snd] at this
      simpa using this
    obtain ⟨ms',pm,q'⟩:=q.perm pv
    obtain ⟨st,r2⟩:=r.turnX (t:=s.toks) hx ho hk hg' q'
    refine ⟨.none,rfl,.next,_,O,hq ms' pm ?_,rfl,st,r2⟩
    obtain ⟨_,hkeys'⟩:=q'.allMt
    rw [List.pairwise_iff_getElem]
    intro i j hi hj hij
    have hxs:xs.size=ms'.length:=by
      have:=q'.length;rw [List.length_map] at this;rw [this];simp
    have kk':∀ i (hi:i < ms'.length),kk (O:=lexOrd) (keyAt s.heap) xs i=key3 ms'[i]:=fun i hi=>by
      have hi':i < xs.size:=by exact aO 0xf111021f121102f rfl hxs hi
      have hm:xs[i]∈(pairsOf vs.toList).toList:=(Array.perm_iff_toList_perm.mp hp).mem_iff.mp (by simp)
      obtain ⟨e1,e2⟩:=pairs_fst _ hm
      have:kk (O:=lexOrd) (keyAt s.heap) xs i=keyAt s.heap (xs[i].2,xs[i].2):=by
        unfold kk
        rw [Array.getD_eq_getD_getElem?,Array.getElem?_eq_getElem hi',Option.getD_some]
        unfold keyAt;rw [e1]
      rw [this]
      have h5:=congrArg (·[i]?) hkeys'
      simp only [List.getElem?_map,Array.toList_map,List.map_map] at h5
      rw [List.getElem?_eq_getElem (by simpa using hi'),List.getElem?_eq_getElem hi] at h5
      have h6:keyAt s.heap (xs[i].2,xs[i].2)=key3 ms'[i]:=by simpa using h5
      exact h6
    have:=hsort i j (Nat.zero_le _) (Nat.le_of_lt hij) (by have:=pv.length_eq;simp at this;simp;exact bF 0xf8111301f322122101f rfl hj hxs this)
    rw [kk' i hi,kk' j hj] at this
    exact this
end
theorem FInv.same {m:Mt} {alo ahi blo bhi:Nat} {P P':Nat→Nat→Prop} {bi bj bk:Nat} (h:FInv m alo ahi blo bhi P bi bj bk) (h1:∀ x y,P x y ↔ P' x y):FInv m alo ahi blo bhi P' bi bj bk:=h.skip (fun x y p=>(h1 x y).mp p) fun x y p=>.inl ((h1 x y).mpr p)
theorem best_cells {m:Mt} {alo ahi blo bhi i:Nat} (hi:alo≤i) (hi':i < ahi) (h0:∃ bi bj bk,FInv m alo ahi blo bhi (fun x y=>alo≤x∧x < i∧blo≤y∧y < bhi) bi bj bk):∀ c,blo+c≤bhi→∃ bi bj bk,FInv m alo ahi blo bhi (fun x y=>(alo≤x∧x < i∧blo≤y∧y < bhi)∨(x=i∧blo≤y∧y < blo+c)) bi bj bk
  | 0,_=>by
    obtain ⟨bi,bj,bk,h⟩:=h0
    exact ⟨bi,bj,bk,h.same fun x y=>⟨.inl,fun p=>p.elim id fun p=>by exact lq6 0xf11511100743173207f080a11100f rfl p.2.1 p.2.2⟩⟩
  | c+1,hc=>by
    obtain ⟨bi,bj,bk,h⟩:=best_cells hi hi' h0 c (by exact aO 0xf11210a0f2181a0a0f rfl hc)
    have hs:=h.step (i:=i) (j:=blo+c) hi hi' (by exact aF 0xf110a00ff rfl) (by exact aO 0xf11210a1f2181a0a0f rfl hc) fun x y p=>by exact lq7 0xf1100f100010ff11f1008f10010ff63a4121272118f63a41430721275414307211710078f rfl p
    have e:∀ x y,((alo≤x∧x < i∧blo≤y∧y < bhi)∨(x=i∧blo≤y∧y < blo+c))∨(x=i∧y=blo+c) ↔ (alo≤x∧x < i∧blo≤y∧y < bhi)∨(x=i∧blo≤y∧y < blo+(c+1)):=fun x y=>⟨fun p=>by exact lq7 0xf180f1100f101000ff1011f101f1010100f101000ff108f1010100f10010fff11f110f1010f10100ff101f1001f100100ff108f1008f10010fff180f1100f100010ff110f1010f100010ff11f108f1008f10010fff180f1100f100001ff110f1010f100001ff101f1001f100001ff111ff183a2a61620715274616207151750078f32a62152732a6162071527461620715175007884183a2a0100f rfl hi hc p,fun p=>by lia⟩
    split at hs
    · exact ⟨_,_,_,hs.same e⟩
    · exact ⟨_,_,_,hs.same e⟩
theorem best_rows {m:Mt} {alo ahi blo bhi:Nat} (h1:alo≤ahi) (h2:blo≤bhi):∀ r,alo+r≤ahi→∃ bi bj bk,FInv m alo ahi blo bhi (fun x y=>alo≤x∧x < alo+r∧blo≤y∧y < bhi) bi bj bk
  | 0,_=>⟨_,_,_,(FInv.start h1 h2).same fun x y=>⟨False.elim,fun p=>by exact aF 0xf119f080a11100f rfl p.1 p.2.1⟩⟩
  | r+1,hr=>by
    obtain ⟨bi,bj,bk,h⟩:=best_cells (m:=m) (i:=alo+r) (by exact aF 0xf110a00ff rfl) (by exact aO 0xf11210a1f2181a0a0f rfl hr) (best_rows h1 h2 r (by exact aO 0xf11210a0f2181a0a0f rfl hr)) (bhi - blo) (by exact aF 0xf18f1108f120a0f100f010 rfl h2)
    exact ⟨bi,bj,bk,h.same fun x y=>⟨fun p=>by exact lq6 0xf18100f101000ff8110f1001000fff10010f100100ff100010f1000100fff10008f100010ff100008f1000010fff10001f100001ff100001f1000001fff5414307182a0a1171007f63a41430720a127541430720a11710078f350 rfl p,fun p=>by exact lq6 0xf1000001f100001f10001001f1000001f11f100001ff1001f63a41430720a127541430720a11710078f541430182a0a11100f351 rfl p.1 p.2.1 p.2.2.1 p.2.2.2⟩⟩
theorem best_exists (m:Mt) {alo ahi blo bhi:Nat} (h1:alo≤ahi) (h2:blo≤bhi):∃ i j k,Best m alo ahi blo bhi i j k:=by
  obtain ⟨bi,bj,bk,h⟩:=best_rows (m:=m) h1 h2 (ahi - alo) (by exact aF 0xf18f1108f120a0f100f010 rfl h1)
  exact ⟨bi,bj,bk,(h.same fun x y=>⟨fun p=>by exact lq6 0xf10001f1001f1018f11008ff11f541430721171007f54143060a11100f020 rfl p.1 p.2.1 p.2.2.1 p.2.2.2,fun p=>by exact lq6 0xf1000001f100001f10101f1001f541430760a1171007f541430211100f021 rfl p.1 p.2.1 p.2.2.1 p.2.2.2⟩).finish⟩
theorem Exs.mono {X:Cx} {k:Nat} {env:Env} {ρ:List (Str×B)} {ss:List Stmt} {Q Q':Fl→List (Str×B)→Prop} (h:Exs X k env ρ ss Q) (g:∀ f ρ',Q f ρ'→Q' f ρ'):Exs X k env ρ ss Q':=fun A bad O s R r =>
  wpAny_mono (h A bad O s R r) (fun fl s' p=>let ⟨f,ρ',O',hq,rest⟩:=p;⟨f,ρ',O',g _ _ hq,rest⟩) fun _ _ x=>x
structure Mat (X:Cx) (h:Heap) (x dx:Addr) (m:Str→Option Value) (va vb:Value) (as bs:List Int):Prop where
  obj:h.get? x=some (instObj 242 dx)
  a:m "a"=some va
  ha:handedIn va=true
  b:m "b"=some vb
  hb:handedIn vb=true
  free:∀ f∈(["find_longest_match","get_matching_blocks","get_opcodes"]:List Str),m f=none
  rest:∃ d js led,m "b2j"=some (.ref d)∧m "bjunk"=some (.ref js)∧h.get? js=some { cls:=.type "set",dict:=.none,data:=.set #[] 0 (.fresh 0 0 led) }∧ChainD X h bs d
theorem ChainD.keeps {X:Cx} {h h':Heap} {bs:List Int} {d:Addr} (c:ChainD X h bs d) (k:∀ b o,h.get? b=some o→h'.get? b=some o):ChainD X h' bs d:=by
  obtain ⟨kvs,⟨o,es,ep,ho,rest⟩,h1,h2,h3⟩:=c
  refine ⟨kvs,⟨o,es,ep,k _ _ ho,rest⟩,h1,h2,fun x=>?_⟩
  rcases h3 x with ⟨v,l,ol,e1,e2,e3,e4⟩ | e
  · exact .inl ⟨v,l,ol,e1,e2,k _ _ e3,e4⟩
  · exact .inr e
theorem ChainD.on {X:Cx} {h g:Heap} {D:PyData→Value→Prop} {bs:List Int} {d:Addr} (c:ChainD X h bs d):ChainD (X.on g D) h bs d:=c
section
variable {X:Cx} {k:Nat} {env:Env} {ρ:List (Str×B)} {as bs:List Int} {va vb:Value} {alo ahi blo bhi i j n:Nat}
theorem ev_find (F:DF X) (G:MF X) {x dx:Addr} {m:Str→Option Value} {N:Nat} {y:Str} {yp apos pos:Pos} {pl:Sem Bool} {e1 e2 e3 e4:Expr} (hy:ρ.lookup y=some (.raw (.ref x))) (S:SelfD X ρ 242 x dx "#d" m N) (M:Mat X X.h₀ x dx m va vb as bs)
    (da:X.dat (.list (as.map .int)) va) (db:X.dat (.list (bs.map .int)) vb) (h1:alo≤ahi) (h2:ahi≤as.length) (h3:blo≤bhi) (h4:bhi≤bs.length) (hza:as.length+1≤sizeLine) (hz:bs.length+1≤sizeLine) (hB:Best (mm as bs) alo ahi blo bhi i j n)
    (hargs:EvL X (k+3) env ρ pos [e1,e2,e3,e4] [.int alo,.int ahi,.int blo,.int bhi])
    (he:eval (.Call (.Attribute (.Name y yp) "find_longest_match" apos) [e1,e2,e3,e4] [] pos) env=(do
      let ov ← eval (.Name y yp) env
      standAt apos.atName
      let (f,first) ← holding [ov] (getMethod ov "find_longest_match" pl)
      callWith pos f first (backTo pos (starEach [e1,e2,e3,e4] env)) []):=by rfl)
    (hst:starEach [e1,e2,e3,e4] env=(false,eval e1 env) :: starEach [e2,e3,e4] env:=by rfl)
    (hd:(y == ("__debug__":Str))=false:=by decide):Ev X (k+3) env ρ (.Call (.Attribute (.Name y yp) "find_longest_match" apos) [e1,e2,e3,e4] [] pos) (mtd i j n):=fun A bad O s R r=>by
  obtain ⟨cd,hC⟩:=F.cls
  obtain ⟨hf,ht,z,D⟩:=F.find
  obtain ⟨o,ho,hdat⟩:=D.obj
  refine mcall_use (Pa:=fun vs s'=>RepL (aS bad O) s'.heap [.int alo,.int ahi,.int blo,.int bhi] vs) R r hy S hC hf ht (M.free _ (by decide)) ho hdat (hargs A bad O s R r) (fun vs s1 x1 r1 q=>?_) he hst hd
  obtain ⟨_,_,rfl,q1,q⟩:=q.inv
  obtain ⟨_,_,rfl,q2,q⟩:=q.inv
  obtain ⟨_,_,rfl,q3,q⟩:=q.inv
  obtain ⟨_,_,rfl,q4,q⟩:=q.inv
  obtain rfl:=q.inv0
  obtain ⟨t1,rfl⟩:=q1.invI
  obtain ⟨t2,rfl⟩:=q2.invI
  obtain ⟨t3,rfl⟩:=q3.invI
  obtain ⟨t4,rfl⟩:=q4.invI
  refine wpAny_call (codeAny_mono (still_frame (bad:=aS bad O) (Dt:=fun d v=>(d=.list (as.map .int)∧v=va)∨(d=.list (bs.map .int)∧v=vb)) (P:=fun fl _=>fl=.ret (mtd i j n))
    (bs:=[.raw (.ref x),.val (.int alo),.val (.int ahi),.val (.int blo),.val (.int bhi)]) D (k:=k+2) R r1.at (badO_alive r1) ?dat ?binds rfl ?body) ?post)
  case dat =>
    rintro d v (⟨rfl,rfl⟩ | ⟨rfl,rfl⟩)
    · exact r1.datR da
    · exact r1.datR db
  case binds=>exact .cons (.raw _) (.cons (.val (.int _ _)) (.cons (.val (.int _ _)) (.cons (.val (.int _ _)) (.cons (.val (.int _ _)) .nil))))
  case body =>
    intro L
    obtain ⟨d,js,led,hd',hj,hjs,hch⟩:=M.rest
    have kb:∀ b o,X.h₀.get? b=some o→s1.heap.get? b=some o:=r1.base
    refine Exs.mono (find_walk (X:=X.on s1.heap _) (k:=k) (F.on kb) (G.on kb) hC (x:=x) (dx:=dx) (m:=m) (N:=N) (z:=z) (kb _ _ M.obj) ?_ M.a M.ha M.b M.hb hd' hj (kb _ _ hjs) (.inl ⟨rfl,rfl⟩) (.inr ⟨rfl,rfl⟩) (hch.keeps kb).on h1 h2 h3 h4 hza hz) fun fl ρ' p=>?_
    · rcases S.dict with ⟨o,ho,q⟩ | ⟨o,ho,q⟩
      · exact ⟨o,(r1.pt _ _ _ ho).2,q⟩
      · exact ⟨o,kb _ _ ho,q⟩
    · obtain ⟨i',j',n',rfl,hB'⟩:=p
      obtain ⟨rfl,rfl,rfl⟩:=hB.unique hB'
      exact ⟨rfl,.inr ⟨_,rfl⟩⟩
  case post =>
    rintro res s' ⟨v,fl,ρ',O',L,rfl,rfl,rv,x2,_⟩
    exact ⟨x1.trans x2,rv⟩
end
theorem RepL.split_last {bad:Addr→Prop} {h:Heap} {d:PyData} {ds:List PyData}:∀ {vs:List Value},RepL bad h (ds++[d]) vs→∃ us u,vs=us++[u]∧RepL bad h ds us∧Rep bad h d u:=by
  induction ds with
  | nil=>intro vs q;obtain ⟨u,us,rfl,a,b⟩:=q.inv;exact ⟨[],u,by rw [b.inv0];rfl,.nil,a⟩
  | cons c ds ih =>
    intro vs q
    obtain ⟨v,vs,rfl,a,b⟩:=RepL.inv q
    obtain ⟨us,u,rfl,h1,h2⟩:=ih b
    exact ⟨_ :: us,u,rfl,.cons a h1,h2⟩
section
variable {X:Cx} {k:Nat} {env:Env} {ρ ρ':List (Str×B)} {Q:Fl→List (Str×B)→Prop}
theorem tst_list {e:Expr} {ds:List PyData} (h:EvS X k env ρ e ds) (hz:ds.length≤sizeLine) (he:∀ whole,isTrue e env whole=(do let v ← whole;standAt e.pos;holding [v] (truthy v)):=by intro _;rfl):Tst X k env ρ e (!ds.isEmpty):=fun A bad O s R r=>by
  have hsl:sizeLine < 2 ^ 30:=by decide
  rw [he]
  refine wpAny_bind (wpAny_mono (h A bad O s R r) (fun v s1 q=>?_) fun _ _ x=>x)
  obtain ⟨x1,l,vs,rfl,⟨n,g⟩,q⟩:=q
  have hl:vs.size=ds.length:=by rw [← Array.length_toList,q.length]
  refine wpAny_bind (wpAny_standAt (wpAny_holding (wpAny_truthy_list ⟨_,g,rfl,_,rfl⟩ (by rw [hl];exact aF 0xf1118000000000000000e90c4f400000006911100f rfl hz hsl) ?_)))
  refine ⟨x1.trans (Ext.toks _ _),?_⟩
  cases ds with
  | nil=>simp at hl;simp [hl]
  | cons d ds=>simp at hl ⊢;intro z;simp [z] at hl
theorem ex_pop {pl:Sem Bool} {x:Str} {px apos cpos pos:Pos} {t:Expr} {ds:List PyData} {d:PyData} (hx:ρ.lookup x=some (.own (ds++[d]))) (hz:ds.length+1≤sizeLine) (h1:Asg X k env (put ρ x (.own ds)) t d ρ') (hq:Q .next ρ') (hd:(x == ("__debug__":Str))=false:=by decide)
    (he:eval (.Call (.Attribute (.Name x px) "pop" apos) [] [] cpos) env=(do
      let ov ← eval (.Name x px) env
      standAt apos.atName
      let (f,first) ← holding [ov] (getMethod ov "pop" pl)
      callWith cpos f first (backTo cpos (starEach [] env)) []):=by rfl)
    (hs:swapsWithSole [t] (.Call (.Attribute (.Name x px) "pop" apos) [] [] cpos) pos.line env=pure false:=by rfl) (hw:swappedStores [t] (.Call (.Attribute (.Name x px) "pop" apos) [] [] cpos) env=pure none:=by rfl) (hm:(assignEach [t] env).map (·.2)=[assign t env]:=by rfl) :
    Ex1 X k env ρ (.Assign [t] (.Call (.Attribute (.Name x px) "pop" apos) [] [] cpos) pos) Q:=fun A bad O s R r=>by
  refine wpAny_Assign_stores (method0_use r hx PySem.F.slot_list_pop PySem.F.type_list_pop (fun l vs n ho g q=>?_) hd he) hs hw
  have hl:vs.size=ds.length+1:=by rw [← Array.length_toList];have:=q.length;simp at this ⊢;exact aF 0xf81f11f180a12f1180a2f rfl this
  obtain ⟨us,u,hvs,qs,qu⟩:∃ us u,vs.toList=us++[u]∧RepL (aS bad O) s.heap ds us∧Rep (aS bad O) s.heap d u:=RepL.split_last q
  have hul:us.length=ds.length:=by have:=congrArg List.length hvs;simp at this;exact aO 0xf811f181f122f182a02181a02f rfl hl this
  have hpop:vs.pop.toList=us:=by rw [Array.toList_pop,hvs,List.dropLast_concat]
  have hget:vs[vs.size - 1]?=some u:=by
    rw [← Array.getElem?_toList,hvs,hl,List.getElem?_append_right (by exact aF 0xf8101200f102f18181a1 rfl hul)]
    simp [hul]
  refine Copied.pop_at g hget (fun h' hs' hg'=>?_) (by exact aO 0xf811120f180a221180a0f rfl hz hl)
  obtain ⟨st,r2⟩:=r.turn (t:=s.toks) hx ho hs' hg' (by rw [hpop];exact qs)
  have q2:Rep (aS bad O) h' d u:=qu.keep fun b o _ _ hb e _=>(hs'.2 b fun z=>hb (z ▸ .inr ⟨x,ho⟩)).trans e
  rw [hm]
  refine wpAny_mono (h1 A bad O { s with heap:=h' } u R r2 q2) (fun _ s3 p3=>?_) fun _ _ x=>x
  obtain ⟨O3,st3,r3⟩:=p3
  exact ⟨.next,_,_,hq,rfl,st.trans st3,r3⟩
end
inductive RO (m:Mt):Nat→Nat→Nat→Nat→List T3→Prop
  | none {alo ahi blo bhi i j:Nat}:Best m alo ahi blo bhi i j 0→RO m alo ahi blo bhi []
  | some {alo ahi blo bhi i j k:Nat} {l r:List T3}:Best m alo ahi blo bhi i j k→0 < k→RO m alo i blo j l→RO m (i+k) ahi (j+k) bhi r→RO m alo ahi blo bhi (l++(i,j,k) :: r)
theorem RO.unique {m:Mt} {alo ahi blo bhi:Nat} {bs bs':List T3} (h:RO m alo ahi blo bhi bs) (h':RO m alo ahi blo bhi bs'):bs=bs':=by
  induction h generalizing bs' with
  | none b =>
    cases h' with
    | none _=>rfl
    | some b' hk _ _=>have:=b.unique b';exact (aQ 0xf119f00820081f rfl hk this.2.2).elim
  | some b hk _ _ ih1 ih2 =>
    cases h' with
    | none b'=>have:=b.unique b';exact (aQ 0xf819f08020081f rfl hk this.2.2).elim
    | some b' hk' h1 h2 =>
      obtain ⟨rfl,rfl,rfl⟩:=b.unique b'
      rw [ih1 h1,ih2 h2]
theorem RO.exists (m:Mt):∀ (n alo ahi blo bhi:Nat),ahi - alo≤n→alo≤ahi→blo≤bhi→∃ bs,RO m alo ahi blo bhi bs
  | n,alo,ahi,blo,bhi,hn,h1,h2=>by
    obtain ⟨i,j,k,b⟩:=best_exists m h1 h2
    rcases Nat.eq_zero_or_pos k with rfl | hk
    · exact ⟨[],.none b⟩
    · obtain ⟨w1,w2,w3,w4⟩:=b.win
      cases n with
      | zero=>exact (bF 0xf1111109f0840302a02100081f131 rfl hk w1 w2 hn).elim
      | succ n =>
        obtain ⟨l,hl⟩:=RO.exists m n alo i blo j (by exact lq5 0xf1111018f108f450f184a60201a00081f321310 rfl hk w2 hn) (by exact aF 0xf11100f100f rfl w1) (by exact aF 0xf11100f100f rfl w3)
        obtain ⟨r,hr⟩:=RO.exists m n (i+k) ahi (j+k) bhi (by exact lq5 0xf1111018f108f450f184a602100081f13102a30 rfl hk w1 hn) (by exact aO 0xf11210a0f210a0f rfl w2) (by exact aO 0xf11210a0f210a0f rfl w4)
        exact ⟨_,.some b hk hl hr⟩
noncomputable abbrev W4:=Nat×Nat×Nat×Nat
open Classical in
noncomputable def ro (m:Mt) (w:W4):List T3:=if h:∃ bs,RO m w.1 w.2.1 w.2.2.1 w.2.2.2 bs then h.choose else []
noncomputable def WOk (la lb:Nat) (w:W4):Prop:=w.1≤w.2.1∧w.2.1≤la∧w.2.2.1≤w.2.2.2∧w.2.2.2≤lb
theorem ro_spec (m:Mt) {alo ahi blo bhi:Nat} (h1:alo≤ahi) (h2:blo≤bhi):RO m alo ahi blo bhi (ro m (alo,ahi,blo,bhi)):=by
  have h:=RO.exists m _ alo ahi blo bhi (Nat.le_refl _) h1 h2
  unfold ro
  rw [dif_pos h]
  exact h.choose_spec
theorem ro_eq {m:Mt} {alo ahi blo bhi:Nat} {bs:List T3} (h1:alo≤ahi) (h2:blo≤bhi) (h:RO m alo ahi blo bhi bs):ro m (alo,ahi,blo,bhi)=bs:=(ro_spec m h1 h2).unique h
theorem Best.le {m:Mt} {alo ahi blo bhi i j k:Nat} (b:Best m alo ahi blo bhi i j k):alo≤ahi∧blo≤bhi:=by obtain ⟨h1,h2,h3,h4⟩:=b.win;exact lq7 0xf11001f111f6403007f625a0540321a0100f rfl h1 h2 h3 h4
theorem ro_zero {m:Mt} {alo ahi blo bhi i j:Nat} (b:Best m alo ahi blo bhi i j 0):ro m (alo,ahi,blo,bhi)=[]:=ro_eq b.le.1 b.le.2 (.none b)
theorem ro_some {m:Mt} {alo ahi blo bhi i j k:Nat} (b:Best m alo ahi blo bhi i j k) (hk:0 < k):ro m (alo,ahi,blo,bhi)=ro m (alo,i,blo,j)++(i,j,k) :: ro m (i+k,ahi,j+k,bhi):=by
  obtain ⟨h1,h2,h3,h4⟩:=b.win
  exact ro_eq b.le.1 b.le.2 (.some b hk (ro_spec m h1 h3) (ro_spec m h2 h4))
theorem ro_thin (m:Mt) {alo ahi blo bhi:Nat} (h1:alo≤ahi) (h2:blo≤bhi) (h:ahi≤alo∨bhi≤blo):ro m (alo,ahi,blo,bhi)=[]:=by
  obtain ⟨i,j,k,b⟩:=best_exists m h1 h2
  obtain ⟨w1,w2,w3,w4⟩:=b.win
  obtain rfl:k=0:=by exact lq7 0xf1f110011f1111ff0822f4600308625a0540321a0100f rfl w1 w2 w3 w4 h
  exact ro_zero b
noncomputable def Rest (m:Mt) (alo ahi blo bhi la lb:Nat) (rest:List T3):Prop :=
  (rest=[]∧ahi≤la∧bhi≤lb)∨∃ n r,rest=(ahi,bhi,n) :: r∧0 < n∧Good la lb false (ahi+n) (bhi+n) r∧(alo < ahi→blo < bhi→m (ahi - 1) (bhi - 1)=false)
theorem RO.good {m:Mt} {alo ahi blo bhi:Nat} {bs:List T3} (h:RO m alo ahi blo bhi bs):∀ {b:Bool} {la lb:Nat} {rest:List T3},(b=false→alo < ahi→blo < bhi→m alo blo=false)→(b=false→rest ≠ []→¬ (alo=ahi∧blo=bhi))→Rest m alo ahi blo bhi la lb rest→Good la lb b alo blo (bs++rest):=by
  induction h with
  | none bt =>
    intro b la lb rest c1 c2 hr
    obtain ⟨l1,l2⟩:=bt.le
    rcases hr with ⟨rfl,h1,h2⟩ | ⟨n,r,rfl,hn,g,_⟩
    · exact .nil (by exact aO 0xf111200f210100f rfl l1 h1) (by exact aO 0xf111200f210100f rfl l2 h2)
    · exact .cons l1 l2 hn (fun e=>c2 e (by simp)) g
  | @some alo ahi blo bhi i j k l r bt hk _ _ ih1 ih2 =>
    intro b la lb rest c1 c2 hr
    obtain ⟨w1,w2,w3,w4⟩:=bt.win
    have run:∀ t,t < k→m (i+t) (j+t)=true:=bt.run
    have last:m (i+k - 1) (j+k - 1)=true:=by
      have:=run (k - 1) (by exact aQ 0xf18f1108f011f0081f1800 rfl hk)
      rwa [show i+(k - 1)=i+k - 1 by exact aF 0xf118f1008ff1108f10008fff181f1810ff11081f110810fff321a2f0081f1801a01800 rfl hk,show j+(k - 1)=j+k - 1 by exact aF 0xf118f1008ff1108f10008fff181f1810ff11081f110810fff321a2f0081f1801a01800 rfl hk] at this
    have g2:Good la lb false (i+k) (j+k) (r++rest):=by
      refine ih2 (fun _ h1 h2=>bt.right h1 h2) (fun _ hne e=>?_) ?_
      · rcases hr with ⟨rfl,_⟩ | ⟨n,r',rfl,hn,g,hm⟩
        · exact hne rfl
        · have:=hm (by exact bF 0xf1111311f302a02100081f rfl hk w1 w2) (by exact bF 0xf1111311f302a02100081f rfl hk w3 w4)
          rw [← e.1,← e.2,last] at this;cases this
      · rcases hr with hr | ⟨n,r',rfl,hn,g,hm⟩
        · exact .inl hr
        · exact .inr ⟨n,r',rfl,hn,g,fun h1 h2=>hm (by exact bF 0xf111301f321a1100f rfl w1 h1) (by exact bF 0xf111301f321a1100f rfl w3 h2)⟩
    rw [List.append_assoc,List.cons_append]
    refine ih1 (fun e h1 h2=>c1 e (by exact bF 0xf111231f031210a0f rfl w2 h1) (by exact bF 0xf111231f031210a0f rfl w4 h2)) (fun e _ q=>?_) (.inr ⟨k,_,rfl,hk,g2,fun h1 h2=>bt.left h1 h2⟩)
    have:=run 0 hk
    have f:=c1 e (by exact bF 0xf1111311f302a02100081f rfl hk w1 w2) (by exact bF 0xf1111311f302a02100081f rfl hk w3 w4)
    rw [q.1,q.2] at f
    rw [Nat.add_zero,Nat.add_zero,f] at this;cases this
theorem RO.good' {m:Mt} {ahi bhi:Nat} {bs:List T3} (h:RO m 0 ahi 0 bhi bs):Good ahi bhi true 0 0 bs:=by
  have:=h.good (b:=true) (la:=ahi) (lb:=bhi) (rest:=[]) (fun e=>by cases e) (fun e=>by cases e) (.inl ⟨rfl,Nat.le_refl _,Nat.le_refl _⟩)
  rwa [List.append_nil] at this
theorem Good.from {la lb:Nat} {b:Bool} {i j:Nat} {bs:List T3} (g:Good la lb b i j bs):∀ t∈bs,i≤t.1:=by
  induction g with
  | nil _ _=>intro t ht;cases ht
  | cons h1 _ h3 _ _ ih =>
    intro t ht
    rcases List.mem_cons.mp ht with rfl | ht
    · exact h1
    · have:=ih t ht;exact bF 0xf111300f321a0100f rfl h1 this
theorem le3_of {a b:T3} (h:a.1 < b.1):le3 a b:=by
  unfold le3 key3 bM
  rw [if_neg (by exact aF 0xf180c1c56f101f rfl h)]
  exact decide_eq_false (by exact aF 0xf110c1c46f101f rfl h)
theorem Good.sorted {la lb:Nat} {b:Bool} {i j:Nat} {bs:List T3} (g:Good la lb b i j bs):bs.Pairwise le3:=by
  induction g with
  | nil _ _=>exact .nil
  | cons h1 _ h3 _ g ih=>exact .cons (fun t ht=>le3_of (by have:=g.from t ht;show _ < t.1;exact aO 0xf111211f201a00081f rfl h3 this)) ih
theorem key3_inj {a b:T3} (h:key3 a=key3 b):a=b:=by
  obtain ⟨a1,a2,a3⟩:=a;obtain ⟨b1,b2,b3⟩:=b
  simp only [key3,List.cons.injEq,and_true] at h
  simp only [Prod.mk.injEq];exact lq6 0xf1001f8001f101f801f11f81f54232271027f5c4c53c2c51c0c5f rfl h.1 h.2.1 h.2.2
theorem sorted_unique:∀ {as bs:List T3},as.Perm bs→as.Pairwise le3→bs.Pairwise le3→as=bs
  | [],bs,p,_,_=>p.nil_eq
  | a :: as,[],p,_,_=>by cases p.length_eq
  | a :: as,b :: bs,p,h,g=>by
    have hab:a=b:=by
      rcases List.mem_cons.mp (p.mem_iff.mp List.mem_cons_self) with e | hm
      · exact e
      · rcases List.mem_cons.mp (p.mem_iff.mpr List.mem_cons_self) with e | hm'
        · exact e.symm
        · exact key3_inj (lexlt_total _ _ (List.rel_of_pairwise_cons g hm) (List.rel_of_pairwise_cons h hm'))
    subst hab
    rw [sorted_unique (List.perm_cons a |>.mp p) (List.Pairwise.of_cons h) (List.Pairwise.of_cons g)]
noncomputable def w4d (w:W4):PyData:=.tuple [.int w.1,.int w.2.1,.int w.2.2.1,.int w.2.2.2]
noncomputable def tup3 (t:T3):PyData:=.tuple [.int t.1,.int t.2.1,.int t.2.2]
noncomputable def meas (qs:List W4):Nat:=(qs.map fun w=>2 * (w.2.1 - w.1)+1).sum
theorem meas_append (a b:List W4):meas (a++b)=meas a+meas b:=by unfold meas;rw [List.map_append,List.sum_append]
theorem meas_len:∀ qs:List W4,qs.length≤meas qs
  | []=>Nat.le_refl _
  | w :: qs=>by have:=meas_len qs;unfold meas at this ⊢;rw [List.map_cons,List.sum_cons,List.length_cons];exact bF 0xf1001118402baa180a0f100f321 rfl this
noncomputable abbrev envB (z:Value×Value×Value×Value) (L:Addr):Env:=callEnvC (fdSM 7 "get_matching_blocks" z) L 203
section
variable {X:Cx} {k:Nat} {as bs:List Int} {va vb:Value}
noncomputable def bO (as bs:List Int):W4:=(0,as.length,0,bs.length)
structure UW (as bs:List Int) (u:List W4) (w:W4):Prop where
  flat:u.flatMap (ro (mm as bs))=ro (mm as bs) w
  ms:meas u≤2 * (w.2.1 - w.1)+1
  ok:∀ v∈u,WOk as.length bs.length v
theorem UW.one {w:W4} (h:WOk as.length bs.length w):UW as bs [w] w:=⟨by simp,by simp [meas],fun v hv=>by rw [List.mem_singleton] at hv;subst hv;exact h⟩
theorem UW.none {a b c d:Nat} (h1:a≤b) (h2:c≤d) (h:¬ a < b∨¬ c < d):UW as bs [] (a,b,c,d):=⟨(ro_thin _ h1 h2 (by exact bF 0xf101f11f2300108f321610168f rfl h)).symm,by simp [meas],fun v hv=>by cases hv⟩
structure PW (as bs:List Int) (qs:List W4) (done:List T3):Prop where
  ok:∀ w∈qs,WOk as.length bs.length w
  le:meas qs≤2001
  perm:(done++qs.flatMap (ro (mm as bs))).Perm (ro (mm as bs) (bO as bs))
theorem PW.pop0 {qs:List W4} {done:List T3} {alo ahi blo bhi i j:Nat} (P:PW as bs (qs++[(alo,ahi,blo,bhi)]) done) (best:Best (mm as bs) alo ahi blo bhi i j 0):PW as bs qs done∧meas qs < meas (qs++[(alo,ahi,blo,bhi)]):=by
  have hm:=meas_append qs [(alo,ahi,blo,bhi)]
  have h1:0 < meas [(alo,ahi,blo,bhi)]:=by simp [meas]
  refine ⟨⟨fun w hw=>P.ok w (List.mem_append_left _ hw),by have:=P.le;exact aO 0xf1117d11910f7d1190021a02f rfl hm this,?_⟩,by exact aO 0xf111011f208121a02f rfl hm h1⟩
  have:=P.perm
  rwa [List.flatMap_append,List.flatMap_singleton,ro_zero best,List.append_nil] at this
theorem PW.step {qs u1 u2:List W4} {done:List T3} {alo ahi blo bhi i j kk:Nat} (P:PW as bs (qs++[(alo,ahi,blo,bhi)]) done) (best:Best (mm as bs) alo ahi blo bhi i j kk) (hk:0 < kk) (U1:UW as bs u1 (alo,i,blo,j)) (U2:UW as bs u2 (i+kk,ahi,j+kk,bhi)) :
    PW as bs (qs++u1++u2) (done++[(i,j,kk)])∧meas (qs++u1++u2) < meas (qs++[(alo,ahi,blo,bhi)]):=by
  have hm:meas [(alo,ahi,blo,bhi)]=2 * (ahi - alo)+1:=by simp [meas]
  have hl:meas (qs++u1++u2) < meas (qs++[(alo,ahi,blo,bhi)]):=by
    have b:=best.win
    unfold InW at b
    have m1:=U1.ms
    have m2:=U2.ms
    dsimp only at m1 m2
    rw [meas_append,meas_append,meas_append,hm];exact lq7 0xf1100220199f11202201909ff11022201099f112222010909ff180702ba6a546aa1f182702ba50181702ba40302a02100081f02a30120131 rfl hk b.1 b.2.1 m1 m2
  refine ⟨⟨fun w hw=>?_,by have:=P.le;exact aF 0xf1117d11900f7d11910101f rfl hl this,?_⟩,hl⟩
  · rcases List.mem_append.mp hw with hw | hw
    · rcases List.mem_append.mp hw with hw | hw
      · exact P.ok w (List.mem_append_left _ hw)
      · exact U1.ok w hw
    · exact U2.ok w hw
  · rw [List.perm_iff_count]
    intro t
    rw [← P.perm.count_eq t]
    simp only [List.flatMap_append,List.count_append,List.flatMap_singleton,ro_some best hk,U1.flat,U2.flat,List.count_cons,List.count_nil]
    exact lq5 0xf1f1f14a3a2a0a432aa108a0aa2ff rfl
theorem PW.len {qs:List W4} {done:List T3} (P:PW as bs qs done):qs.length≤2001∧done.length≤(ro (mm as bs) (bO as bs)).length:=by
  have h1:=meas_len qs
  have h2:=P.le
  have h3:=P.perm.length_eq
  rw [List.length_append] at h3
  exact lq5 0xf8001f111f4207d119007f432a27d11910100f rfl h1 h2 h3
structure FW (x dx:Addr) (o:Obj) (la lb:Nat) (ρ:List (Str×B)):Prop where
  s:aM ρ "self" (.raw (.ref x))
  d:aM ρ "#d" (.at dx o)
  la:aM ρ "la" (.val (.int la))
  lb:aM ρ "lb" (.val (.int lb))
theorem FW.pt {x dx:Addr} {o:Obj} {la lb:Nat} {ρ:List (Str×B)} (C:FW x dx o la lb ρ) {z:Str} {b:B} (h:(neS "self" z && (neS "#d" z && (neS "la" z && neS "lb" z)))=true):FW x dx o la lb (put ρ z b):=by
  simp only [Bool.and_eq_true] at h
  exact ⟨hn C.s h.1,hn C.d h.2.1,hn C.la h.2.2.1,hn C.lb h.2.2.2⟩
inductive BI (x dx:Addr) (o:Obj) (as bs:List Int) (n:Nat) (ρ:List (Str×B)):Prop
  | mk {qs:List W4} {done:List T3}:FW x dx o as.length bs.length ρ→aM ρ "queue" (.own (qs.map w4d))→aM ρ "matching_blocks" (.own (done.map mt3))→PW as bs qs done→n=meas qs→BI x dx o as bs n ρ
noncomputable abbrev bSt (i:Nat):Stmt:=aD (aH (smSt 7)) i
theorem blocks_tail {x dx:Addr} {o:Obj} {L:Addr} {z:Value×Value×Value×Value} {ρ:List (Str×B)} {qs:List W4} {ds:List PyData} {i j kk ahi bhi:Nat} {P:Fl→List (Str×B)→Prop} (f:FW x dx o as.length bs.length ρ) (hq:aM ρ "queue" (.own (qs.map w4d))) (hm:aM ρ "matching_blocks" (.own ds))
    (hi:aM ρ "i" (.val (.int i))) (hj:aM ρ "j" (.val (.int j))) (hk:aM ρ "k" (.val (.int kk))) (ha:aM ρ "ahi" (.val (.int ahi))) (hb:aM ρ "bhi" (.val (.int bhi))) (hl:qs.length < 5000) (h1:i+kk≤ahi) (h2:ahi≤as.length) (h3:j+kk≤bhi) (h4:bhi≤bs.length)
    (hP:∀ {ρ':List (Str×B)} {u:List W4},FW x dx o as.length bs.length ρ'→aM ρ' "queue" (.own ((qs++u).map w4d))→aM ρ' "matching_blocks" (.own ds)→UW as bs u (i+kk,ahi,j+kk,bhi)→P .next ρ') :
    Exs X (k+3) (envB z L) ρ ((ifBody (aD (whileBody (bSt 5)) 2)).drop 2) P:=by
  have hsl:5000≤sizeLine:=by decide
  refine aC (ex_if (aW (aL (aU (aA hi) (aA hk)) (aA ha) rfl) fun _=>aW (aL (aU (aA hj) (aA hk)) (aA hb) rfl) fun _=>tst_and0) (fun hc=>?_) fun hc=>?_)
  · simp only [Bool.and_true,Bool.and_eq_true,decide_eq_true_eq] at hc
    refine aC (ex_append (ds:=qs.map w4d) (d:=w4d (i+kk,ahi,j+kk,bhi)) hq (aV (aB (aU (aA hi) (aA hk)) (aB (aA ha) (aB (aU (aA hj) (aA hk)) (aB (aA hb) aG)))) (by simp only [List.length_cons,List.length_nil];decide)) (by rw [List.length_map];exact aF 0xf111100f1138829013882901f rfl hl hsl) (aE (aE ?_)))
    exact hP (f.pt rfl) (by rw [List.map_append];exact hs) (hn hm rfl) (.one ⟨h1,h2,h3,h4⟩)
  · simp only [Bool.and_true,Bool.and_eq_false_iff,decide_eq_false_iff_not] at hc
    exact aE (aE (hP f (by rw [List.append_nil];exact hq) hm (.none h1 h3 (by exact lq5 0xf101f11f413a16210a168f4c1c3ca462c1c0ca468f rfl hc))))
theorem blocks_while (F:DF X) (G:MF X) {x dx:Addr} {o:Obj} {m:Str→Option Value} {N:Nat} {L:Addr} {z:Value×Value×Value×Value} {ρ:List (Str×B)} {Q:Fl→List (Str×B)→Prop} (ho:AObj o m N) (M:Mat X X.h₀ x dx m va vb as bs)
    (da:X.dat (.list (as.map .int)) va) (db:X.dat (.list (bs.map .int)) vb) (hza:as.length≤1000) (hzb:bs.length≤1000) (h64:(ro (mm as bs) (bO as bs)).length < 64)
    (f:FW x dx o as.length bs.length ρ) (h5:aM ρ "queue" (.own [w4d (bO as bs)])) (h6:aM ρ "matching_blocks" (.own []))
    (hq:∀ ρ' (done:List T3),FW x dx o as.length bs.length ρ'→aM ρ' "matching_blocks" (.own (done.map mt3))→done.Perm (ro (mm as bs) (bO as bs))→Q .next ρ') :
    Ex1 X (k+3) (envB z L) ρ (bSt 5) Q:=by
  have hsl:5000≤sizeLine:=by decide
  refine ex_while (BI x dx o as bs) (n:=meas [bO as bs]) (.mk (qs:=[bO as bs]) (done:=[]) f h5 h6 ⟨fun w hw=>?_,?_,by simp⟩ rfl) ?_
  · rw [List.mem_singleton] at hw;subst hw;exact ⟨Nat.zero_le _,Nat.le_refl _,Nat.zero_le _,Nat.le_refl _⟩
  · simp [meas,bO];exact aQ 0xf217d019002b0f3e81900f rfl hza
  · rintro n ρ ⟨f,a5,a6,P,rfl⟩ Q1 H1
    rename_i qs done
    have hl:=P.len
    refine ⟨_,tst_list (evs_own a5) (by rw [List.length_map];exact aF 0xf111010f7d1191001388290f rfl hsl hl.1),fun hb=>?_,fun hb=>?_⟩
    · rcases List.eq_nil_or_concat qs with rfl | ⟨qs,⟨alo,ahi,blo,bhi⟩,rfl⟩
      · simp at hb
      clear hb
      rw [List.concat_eq_append] at *
      obtain ⟨w1,w2,w3,w4⟩:=P.ok _ (List.mem_append_right _ (List.mem_singleton.mpr rfl))
      dsimp only at w1 w2 w3 w4
      obtain ⟨i,j,kk,best⟩:=best_exists (mm as bs) w1 w3
      have bw:=best.win
      unfold InW at bw
      rw [List.map_append,List.map_singleton] at a5
      rw [List.length_append,List.length_singleton] at hl
      refine aC (ex_pop (ds:=qs.map w4d) (d:=w4d (alo,ahi,blo,bhi)) a5 (by rw [List.length_map];exact aF 0xf1110181a0f7d119181a001388290f rfl hsl hl.1) (asg_tuple (aP (aK (.inl rfl)) (aP (aK (.inl rfl)) (aP (aK (.inl rfl)) (aP (aK (.inl rfl)) asgl_nil)))) rfl rfl) ?_)
      refine aC (ex_assign2 (d:=mtd i j kk) (ev_find F G (y:="self") (x:=x) (dx:=dx) (m:=m) (N:=N) (alo:=alo) (ahi:=ahi) (blo:=blo) (bhi:=bhi) (hn (hn (hn (hn (hn f.s rfl) rfl) rfl) rfl) rfl) ⟨M.obj,.inl ⟨o,hn (hn (hn (hn (hn f.d rfl) rfl) rfl) rfl) rfl,ho⟩⟩ M da db w1 w2 w3 w4 (by exact aF 0xf1111180a0f113882903e81900f rfl hza hsl) (by exact aF 0xf1111180a0f113882903e81900f rfl hzb hsl) best
        (aB (aA (by k_mem)) (aB (aA (by k_mem)) (aB (aA (by k_mem)) (aB (aA (by k_mem)) aG))))) (asg_mt G (aP (aK (.inl rfl)) (aP (aK (.inl rfl)) (aP (aK (.inl rfl)) asgl_nil))) rfl rfl) (aK (.inl rfl)) ?_)
      generalize hρ:(put (put (put (put (put (put (put (put (put ρ "queue" (.own (qs.map w4d))) "alo" (.val (.int alo))) "ahi" (.val (.int ahi))) "blo" (.val (.int blo))) "bhi" (.val (.int bhi))) "i" (.val (.int i))) "j" (.val (.int j))) "k" (.val (.int kk))) "x" (.val (mtd i j kk)):List (Str×B))=ρ1
      have f1:FW x dx o as.length bs.length ρ1:=hρ ▸ ((((((((f.pt rfl).pt rfl).pt rfl).pt rfl).pt rfl).pt rfl).pt rfl).pt rfl).pt rfl
      have e1:aM ρ1 "queue" (.own (qs.map w4d)):=by subst hρ;k_mem
      have e2:aM ρ1 "matching_blocks" (.own (done.map mt3)):=by subst hρ;k_mem
      have e3:aM ρ1 "alo" (.val (.int alo)):=by subst hρ;k_mem
      have e4:aM ρ1 "ahi" (.val (.int ahi)):=by subst hρ;k_mem
      have e5:aM ρ1 "blo" (.val (.int blo)):=by subst hρ;k_mem
      have e6:aM ρ1 "bhi" (.val (.int bhi)):=by subst hρ;k_mem
      have e7:aM ρ1 "i" (.val (.int i)):=by subst hρ;k_mem
      have e8:aM ρ1 "j" (.val (.int j)):=by subst hρ;k_mem
      have e9:aM ρ1 "k" (.val (.int kk)):=by subst hρ;k_mem
      have e0:aM ρ1 "x" (.val (mtd i j kk)):=by subst hρ;k_mem
      clear hρ f a5 a6
      refine aC (ex_if (tst_int (aA e9)) (fun hk=>?_) fun hk=>?_)
      · have hk0:0 < kk:=by simp at hk;exact aQ 0xf1f11f0081f08026f rfl hk
        refine aC (ex_append (ds:=done.map mt3) (d:=mtd i j kk) e2 (aA e0) (by rw [List.length_map];exact aO 0xf1111120f02011388290400901f rfl h64 hsl hl.2) ?_)
        have e2:aM (put ρ1 "matching_blocks" (.own (done.map mt3++[mtd i j kk]))) "matching_blocks" (.own ((done++[(i,j,kk)]).map mt3)):=by rw [List.map_append];exact hs
        have fin:∀ {ρ':List (Str×B)} {u1 u2:List W4},UW as bs u1 (alo,i,blo,j)→FW x dx o as.length bs.length ρ'→aM ρ' "queue" (.own ((qs++u1++u2).map w4d))→aM ρ' "matching_blocks" (.own ((done++[(i,j,kk)]).map mt3))→UW as bs u2 (i+kk,ahi,j+kk,bhi)→Q1 .next ρ' :=
          fun U1 g1 g2 g3 U2=>let ⟨P',hlt⟩:=P.step best hk0 U1 U2;H1.next ⟨_,hlt,g1,g2,g3,P',rfl⟩
        refine aC (ex_if (aW (aL (aA (hn e3 rfl)) (aA (hn e7 rfl)) rfl) fun _=>aW (aL (aA (hn e5 rfl)) (aA (hn e8 rfl)) rfl) fun _=>tst_and0) (fun hc=>?_) fun hc=>?_)
        · refine aC (ex_append (ds:=qs.map w4d) (d:=w4d (alo,i,blo,j)) (hn e1 rfl) (aV (aB (aA (hn e3 rfl)) (aB (aA (hn e7 rfl)) (aB (aA (hn e5 rfl)) (aB (aA (hn e8 rfl)) aG)))) (by simp only [List.length_cons,List.length_nil];decide)) (by rw [List.length_map];exact aF 0xf111010f7d119181a001388290f rfl hsl hl.1) (aE ?_))
          have U1:UW as bs [(alo,i,blo,j)] (alo,i,blo,j):=.one ⟨bw.1,by dsimp only;exact bF 0xf111120f032a0100f rfl w2 bw.2.1,bw.2.2.1,by dsimp only;exact bF 0xf111120f032a0100f rfl w4 bw.2.2.2⟩
          exact blocks_tail (qs:=qs++[(alo,i,blo,j)]) ((f1.pt rfl).pt rfl) (by rw [List.map_append];exact hs) (hn e2 rfl) (hn (hn e7 rfl) rfl) (hn (hn e8 rfl) rfl) (hn (hn e9 rfl) rfl) (hn (hn e4 rfl) rfl) (hn (hn e6 rfl) rfl) (by rw [List.length_append,List.length_singleton];exact aQ 0xf11138829180a1f7d119180a0f rfl hl.1) bw.2.1 w2 bw.2.2.2 w4 fun g1 g2 g3 U2=>aE (fin U1 g1 g2 g3 U2)
        · simp only [Bool.and_true,Bool.and_eq_false_iff,decide_eq_false_iff_not] at hc
          exact aE (blocks_tail (f1.pt rfl) (hn e1 rfl) e2 (hn e7 rfl) (hn e8 rfl) (hn e9 rfl) (hn e4 rfl) (hn e6 rfl) (by exact aQ 0xf1113882901f7d119180a0f rfl hl.1) bw.2.1 w2 bw.2.2.2 w4 fun g1 g2 g3 U2=>aE (fin (.none bw.1 bw.2.2.1 (by exact bF 0xf101f11f321610168f3c2c461c0c468f rfl hc)) g1 (by rw [List.append_nil];exact g2) g3 U2))
      · obtain rfl:kk=0:=by simpa using hk
        obtain ⟨P',hlt⟩:=P.pop0 best
        exact aE (aE (H1.next ⟨_,hlt,f1,e1,e2,P',rfl⟩))
    · obtain rfl:qs=[]:=by
        cases qs with
        | nil=>rfl
        | cons w qs=>simp at hb
      exact hq ρ done f a6 (by simpa using P.perm)
end
theorem Good.get {la lb:Nat}:∀ {bs:List T3} {b:Bool} {i j:Nat},Good la lb b i j bs→∀ {p:Nat} {t u:T3},bs[p]?=some t→bs[p+1]?=some u→¬ (t.1+t.2.2=u.1∧t.2.1+t.2.2=u.2.1)
  | [],_,_,_,_,p,t,u,h,_=>by simp at h
  | (a,b,n) :: bs,_,_,_,g,0,t,u,h,h'=>by
    obtain ⟨h1,h2,h3,h4,h5⟩:=g.inv
    simp only [List.getElem?_cons_zero,Option.some.injEq] at h
    subst h
    cases h5 with
    | nil _ _=>simp at h'
    | cons g1 g2 g3 g4 g5 =>
      simp only [List.getElem?_cons_succ,List.getElem?_cons_zero,Option.some.injEq,Nat.zero_add] at h'
      subst h'
      exact g4 rfl
  | (a,b,n) :: bs,_,_,_,g,p+1,t,u,h,h'=>by
    obtain ⟨h1,h2,h3,h4,h5⟩:=g.inv
    exact Good.get h5 (p:=p) (by simpa using h) (by simpa using h')
theorem Good.pos {la lb:Nat}:∀ {bs:List T3} {b:Bool} {i j:Nat},Good la lb b i j bs→∀ t∈bs,0 < t.2.2
  | [],_,_,_,_,t,h=>by cases h
  | (a,b,n) :: bs,_,_,_,g,t,h=>by
    obtain ⟨h1,h2,h3,h4,h5⟩:=g.inv
    rcases List.mem_cons.mp h with rfl | h
    · exact h3
    · exact Good.pos h5 t h
section
variable {X:Cx} {k:Nat} {as bs:List Int} {va vb:Value}
inductive JT (bl:List T3) (p t1 t2 t3:Nat):Prop
  | zero:p=0→t1=0→t2=0→t3=0→JT bl p t1 t2 t3
  | at {q:Nat}:p=q+1→bl[q]?=some (t1,t2,t3)→0 < t3→JT bl p t1 t2 t3
theorem JT.take {bl:List T3} {p t1 t2 t3:Nat} (h:JT bl p t1 t2 t3) (hk:t3 ≠ 0):(bl.take p).map tup3=(bl.take (p - 1)).map tup3++[tup3 (t1,t2,t3)]:=by
  cases h with
  | zero _ _ _ h=>exact absurd h hk
  | @«at» q e hq _=>subst e;rw [List.take_add_one,hq];simp
theorem JT.start {bl:List T3} {p t1 t2 t3:Nat} (h:JT bl p t1 t2 t3) (hk:t3=0):p=0:=by
  cases h with
  | zero h _ _ _=>exact h
  | «at» _ _ h=>exact aF 0xf180812f00810802f rfl hk h
inductive Joined (bl:List T3) (p:Nat) (ρ:List (Str×B)):Prop
  | mk {t1 t2 t3:Nat}:aM ρ "i1" (.val (.int t1))→aM ρ "j1" (.val (.int t2))→aM ρ "k1" (.val (.int t3))→aM ρ "non_adjacent" (.own ((bl.take (p - 1)).map tup3))→JT bl p t1 t2 t3→Joined bl p ρ
theorem blocks_set {x dx:Addr} {o:Obj} {L:Addr} {z:Value×Value×Value×Value} {ρ:List (Str×B)} {bl:List T3} {la lb p ai bj n:Nat} {P:Fl→List (Str×B)→Prop} (f:FW x dx o la lb ρ) (h:aM ρ "non_adjacent" (.own ((bl.take p).map tup3))) (hi:aM ρ "i2" (.val (.int ai))) (hj:aM ρ "j2" (.val (.int bj))) (hk:aM ρ "k2" (.val (.int n)))
    (hu:bl[p]?=some (ai,bj,n)) (hn0:0 < n) (hP:∀ {ρ':List (Str×B)},FW x dx o la lb ρ'∧Joined bl (p+1) ρ'→P .next ρ'):Exs X (k+3) (envB z L) ρ ((ifElse (aD (forBody (bSt 9)) 0)).drop 1) P :=
  aC (ex_swap (xs:=["i1","j1","k1"]) (ds:=[.int ai,.int bj,.int n]) (aV (aB (aA hi) (aB (aA hj) (aB (aA hk) aG))) (by simp only [List.length_cons,List.length_nil];decide)) (bJ (.inl rfl) (bJ (.inl rfl) (bJ (.inl rfl) asgn_nil)))
    (aE (hP ⟨((f.pt rfl).pt rfl).pt rfl,by k_mem,by k_mem,by k_mem,by k_mem,.at rfl hu hn0⟩)) rfl rfl rfl)
theorem blocks_end {x dx:Addr} {o:Obj} {L:Addr} {z:Value×Value×Value×Value} {ρ:List (Str×B)} {bl:List T3} {la lb:Nat} {P:Fl→List (Str×B)→Prop} (f:FW x dx o la lb ρ) (h:aM ρ "non_adjacent" (.own (bl.map tup3))) (hl:bl.length < 5000)
    (hP:∀ {ρ':List (Str×B)},FW x dx o la lb ρ'→aM ρ' "non_adjacent" (.own ((bl++[(la,lb,0)]).map tup3))→P .next ρ'):Exs X (k+3) (envB z L) ρ (((aH (smSt 7)).take 12).drop 11) P:=by
  have hsl:5000≤sizeLine:=by decide
  exact aC (ex_append (ds:=bl.map tup3) (d:=tup3 (la,lb,0)) h (aV (aB (aA f.la) (aB (aA f.lb) (aB aJ aG))) (by simp only [List.length_cons,List.length_nil];decide)) (by rw [List.length_map];exact aF 0xf111100f1138829013882901f rfl hl hsl) (aE (hP (f.pt rfl) (by rw [List.map_append];exact hs))))
theorem blocks_walk (F:DF X) (G:MF X) {x dx:Addr} {o:Obj} {m:Str→Option Value} {N:Nat} {L:Addr} {z:Value×Value×Value×Value} (ho:AObj o m N) (M:Mat X X.h₀ x dx m va vb as bs) (hmb:m "matching_blocks"=some .none)
    (da:X.dat (.list (as.map .int)) va) (db:X.dat (.list (bs.map .int)) vb) (hza:as.length≤1000) (hzb:bs.length≤1000) (h64:(ro (mm as bs) (bO as bs)).length < 64) {P:Fl→List (Str×B)→Prop}
    (hP:∀ {ρ':List (Str×B)},FW x dx o as.length bs.length ρ'→aM ρ' "non_adjacent" (.own ((ro (mm as bs) (bO as bs)++[(as.length,bs.length,0)]).map tup3))→P .next ρ') :
    Exs X (k+3) (envB z L) (put [("self",.raw (.ref x))] "#d" (.at dx o)) ((aH (smSt 7)).take 12) P:=by
  obtain ⟨cd,hC⟩:=F.cls
  have hsl:5000≤sizeLine:=by decide
  have S:∀ {ρ:List (Str×B)},aM ρ "#d" (.at dx o)→SelfD X ρ 242 x dx "#d" m N:=fun h=>⟨M.obj,.inl ⟨o,h,ho⟩⟩
  refine aC (ex_doc ?_)
  refine aC (ex_if (b:=false) (tst_isNotNone (v:=.none) (evv_attr (key:="#d") (by k_mem) (S (by k_mem)) hC (F.own "matching_blocks" (by decide)).1 hmb) evv_none) (fun e=>by cases e) fun _=>aE ?_)
  have ln:∀ (as:List Int),((as.map PyData.int).length:Int)=as.length:=fun as=>by rw [List.length_map]
  refine aC (ex_swap (xs:=["la","lb"]) (ds:=[.int as.length,.int bs.length]) (aV (aB (bH (ev_len F.len rfl (bB (ev_ofV (evv_attr (key:="#d") (by k_mem) (S (by k_mem)) hC (F.own "a" (by decide)).1 M.a M.ha) da)) (by rw [List.length_map];exact aF 0xf111100f113882903e81900f rfl hza hsl)) (by rw [ln])) (aB (bH (ev_len F.len rfl (bB (ev_ofV (evv_attr (key:="#d") (by k_mem) (S (by k_mem)) hC (F.own "b" (by decide)).1 M.b M.hb) db)) (by rw [List.length_map];exact aF 0xf111100f113882903e81900f rfl hzb hsl)) (by rw [ln])) aG)) (by simp only [List.length_cons,List.length_nil];exact aQ 0xf110181808aa0f01388290f rfl hsl)) (bJ (.inl rfl) (bJ (.inl rfl) asgn_nil)) ?_ rfl rfl rfl)
  refine aC (ex_assignF (ds:=[w4d (bO as bs)]) (evf_list (aB (aV (aB aJ (aB (aA (by k_mem)) (aB aJ (aB (aA (by k_mem)) aG)))) (by simp only [List.length_cons,List.length_nil];exact aQ 0xf1101818181808aaaa0f01388290f rfl hsl)) aG) (by simp only [List.length_cons,List.length_nil];exact aQ 0xf1101808a0f01388290f rfl hsl)) (.inl rfl) ?_)
  refine aC (ex_assignF (evf_list aG (by simp)) (.inl rfl) ?_)
  refine aC (blocks_while F G ho M da db hza hzb h64 ⟨by k_mem,by k_mem,by k_mem,by k_mem⟩ (by k_mem) (by k_mem) fun ρ done f a5 a6=>?_)
  have hg:Good as.length bs.length true 0 0 (ro (mm as bs) (bO as bs)):=(ro_spec (mm as bs) (Nat.zero_le _) (Nat.zero_le _)).good'
  refine aC (ex_sort G a5 (by rw [a6.length_eq];exact h64) fun ms' p1 p2=>?_)
  obtain rfl:ms'=ro (mm as bs) (bO as bs):=sorted_unique (p1.trans a6) p2 hg.sorted
  have hl:(ro (mm as bs) (bO as bs)).length < 5000:=by exact aQ 0xf1113882901f400901f rfl h64
  clear a5 a6 p1 p2 h64
  generalize ro (mm as bs) (bO as bs)=bl at *
  refine aC (ex_assign3 (d:=.int 0) aJ (aK (.inl rfl)) (aK (.inl rfl)) (aK (.inl rfl)) ?_)
  refine aC (ex_assignF (evf_list aG (by simp)) (.inl rfl) ?_)
  refine exs_freeze (x:="matching_blocks") (ds:=bl.map mt3) (by k_mem) ?_
  have f:=((((f.pt (z:="matching_blocks") (b:=.own (bl.map mt3)) rfl).pt (z:="i1") (b:=.val (.int 0)) rfl).pt (z:="j1") (b:=.val (.int 0)) rfl).pt (z:="k1") (b:=.val (.int 0)) rfl).pt (z:="non_adjacent") (b:=.own []) rfl |>.pt (z:="matching_blocks") (b:=.val (.list (bl.map mt3))) rfl
  refine aC (ex_for (items:=bl.map mt3) (evi_list (aA (by k_mem))) (fun p ρ=>FW x dx o as.length bs.length ρ∧Joined bl p ρ) ?_ ?_ ?_)
  · exact ⟨f,by k_mem,by k_mem,by k_mem,by k_mem,.zero rfl rfl rfl rfl⟩
  · rintro p dd ρ hp ⟨f,c1,c2,c3,c4,c5⟩ Q1 H1
    rename_i t1 t2 t3
    rw [List.getElem?_map] at hp
    obtain ⟨⟨ai,bj,n⟩,hu,rfl⟩:=Option.map_eq_some_iff.mp hp
    have hn0:=hg.pos _ (List.mem_of_getElem? hu)
    dsimp only at hn0
    clear hp
    refine ⟨_,asg_mt G (aP (aK (.inl rfl)) (aP (aK (.inl rfl)) (aP (aK (.inl rfl)) asgl_nil))) rfl rfl,?_⟩
    have f:=((f.pt (z:="i2") (b:=.val (.int ai)) rfl).pt (z:="j2") (b:=.val (.int bj)) rfl).pt (z:="k2") (b:=.val (.int n)) rfl
    have c1:=hn (x:="k2") (b:=.val (.int n)) (hn (x:="j2") (b:=.val (.int bj)) (hn (x:="i2") (b:=.val (.int ai)) c1 rfl) rfl) rfl
    have c2:=hn (x:="k2") (b:=.val (.int n)) (hn (x:="j2") (b:=.val (.int bj)) (hn (x:="i2") (b:=.val (.int ai)) c2 rfl) rfl) rfl
    have c3:=hn (x:="k2") (b:=.val (.int n)) (hn (x:="j2") (b:=.val (.int bj)) (hn (x:="i2") (b:=.val (.int ai)) c3 rfl) rfl) rfl
    have c4:=hn (x:="k2") (b:=.val (.int n)) (hn (x:="j2") (b:=.val (.int bj)) (hn (x:="i2") (b:=.val (.int ai)) c4 rfl) rfl) rfl
    have d1:aM (put (put (put ρ "i2" (.val (.int ai))) "j2" (.val (.int bj))) "k2" (.val (.int n))) "i2" (.val (.int ai)):=hn (hn hs rfl) rfl
    have d2:aM (put (put (put ρ "i2" (.val (.int ai))) "j2" (.val (.int bj))) "k2" (.val (.int n))) "j2" (.val (.int bj)):=hn hs rfl
    have d3:aM (put (put (put ρ "i2" (.val (.int ai))) "j2" (.val (.int bj))) "k2" (.val (.int n))) "k2" (.val (.int n)):=hs
    generalize put (put (put ρ "i2" (.val (.int ai))) "j2" (.val (.int bj))) "k2" (.val (.int n))=ρ1 at *
    refine aC (ex_if (aW (aL (aU (aA c1) (aA c3)) (aA d1) rfl) fun _=>aW (aL (aU (aA c2) (aA c3)) (aA d2) rfl) fun _=>tst_and0) (fun hc=>?_) fun hc=>?_)
    · simp only [Bool.and_true,Bool.and_eq_true,beq_iff_eq] at hc
      cases c5 with
      | zero e e1 e2 e3 =>
        subst e e1 e2 e3
        obtain rfl:ai=0:=by exact aQ 0xf1f11f0802f0c08c08ca5f rfl hc.1
        obtain rfl:bj=0:=by exact aQ 0xf1f11f0802f0c08c08ca5f rfl hc.2
        exact aC (ex_iadd (a:=(0:Nat)) (b:=n) c3 (aA d3) (.inl rfl) (aE (aE (H1.next ⟨f.pt rfl,hn c1 rfl,hn c2 rfl,by rw [Int.natCast_zero,Int.zero_add];exact hs,hn c4 rfl,.at rfl hu hn0⟩))))
      | «at» e hq _=>subst e;exact absurd ⟨by have:=hc.1;dsimp only;exact aO 0xf11f81f210a2f2c1c0ca5f rfl hc.1,by have:=hc.2;dsimp only;exact aO 0xf11f81f210a2f2c1c0ca5f rfl hc.2⟩ (hg.get hq hu)
    · refine aC (ex_if (tst_int (aA c3)) (fun hk=>?_) fun hk=>?_)
      · refine aC (ex_append (d:=tup3 (t1,t2,t3)) c4 (aV (aB (aA c1) (aB (aA c2) (aB (aA c3) aG))) (by simp only [List.length_cons,List.length_nil];exact aQ 0xf11018181808aaa0f01388290f rfl hsl)) (by rw [List.length_map,List.length_take];exact aO 0xf1100108f1100118f040f1388291101388290f1331821 rfl hsl hl) (aE ?_))
        rw [← c5.take (by intro e;subst e;simp at hk)]
        exact blocks_set (f.pt rfl) hs (hn d1 rfl) (hn d2 rfl) (hn d3 rfl) hu hn0 fun h=>aE (H1.next h)
      · obtain rfl:=c5.start (by simpa using hk)
        exact aE (blocks_set f c4 d1 d2 d3 hu hn0 fun h=>aE (H1.next h))
  · rintro ρ ⟨f,c1,c2,c3,c4,c5⟩
    rename_i t1 t2 t3
    rw [List.length_map] at c4 c5
    refine aC (ex_if (tst_int (aA c3)) (fun hk=>?_) fun hk=>?_)
    · refine aC (ex_append (d:=tup3 (t1,t2,t3)) c4 (aV (aB (aA c1) (aB (aA c2) (aB (aA c3) aG))) (by simp only [List.length_cons,List.length_nil];exact aQ 0xf11018181808aaa0f01388290f rfl hsl)) (by rw [List.length_map,List.length_take];exact aF 0xf1100108f1100118f030f1388291101388290f1231811 rfl hsl hl) (aE ?_))
      rw [← c5.take (by intro e;subst e;simp at hk),List.take_length]
      exact blocks_end (f.pt rfl) hs hl hP
    · have e:=c5.start (by simpa using hk)
      exact aE (blocks_end f (by rw [e,Nat.zero_sub,List.take_zero] at c4;rw [List.eq_nil_of_length_eq_zero e];exact c4) hl hP)
end
structure MG (X:Cx):Prop where
  make:findCls X.K (.ref 135) (.type "type") "_make"=some (.get (.builtin "classmethod.__get__") (.ref 91) .none (.ref 135))
  crec:∃ r,recIn X.K 91 "classmethod"=some (.ref 89 :: r)
  len:findIn X.K (.ref 135) "__len__"=some (some (.builtin "tuple.__len__"))
  dmake:∃ z,DefAt X 89 (fdMT 5 "_make" z) (aH (mtSt 5)) ["cls","iterable"]
theorem MG.on {X:Cx} (F:MG X) {h:Heap} {D:PyData→Value→Prop} (k:∀ b o,X.h₀.get? b=some o→h.get? b=some o):MG (X.on h D) :=
  ⟨F.make,F.crec,F.len,let ⟨z,d⟩:=F.dmake;⟨z,d.on k⟩⟩
theorem tlen_kind:builtinKind "tuple.__len__"=some .slot:=by decide +kernel
theorem tlen_split:splitId "tuple.__len__"=some ("tuple","__len__"):=by decide +kernel
section
variable {X:Cx} {k:Nat} {env:Env} {ρ:List (Str×B)} {Q:Fl→List (Str×B)→Prop}
theorem len_mt (G:MF X) (H:MG X) {A:Around} {s:Shared} {t:Addr} {dd:Option Addr} {vs:Array Value} {n:Nat} {P:Value→Shared→Prop} (Kin:X.K.In s.heap) (ho:s.heap.get? t=some { cls:=.ref 135,dict:=dd,data:=.seq vs n }) (hz:vs.size≤sizeLine)
    (h:P (.int vs.size (s.toks+1)) { s with toks:=s.toks+1+1 }):wpAny (model X.prog X.w) A (call (.builtin "len") [.ref t]) P noE s:=by
  have L:=G.looks (M:=model X.prog X.w) Kin
  have t1:Looks (model X.prog X.w) s.heap (typeOf (.ref t)) (.ref 135):=(Looks.ld ho).andThen .now
  have ll:Looks (model X.prog X.w) s.heap (typeLookup (.ref 135) "__len__") (some (.builtin "tuple.__len__")):=looks_findIn Kin H.len
  have hz':(sizeLine:Int) < 2 ^ 63:=by decide
  refine Calls.call_function_entry kind_len plain_len entry_len (args_len1 _) ?_
  unfold Builtin.«len»
  refine wpAny_bind (m:=oneArg "len" _) (wpAny_pure ?_)
  refine wpAny_bind (m:=callSpecial? (.ref t) (Str.ofString "__len__")) ?_
  unfold callSpecial? specialOf
  refine wpAny_bind (wpAny_bind (t1.here (ll.here ?_)))
  dsimp only
  refine wpAny_holding ?_
  rw [PySem.F.slot_tuple_len.bind (.ref t)]
  refine wpAny_bind (wpAny_pure ?_)
  dsimp only
  refine wpAny_bind (wpAny_call (slot_callB PySem.F.slot_tuple_len.plain PySem.F.entry_tuple_len tlen_kind tlen_split (t1.andThen L.tup) (PySem.F.args_tuple_len_1 _) ?_))
  show wpAny _ _ (do retInt (← Builtin.Tuple.tupleItemsOf (.ref t)).size) _ _ s
  refine wpAny_bind (wpAny_tupleItemsOf ho rfl ?_)
  refine wpAny_bind (wpAny_mkInt (wpAny_pure ?_))
  refine wpAny_pure ?_
  refine wpAny_bind (wpAny_holding (wpAny_pure ?_))
  refine wpAny_bind (wpAny_letGo ?_)
  show wpAny _ _ (if ((vs.size:Nat):Int) < 0 then _ else _) _ _ _
  rw [if_neg (by exact aQ 0xf1080c46ff rfl)]
  show wpAny _ _ (if ((vs.size:Nat):Int) ≥ 2 ^ 63 then _ else _) _ _ _
  rw [if_neg (by exact aF 0xf1110c8000000000000000e936f8000000000000000e91c4100f rfl hz hz')]
  exact wpAny_bind (wpAny_mkInt (wpAny_pure ⟨_,rfl,h⟩))
theorem ev_lenM (G:MF X) (H:MG X) {p pos:Pos} {e:Expr} {ds:List PyData} (hx:X.gl ("len":Str)=some (.builtin "len")) (hk:env.kindOf ("len":Str)=some .globalImplicit) (he:Ev X k env ρ e (.dict [(.none,.tuple ds)])) (hz:ds.length≤sizeLine)
    (hs:starEach [e] env=[(false,eval e env)]:=by rfl):Ev X k env ρ (.Call (.Name "len" p) [e] [] pos) (.int ds.length):=fun A bad O s R r=>by
  refine wpAny_Call_Name_kw (glob_use r hx hk ?_)
  refine callWith_method1 (wpAny_items_cons (he.use R r fun v s1 x1 r1 q1=>wpAny_items_nil ?_) hs) hs
  refine q1.mtE fun t dd vs n hb ho qs=>?_
  have hl:vs.size=ds.length:=by rw [← Array.length_toList,qs.length]
  refine len_mt G H (r1.wf.kin.keeps r1.base) ho (by rw [hl];exact hz) ⟨x1.trans (Ext.toks _ _),?_⟩
  rw [hl];exact .int _ _
theorem make1_call (F:DF X) (G:MF X) (H:MG X) {A:Around} {bad:Addr→Prop} {s:Shared} {u:Value} {t:T3} (R:Room (k+1) A) (a:At X s) (low:∀ a,bad a→∃ o,s.heap.get? a=some o) (q:Rep bad s.heap (tup3 t) u) :
    codeAny (model X.prog X.w) A (.call (.ref 89) ⟨[.ref 135,u],[]⟩) (fun r s'=>∃ v,r=.ok (.ret v)∧Ext s s'∧Rep bad s'.heap (mt3 t) v) s:=by
  obtain ⟨z,D⟩:=H.dmake
  have F':DF (X.on s.heap fun _ _=>False):=F.on a.base
  have G':MF (X.on s.heap fun _ _=>False):=G.on a.base
  have H':MG (X.on s.heap fun _ _=>False):=H.on a.base
  refine codeAny_mono (still_frame (bad:=bad) (Dt:=fun _ _=>False) (bs:=[.raw (.ref 135),.val (tup3 t)]) (P:=fun fl _=>fl=.ret (mt3 t)) D R a low (fun _ _ e=>e.elim) (.cons (.raw _) (.cons (.val q) .nil)) rfl fun L=>?_) fun r s' h=>?_
  · refine aC (ex_doc ?_)
    refine aC (bK (d:=mt3 t) (ev_tnew G' F'.tuple rfl (bG (by k_mem)) (aA (by k_mem)) (by simp only [List.length_cons,List.length_nil];decide)) (.inl rfl) ?_)
    refine aC (ex_if (b:=false) (aL (ev_lenM G' H' (ds:=[.int t.1,.int t.2.1,.int t.2.2]) F'.len rfl (aA (by k_mem)) (by simp only [List.length_cons,List.length_nil];decide)) aJ rfl) (fun e=>by cases e) fun _=>aE ?_)
    refine aC (ex_return (d:=mt3 t) (aA (by k_mem)) ⟨rfl,.inr ⟨_,rfl⟩⟩)
  · obtain ⟨v,fl,ρ',O',L,rfl,rfl,hv,x,r'⟩:=h
    exact ⟨v,rfl,x,hv⟩
end
theorem mro_map:mroOf (.type "map")=pure [.type "map",.type "object"]:=by rw [mroOf_type];kernel_rfl
theorem lookup_map_new:typeLookup (.type "map") "__new__"=pure (some (.builtin "map.__new__")):=by rw [typeLookup_type,builtinLookup_eq_fast];kernel_rfl
theorem slot_map_init:Slot "map" "__init__" "object.__init__" :=
  .of (owner:="object") (n:="__init__") (by rw [typeLookup_type,builtinLookup_eq_fast];kernel_rfl) (by decide +kernel) (by decide +kernel) (by decide +kernel)
    (by first | exact .inl (by decide +kernel) | exact .inr (by decide +kernel)) (by rw [isSubtype_type];kernel_rfl)
theorem slot_map_next:Slot "map" "__next__" "map.__next__" :=
  .of (owner:="map") (n:="__next__") (by rw [typeLookup_type,builtinLookup_eq_fast];kernel_rfl) (by decide +kernel) (by decide +kernel) (by decide +kernel)
    (by first | exact .inl (by decide +kernel) | exact .inr (by decide +kernel)) (by rw [isSubtype_type];kernel_rfl)
theorem slot_map_iter:Slot "map" "__iter__" "map.__iter__" :=
  .of (owner:="map") (n:="__iter__") (by rw [typeLookup_type,builtinLookup_eq_fast];kernel_rfl) (by decide +kernel) (by decide +kernel) (by decide +kernel)
    (by first | exact .inl (by decide +kernel) | exact .inr (by decide +kernel)) (by rw [isSubtype_type];kernel_rfl)
theorem called_map:TypeCalled "map" "map.__new__" "object.__init__" :=
  ⟨by decide +kernel,by decide +kernel,⟨_,_,mro_map⟩,madeBy_type mro_map lookup_map_new (by decide +kernel),by decide +kernel,by rw [isSubtype_type];kernel_rfl,slot_map_init⟩
theorem typeCall_map_2 (a b:Value):checkTypeCall "map" ⟨[a,b],[]⟩=pure ():=by kernel_rfl
theorem newCall_map_2 (a b:Value):checkBuiltinCall "map.__new__" ⟨[.type "map",a,b],[]⟩=pure ():=by kernel_rfl
theorem entry_map_new:entryFor table "map.__new__"=some Builtin.«map.__new__»:=entryFor_of_tree (by kernel_rfl)
theorem entry_map_next:entryFor table "map.__next__"=some Builtin.«map.__next__»:=entryFor_of_tree (by kernel_rfl)
theorem entry_map_iter:entryFor table "map.__iter__"=some Builtin.«dict_keyiterator.__iter__» :=
  entryFor_alias (id':="dict_keyiterator.__iter__") (by kernel_rfl) (by first | rfl | decide +kernel | (unfold String.splitOn;simp +decide [String.splitOnAux])) (by decide +kernel) (by kernel_rfl)
theorem args_map_iter (a:Value):argsOk "map.__iter__" ⟨[a],[]⟩:=by unfold argsOk;kernel_rfl
theorem args_map_next (a:Value):argsOk "map.__next__" ⟨[a],[]⟩:=by unfold argsOk;kernel_rfl
theorem sub_map:isSubtype (.type "map") (.type "map")=pure true:=by rw [isSubtype_type];kernel_rfl
theorem map_no_len:typeLookup (.type "map") "__len__"=pure none:=by rw [typeLookup_type,builtinLookup_eq_fast];kernel_rfl
theorem map_no_hint:typeLookup (.type "map") "__length_hint__"=pure none:=by rw [typeLookup_type,builtinLookup_eq_fast];kernel_rfl
noncomputable abbrev IsMap (h:Heap) (z TI:Addr) (f:Value):Prop:=h.get? z=some { cls:=.type "map",dict:=none,data:=.fields #[.ref TI,f],slots:=#[] }
noncomputable abbrev IsOne (h:Heap) (T:Addr) (a:Value):Prop:=h.get? T=some { cls:=.type "tuple",data:=.seq #[a] }
noncomputable abbrev mapH1 (h:Heap) (l:Addr):Heap:=h.push { cls:=.type "list_iterator",data:=.fields #[.ref l,.int 0 0] }
noncomputable abbrev mapH2 (h:Heap) (l:Addr):Heap:=(mapH1 h l).push { cls:=.type "tuple",data:=.seq #[.ref h.objs.size] }
noncomputable abbrev mapH3 (h:Heap) (f:Value) (l:Addr):Heap:=(mapH2 h l).push { cls:=.type "map",data:=.fields #[.ref (mapH1 h l).objs.size,f] }
theorem meets_map_new (f:Value) (l:Addr) (xs:Array Value) :
    Meets (Builtin.«map.__new__» ⟨[.type "map",f,.ref l],[]⟩) (fun _ R s=>s.heap.IsList l xs∧R (.ok (.ret (.ref (mapH2 s.heap l).objs.size))) { s with heap:=mapH3 s.heap f l }) :=
  .of_wp fun prog w A R s h=>by
    obtain ⟨hp,g,d,tk,os⟩:=s;obtain ⟨hl,h⟩:=h
    have hsub:=sub_map
    have hL:Heap.IsList (Shared.heap ⟨hp,g,d,tk,os⟩) l xs:=hl
    wp_walk using wpAny_pyIter_list hL
    exact ⟨_,rfl,h⟩
section
variable {prog:Program} {w:World} {A:Around} {E:Value→Shared→Prop} {s:Shared}
theorem call_map {f:Value} {l:Addr} {xs:Array Value} {Q:Value→Shared→Prop} (hl:s.heap.IsList l xs)
    (h:∀ h',IsMap h' (s.heap.objs.size+2) (s.heap.objs.size+1) f→IsOne h' (s.heap.objs.size+1) (.ref s.heap.objs.size)→h'.IsListIter s.heap.objs.size l 0→(∀ c o,s.heap.get? c=some o→h'.get? c=some o)→Q (.ref (s.heap.objs.size+2)) { s with heap:=h' }) :
    wpAny (model prog w) A (call (.type "map") [f,.ref l]) Q E s:=by
  refine callType_new called_map (by decide) (typeCall_map_2 _ _) (newCall_map_2 _ _) (fun obj=>PySem.F.args_object_init_3 obj _ _) entry_map_new (meets_map_new f l xs) ⟨hl,?_⟩
  have z1:(mapH1 s.heap l).objs.size=s.heap.objs.size+1:=Heap.size_push ..
  have z2:(mapH2 s.heap l).objs.size=s.heap.objs.size+2:=by rw [Heap.size_push,z1]
  have g3:(mapH3 s.heap f l).get? (mapH2 s.heap l).objs.size=some _:=Heap.get?_push_size _ rfl
  have g2:(mapH3 s.heap f l).get? (mapH1 s.heap l).objs.size=some _:=Heap.get?_push_of_some _ (Heap.get?_push_size _ rfl)
  have g1:(mapH3 s.heap f l).get? s.heap.objs.size=some _:=Heap.get?_push_of_some _ (Heap.get?_push_of_some _ (Heap.get?_push_size _ rfl))
  show _∧_
  rw [z2,z1] at g3
  rw [z1] at g2
  rw [z2]
  exact ⟨⟨_,g3,rfl⟩,h _ g3 g2 ⟨_,g1,rfl,rfl⟩ fun c o x=>Heap.get?_push_of_some _ (Heap.get?_push_of_some _ (Heap.get?_push_of_some _ x))⟩
theorem map_next {z TI it l:Addr} {f x:Value} {i:Nat} {xs:Array Value} {Q:Option Value→Shared→Prop} (hz:IsMap s.heap z TI f) (hT:IsOne s.heap TI (.ref it)) (hi:s.heap.IsListIter it l i) (hl:s.heap.IsList l xs) (hx:xs[i]?=some x) (hzi:z ≠ it) (hTi:TI ≠ it)
    (h:∀ h',h'.IsListIter it l (i+1)→Heap.SameBut it s.heap h'→wpAny (model prog w) A.in1 (call f [x]) (fun v s'=>Q (some v) s') (fun _ _=>False) { s with heap:=h' }) :
    wpAny (model prog w) A (pyNext (.ref z)) Q E s:=by
  have hTy:s.TypeIs (.ref z) "map":=⟨_,hz,rfl⟩
  unfold pyNext
  refine wpAny_bind (wpAny_attempt (wpAny_callSpecial?_slot (name:=Str.ofString "__next__") hTy slot_map_next (wpAny_call_entry slot_map_next hTy entry_map_next ?_ (args_map_next _))))
  show wpAny _ _ (field (.ref z) 0 >>= _) _ _ _
  refine wpAny_bind (wpAny_field hz rfl (x:=.ref TI) rfl ?_)
  refine wpAny_bind (wpAny_seqItems hT rfl ?_)
  dsimp only
  refine wpAny_bind ?_
  rw [← Array.forIn_toList]
  simp only [List.forIn_cons,List.forIn_nil]
  refine wpAny_bind (wpAny_bind (wpAny_holding (wpAny_nextOf_list_item hi hl hx fun h1 hi1 hs1=>wpAny_pure ?_)))
  refine wpAny_pure ?_
  have hz1:IsMap h1 z TI f:=(hs1.2 z hzi).trans hz
  refine wpAny_bind (wpAny_field hz1 rfl (x:=f) rfl ?_)
  refine wpAny_bind (wpAny_holding ?_)
  refine wpAny_mono (h h1 hi1 hs1) (fun v s' hv=>?_) fun _ _ e=>e.elim
  refine wpAny_bind (wpAny_letGo ?_)
  exact wpAny_pure ⟨v,rfl,wpAny_pure hv⟩
theorem map_end {z TI it l:Addr} {f:Value} {i:Nat} {xs:Array Value} {Q:Option Value→Shared→Prop} (hh:A.handled=none) (hz:IsMap s.heap z TI f) (hT:IsOne s.heap TI (.ref it)) (hi:s.heap.IsListIter it l i) (hl:s.heap.IsList l xs) (hx:xs[i]?=none)
    (h:∀ h',(∀ b o,b ≠ it→s.heap.get? b=some o→h'.get? b=some o)→Q none { s with heap:=h' }) :
    wpAny (model prog w) A (pyNext (.ref z)) Q E s:=by
  have hTy:s.TypeIs (.ref z) "map":=⟨_,hz,rfl⟩
  unfold pyNext
  refine wpAny_bind (wpAny_attempt (wpAny_callSpecial?_slot (name:=Str.ofString "__next__") hTy slot_map_next (wpAny_call_entry slot_map_next hTy entry_map_next ?_ (args_map_next _))))
  show wpAny _ _ (field (.ref z) 0 >>= _) _ _ _
  refine wpAny_bind (wpAny_field hz rfl (x:=.ref TI) rfl ?_)
  refine wpAny_bind (wpAny_seqItems hT rfl ?_)
  dsimp only
  refine wpAny_bind ?_
  rw [← Array.forIn_toList]
  simp only [List.forIn_cons,List.forIn_nil]
  refine wpAny_bind (wpAny_bind (wpAny_holding (wpAny_nextOf_list_end hh hi hl hx fun h1 e hs1 he=>?_)))
  obtain ⟨o,ho,hc⟩:=he
  refine wpAny_bind (wpAny_isInstance (T:="StopIteration") (b:=true) ⟨o,ho,hc⟩ isSubtype_stop ?_)
  exact wpAny_pure (h _ hs1)
theorem map_iter {z TI:Addr} {f:Value} {Q:Value→Shared→Prop} (hz:IsMap s.heap z TI f) (h:Q (.ref z) s):wpAny (model prog w) A (pyIter (.ref z)) Q E s:=by
  have hT:s.TypeIs (.ref z) "map":=⟨_,hz,rfl⟩
  refine wpAny_pyIter_slot hT slot_map_iter (wpAny_call_entry slot_map_iter hT entry_map_iter ?_ (args_map_iter _))
  show wpAny _ _ (ret (.ref z)) _ _ s
  exact wpAny_pure ⟨_,rfl,"map",_,hT,slot_map_next.lookup,h⟩
end
section
variable {X:Cx} {k:Nat}
structure MapAt (X:Cx) (bad:Addr→Prop) (s:Shared) (S z TI it l mo:Addr) (i:Nat) (rem done:List T3):Prop where
  wat:At X s
  low:∀ a,bad a→∃ o,s.heap.get? a=some o
  bS:bad S
  map:IsMap s.heap z TI (.ref mo)
  one:IsOne s.heap TI (.ref it)
  iter:s.heap.IsListIter it l i
  src:∃ xs n,s.heap.get? l=some { cls:=.type "list",data:=.seq xs n }∧i≤xs.size∧RepL bad s.heap (rem.map tup3) (xs.toList.drop i)
  met:s.heap.get? mo=some (methodObj (.ref 89) (.ref 135))
  out:∃ acc c,s.heap.get? S=some { cls:=.type "list",data:=.seq acc c }∧RepL bad s.heap (done.map mt3) acc.toList
  new:X.h₀.get? S=none∧X.h₀.get? it=none
  zne:z ≠ it∧z ≠ S
  Tne:TI ≠ it∧TI ≠ S
  lne:l ≠ it∧l ≠ S
  mne:mo ≠ it∧mo ≠ S
  ine:it ≠ S
theorem keepseq_it {bad:Addr→Prop} {h h':Heap} {it l:Addr} {i:Nat} (hi:h.IsListIter it l i) (hk:∀ b o,b ≠ it→h.get? b=some o→h'.get? b=some o):KeepSeq bad h h':=fun b o vs n _ e ed=>hk b o (fun q=>by
  subst q;obtain ⟨o',e',_,ed'⟩:=hi;rw [e] at e';cases e';rw [ed] at ed';cases ed') e
theorem map_loop (F:DF X) (G:MF X) (H:MG X) {A:Around} {bad:Addr→Prop} {S z TI it l mo:Addr} {res:Value} {R:Result→Shared→Prop} (Rm:Room (k+3) A) :
    ∀ (rem done:List T3) (i:Nat) (s:Shared),MapAt X bad s S z TI it l mo i rem done→(done++rem).length≤sizeLine →
    (∀ s',(∀ b o,b ≠ it→b ≠ S→s.heap.get? b=some o→s'.heap.get? b=some o)→s'.gens=s.gens→s'.os=s.os→(∃ acc c,s'.heap.get? S=some { cls:=.type "list",data:=.seq acc c }∧RepL bad s'.heap ((done++rem).map mt3) acc.toList)→R (.ok (.ret res)) s') →
    codeAny (model X.prog X.w) A (.builtin "list.extend.loop" ⟨[.ref S,.ref z,res],[]⟩) R s
  | [],done,i,s,M,hz,hR=>by
    obtain ⟨xs,n,hl,hi,q⟩:=M.src
    have hx:xs[i]?=none:=by
      rw [← Array.getElem?_toList]
      have hd:(xs.toList.drop i).length=0:=by have:=q.length;simp at this ⊢;exact aF 0xf1f1001f0822f2082f101 rfl this
      rw [List.getElem?_eq_none]
      rw [List.length_drop] at hd;exact aF 0xf8101100f0822f101 rfl hd
    refine codeAny_builtin PySem.F.entry_extend_loop ?_
    rw [Around.under_plainId PySem.F.plain_extend_loop _]
    show wpAny _ A.in1 (pyNext (.ref z) >>= _) _ _ s
    refine wpAny_bind (map_end Rm.handled M.map M.one M.iter ⟨_,hl,rfl,_,rfl⟩ hx fun h' hk=>?_)
    obtain ⟨acc,c,hS,qS⟩:=M.out
    refine wpAny_pure (hR _ (fun b o h1 _ e=>hk b o h1 e) rfl rfl ⟨acc,c,hk _ _ (Ne.symm M.ine) hS,?_⟩)
    rw [List.append_nil]
    exact qS.keep (keepseq_it M.iter hk)
  | t :: rem,done,i,s,M,hz,hR=>by
    obtain ⟨xs,n,hl,hi,q⟩:=M.src
    obtain ⟨acc,c,hS,qS⟩:=M.out
    rw [List.map_cons] at q
    have hdl:(xs.toList.drop i).length=rem.length+1:=by have:=q.length;simp at this ⊢;exact aO 0xf8001f1001f180a32f3180a2f211 rfl this
    have hil:i < xs.size:=by rw [List.length_drop,Array.length_toList] at hdl;exact aO 0xf118f1008f011f182a32f100 rfl hdl
    have hdrop:xs.toList.drop i=xs[i] :: xs.toList.drop (i+1):=by
      rw [List.drop_eq_getElem_cons (by simpa using hil)];simp
    rw [hdrop] at q
    have qx:Rep bad s.heap (tup3 t) xs[i]:=by cases q with | cons a b=>exact a
    have qr:RepL bad s.heap (rem.map tup3) (xs.toList.drop (i+1)):=by cases q with | cons a b=>exact b
    refine codeAny_builtin PySem.F.entry_extend_loop ?_
    rw [Around.under_plainId PySem.F.plain_extend_loop _]
    show wpAny _ A.in1 (pyNext (.ref z) >>= _) _ _ s
    refine wpAny_bind (map_next M.map M.one M.iter ⟨_,hl,rfl,_,rfl⟩ (Array.getElem?_eq_getElem hil) M.zne.1 M.Tne.1 fun h1 hi1 hs1=>?_)
    have k1:∀ b o,b ≠ it→s.heap.get? b=some o→h1.get? b=some o:=fun b o hb e=>(hs1.2 b hb).trans e
    have kq1:KeepSeq bad s.heap h1:=keepseq_it M.iter k1
    have a1:At X { s with heap:=h1 }:=⟨M.wat.wf,fun b o e=>k1 b o (fun q=>by rw [q,M.new.2] at e;cases e) (M.wat.base b o e),M.wat.gens,M.wat.os⟩
    have low1:∀ a,bad a→∃ o,h1.get? a=some o:=fun a ha=>by
      by_cases q:a=it
      · subst q;obtain ⟨o,e,_⟩:=hi1;exact ⟨o,e⟩
      · obtain ⟨o,e⟩:=M.low a ha;exact ⟨o,k1 a o q e⟩
    refine wpAny_call (method_call (k1 _ _ M.mne.1 M.met) ?_)
    refine codeAny_mono (make1_call F G H (k:=k) (bad:=bad) (t:=t) Rm.in1.in1 a1 low1 (qx.keep kq1)) fun r s2 hr=>?_
    obtain ⟨v,rfl,x2,qv⟩:=hr
    show wpAny _ A.in1 (updateSeq S (·.push v) >>= _) _ _ _
    have k2:∀ b o,b ≠ it→s.heap.get? b=some o→s2.heap.get? b=some o:=fun b o hb e=>x2.keep b o (k1 b o hb e)
    have hS2:=k2 _ _ (Ne.symm M.ine) hS
    have hal:acc.size=done.length:=by have:=qS.length;simp at this;exact aF 0xf81f11f012f102f rfl this
    rw [List.length_append,List.length_cons] at hz
    have kq2:KeepSeq bad s.heap s2.heap:=fun b o vs n hb e ed=>x2.keep b o (kq1 b o vs n hb e ed)
    have kS:KeepSeq bad s2.heap (s2.heap.update S (Obj.mapSeq (·.push v))):=fun b o vs n hb e ed=>(Heap.get?_update_ne _ _ _ _ fun q:b=S=>hb (by rw [q];exact M.bS)).trans e
    have k3:∀ b o,b ≠ S→s2.heap.get? b=some o→(s2.heap.update S (Obj.mapSeq (·.push v))).get? b=some o:=fun b o hb e=>(Heap.get?_update_ne _ _ _ _ hb).trans e
    have hS3:=Heap.get?_update_self (Obj.mapSeq (·.push v)) hS2 rfl
    refine wpAny_bind (wpAny_updateSeq hS2 rfl (wpAny_pure ⟨plainId_quiet PySem.F.plain_extend_loop _,?_⟩) (by rw [hal];exact aO 0xf11200f2181a0a0f rfl hz) (by show (acc.push v).size≤sizeLine+1;rw [Array.size_push,hal];exact aO 0xf11182a180a0f2181a0a0f rfl hz))
    have M':MapAt X bad { s2 with heap:=s2.heap.update S (Obj.mapSeq (·.push v)) } S z TI it l mo (i+1) rem (done++[t]):=by
      refine ⟨⟨M.wat.wf,fun b o e=>k3 b o (fun q=>by rw [q,M.new.1] at e;cases e) (x2.keep b o (a1.base b o e)),x2.gens.trans a1.gens,x2.os.trans a1.os⟩,fun a ha=>?_,M.bS,k3 _ _ M.zne.2 (k2 _ _ M.zne.1 M.map),k3 _ _ M.Tne.2 (k2 _ _ M.Tne.1 M.one),hi1.at fun o e=>k3 _ o M.ine (x2.keep _ o e),⟨xs,n,k3 _ _ M.lne.2 (k2 _ _ M.lne.1 hl),hil,(qr.keep kq2).keep kS⟩,k3 _ _ M.mne.2 (k2 _ _ M.mne.1 M.met),⟨acc.push v,_,hS3,?_⟩,M.new,M.zne,M.Tne,M.lne,M.mne,M.ine⟩
      · by_cases q:a=S
        · subst q;exact ⟨_,hS3⟩
        · obtain ⟨o,e⟩:=low1 a ha;exact ⟨o,k3 a o q (x2.keep a o e)⟩
      · rw [List.map_append,List.map_singleton]
        exact ((qS.keep kq2).keep kS).push (qv.keep kS)
    refine map_loop F G H Rm rem (done++[t]) (i+1) _ M' (by simp;exact aO 0xf112181a0a0f2181a0a0f rfl hz) fun s' hk hg hos ho=>?_
    refine hR s' (fun b o h1 h2 e=>hk b o h1 h2 (k3 b o h2 (k2 b o h1 e))) (hg.trans x2.gens) (hos.trans x2.os) ?_
    rw [List.append_assoc,List.singleton_append] at ho
    exact ho
end
section
variable {X:Cx} {k:Nat} {env:Env} {ρ:List (Str×B)}
theorem call_list_map (F:DF X) (G:MF X) (H:MG X) {A:Around} {bad:Addr→Prop} {s:Shared} {z TI it l mo:Addr} {xs:Array Value} {n:Nat} {ms:List T3} {Q:Value→Shared→Prop} (Rm:Room (k+4) A) (a:At X s) (low:∀ a,bad a→∃ o,s.heap.get? a=some o)
    (hz:IsMap s.heap z TI (.ref mo)) (hT:IsOne s.heap TI (.ref it)) (hi:s.heap.IsListIter it l 0) (hl:s.heap.get? l=some { cls:=.type "list",data:=.seq xs n }) (q:RepL bad s.heap (ms.map tup3) xs.toList) (hm:s.heap.get? mo=some (methodObj (.ref 89) (.ref 135)))
    (h0:X.h₀.get? it=none) (ne:z ≠ it∧TI ≠ it∧l ≠ it∧mo ≠ it) (hsz:ms.length≤sizeLine)
    (hQ:∀ s' acc c,(∀ b o,b ≠ it→s.heap.get? b=some o→s'.heap.get? b=some o)→s'.gens=s.gens→s'.os=s.os→s'.heap.get? s.heap.objs.size=some { cls:=.type "list",data:=.seq acc c }→RepL (fun b=>bad b∨b=s.heap.objs.size) s'.heap (ms.map mt3) acc.toList→Q (.ref s.heap.objs.size) s') :
    wpAny (model X.prog X.w) A (call (.type "list") [.ref z]) Q noE s:=by
  have lt:∀ {b:Addr} {o:Obj},s.heap.get? b=some o→b ≠ s.heap.objs.size:=fun e=>Nat.ne_of_lt (Heap.lt_size e)
  refine callType_codes (Q₁:=fun obj s₁=>obj=.ref s.heap.objs.size∧s₁={ s with heap:=s.heap.push { cls:=.type "list",data:=.seq #[] } }) PySem.F.called_list (PySem.F.typeCall_list_1 _) PySem.F.entry_list_init
    (code_list_new _ ⟨rfl,rfl⟩) fun obj s₁ h₁=>?_
  obtain ⟨rfl,rfl⟩:=h₁
  generalize hSd:s.heap.objs.size=S at *
  have hS:(s.heap.push { cls:=.type "list",data:=.seq #[] }).get? S=some { cls:=.type "list",data:=.seq #[] }:=hSd ▸ Heap.get?_push_size _ rfl
  refine ⟨⟨_,hS,rfl⟩,PySem.F.args_list_init_2 _ _,?_⟩
  have kp:∀ b o,s.heap.get? b=some o→(s.heap.push { cls:=.type "list",data:=.seq #[] }).get? b=some o:=fun b o e=>Heap.get?_push_of_some _ e
  generalize (s.heap.push { cls:=.type "list",data:=.seq #[] }:Heap)=h1 at hS kp ⊢
  show wpAny _ A.in1.in1 (do let old ← Builtin.List.listItems (.ref S);Builtin.List.listUpdate (.ref S) (fun _=>#[]);letGo old.toList.reverse;Builtin.List.listExtendWith (.ref S) (.ref z) .none) _ _ _
  refine wpAny_bind ?_
  unfold Builtin.List.listItems
  refine wpAny_bind (wpAny_seqItems (s:={ s with heap:=h1 }) hS rfl (wpAny_pure ?_))
  show wpAny _ A.in1.in1 (updateSeq S (fun _=>#[]) >>= fun _=>letGo (#[]:Array Value).toList.reverse >>= fun _=>Builtin.List.listExtendWith (.ref S) (.ref z) .none) _ _ _
  refine wpAny_bind (wpAny_updateSeq (s:={ s with heap:=h1 }) hS rfl ?_)
  have hS2:=Heap.get?_update_self (Obj.mapSeq (fun _=>(#[]:Array Value))) hS rfl
  have k2:∀ b o,s.heap.get? b=some o→(h1.update S (Obj.mapSeq (fun _=>(#[]:Array Value)))).get? b=some o:=fun b o e=>(Heap.get?_update_other _ _ (fun x=>lt e x.symm)).trans (kp b o e)
  refine wpAny_bind (wpAny_letGo ?_)
  dsimp only
  generalize (h1.update S (Obj.mapSeq (fun _=>(#[]:Array Value))):Heap)=h2 at hS2 k2 ⊢
  have hS2':∃ c,h2.get? S=some { cls:=.type "list",data:=.seq #[] c }:=⟨_,hS2⟩
  clear hS2
  obtain ⟨c2,hS2⟩:=hS2'
  have hz2:=k2 _ _ hz
  have hTy:({ s with heap:=h2 }:Shared).TypeIs (.ref z) "map":=⟨_,hz2,rfl⟩
  unfold Builtin.List.listExtendWith
  refine wpAny_bind (wpAny_typeOf hTy ?_)
  have e1:Builtin.List.listSameRef (.ref S) (.ref z)=false:=by simp [Builtin.List.listSameRef,Ne.symm (lt hz)]
  have e2:(Value.type "map" == Value.type "list")=false:=by decide
  have e3:(Value.type "map" == Value.type "tuple")=false:=by decide
  simp only [e1,e2,e3,Bool.or_false,Bool.false_eq_true,if_false]
  refine wpAny_bind (map_iter (s:={ s with heap:=h2 }) hz2 ?_)
  refine wpAny_bind (wpAny_holding ?_)
  unfold Builtin.List.listLengthHint
  refine wpAny_bind (wpAny_specialOf hTy map_no_len ?_)
  show wpAny _ A.in1.in1 (specialOf (Value.ref z) (Str.ofString "__length_hint__") >>= _) _ _ _
  refine wpAny_bind (wpAny_specialOf hTy map_no_hint ?_)
  refine wpAny_pure ?_
  show wpAny _ A.in1.in1 (rule "list.extend.makes-room" >>= fun _=>Builtin.List.listTouch (.ref S) >>= fun _ =>
    again (.builtin "list.extend.loop" ⟨[.ref S,.ref z,.none],[]⟩)) _ _ _
  refine wpAny_bind (wpAny_rule ?_)
  refine wpAny_bind ?_
  show wpAny _ A.in1.in1 (updateSeq S (·.push .none) >>= fun _=>updateSeq S (·.pop)) _ _ _
  refine wpAny_bind (wpAny_updateSeq (s:={ s with heap:=h2 }) hS2 rfl ?_)
  have hS3:=Heap.get?_update_self (Obj.mapSeq (·.push Value.none)) hS2 rfl
  refine wpAny_updateSeq (hz:=by seq_fits) hS3 rfl ?_
  have hS4:=Heap.get?_update_self (Obj.mapSeq (·.pop)) hS3 rfl
  have k4:∀ b o,s.heap.get? b=some o→((h2.update S (Obj.mapSeq (·.push Value.none))).update S (Obj.mapSeq (·.pop))).get? b=some o:=fun b o e =>
    (Heap.get?_update_other _ _ (fun x=>lt e x.symm)).trans ((Heap.get?_update_other _ _ (fun x=>lt e x.symm)).trans (k2 b o e))
  dsimp only
  generalize ((h2.update S (Obj.mapSeq (·.push Value.none))).update S (Obj.mapSeq (·.pop)):Heap)=h4 at hS4 k4 ⊢
  refine wpAny_pure ⟨plainId_quiet PySem.F.plain_extend_loop _,?_⟩
  have hX:X.h₀.get? S=none:=by
    cases e:X.h₀.get? S with
    | none=>rfl
    | some o=>exact absurd rfl (lt (a.base _ _ e))
  have qk:RepL (fun b=>bad b∨b=S) h4 (ms.map tup3) xs.toList:=(q.imp fun b o e hb=>hb.elim id fun x=>absurd x (lt e)).keep fun b o _ _ _ e _=>k4 b o e
  have M:MapAt X (fun b=>bad b∨b=S) { s with heap:=h4 } S z TI it l mo 0 ms []:=by
    refine ⟨⟨a.wf,fun b o e=>k4 b o (a.base b o e),a.gens,a.os⟩,fun b hb=>?_,.inr rfl,k4 _ _ hz,k4 _ _ hT,hi.at fun o e=>k4 _ o e,⟨xs,n,k4 _ _ hl,Nat.zero_le _,by rw [List.drop_zero];exact qk⟩,k4 _ _ hm,⟨_,_,hS4,.nil⟩,⟨hX,h0⟩,⟨ne.1,lt hz⟩,⟨ne.2.1,lt hT⟩,⟨ne.2.2.1,lt hl⟩,⟨ne.2.2.2,lt hm⟩,?_⟩
    · rcases hb with hb | rfl
      · obtain ⟨o,e⟩:=low b hb;exact ⟨o,k4 b o e⟩
      · exact ⟨_,hS4⟩
    · obtain ⟨o,e,_⟩:=hi;exact lt e
  refine map_loop F G H Rm.in1 ms [] 0 _ M (by simpa using hsz) fun s' hk hg hos ho=>?_
  obtain ⟨acc,c,e1,e2⟩:=ho
  refine ⟨rfl,hQ s' acc c (fun b o hb e=>hk b o hb (lt e) (k4 b o e)) hg hos e1 ?_⟩
  rw [List.nil_append] at e2;exact e2
end
section
variable {X:Cx} {k:Nat} {env:Env} {ρ:List (Str×B)}
theorem evf_makes (F:DF X) (G:MF X) (H:MG X) {p p2 p3 p4 p5 p6:Pos} {e:Expr} {ms:List T3} (hk1:env.kindOf ("list":Str)=some .globalImplicit) (hk2:env.kindOf ("map":Str)=some .globalImplicit) (hk3:env.kindOf ("Match":Str)=some .globalImplicit)
    (he:EvS X (k+4) env ρ e (ms.map tup3)) (hsz:ms.length≤sizeLine)
    (hs1:starEach [.Call (.Name "map" p2) [.Attribute (.Name "Match" p3) "_make" p4,e] [] p5] env=[(false,eval (.Call (.Name "map" p2) [.Attribute (.Name "Match" p3) "_make" p4,e] [] p5) env)]:=by rfl)
    (hs2:starEach [.Attribute (.Name "Match" p3) "_make" p4,e] env=(false,eval (.Attribute (.Name "Match" p3) "_make" p4) env) :: starEach [e] env:=by rfl) (hs3:starEach [e] env=[(false,eval e env)]:=by rfl) :
    EvF X (k+4) env ρ (.Call (.Name "list" p) [.Call (.Name "map" p2) [.Attribute (.Name "Match" p3) "_make" p4,e] [] p5] [] p6) (ms.map mt3):=fun A bad O s R r=>by
  obtain ⟨rr,hrec⟩:=H.crec
  have Kin:=r.wf.kin.keeps r.base
  refine wpAny_Call_Name_kw (glob_use r F.list hk1 ?_)
  refine PySem.callWith_type (by rw [hs1];rfl) (Calls.evalArgs_plain ?_)
  refine wpAny_items_cons ?_ hs1
  refine wpAny_Call_Name_kw (glob_use r F.map hk2 ?_)
  refine PySem.callWith_type (by rw [hs2,hs3];rfl) (Calls.evalArgs_plain ?_)
  refine wpAny_items_cons ?_ hs2
  refine Attribute_name (glob_use r F.mtch hk3 ?_)
  refine cls_bind Kin G.reads H.make (wpAny_call (cm_get (s:={ s with toks:=s.toks+1 }) Kin hrec (handed_on rfl ?_)))
  have x1:Ext s { s with heap:=s.heap.push (methodObj (.ref 89) (.ref 135)),toks:=s.toks+1 }:=⟨fun b o e=>Heap.get?_push_of_some _ e,rfl,rfl⟩
  have hmo:(s.heap.push (methodObj (.ref 89) (.ref 135))).get? s.heap.objs.size=some (methodObj (.ref 89) (.ref 135)):=Heap.get?_push_size _ rfl
  show wpAny _ _ _ _ _ { s with heap:=s.heap.push (methodObj (.ref 89) (.ref 135)),toks:=s.toks+1 }
  have r1:=r.ext x1
  refine wpAny_items_cons (he.use R r1 fun l xs s2 x2 r2 hpl q=>?_) hs3
  obtain ⟨n,hl⟩:=hpl
  have hmo2:=x2.keep _ _ hmo
  refine wpAny_items_nil ?_
  show wpAny _ _ (call (.type "map") [.ref s.heap.objs.size,.ref l]) _ _ s2
  refine call_map (f:=.ref s.heap.objs.size) ⟨_,hl,rfl,_,rfl⟩ fun h3 hz hT hi hk=>?_
  refine wpAny_items_nil ?_
  show wpAny _ _ (call (.type "list") [.ref (s2.heap.objs.size+2)]) _ _ { s2 with heap:=h3 }
  have x3:Ext s2 { s2 with heap:=h3 }:=⟨hk,rfl,rfl⟩
  have r3:=r2.ext x3
  have ltz:∀ {b:Addr} {o:Obj},s2.heap.get? b=some o→b ≠ s2.heap.objs.size:=fun e=>Nat.ne_of_lt (Heap.lt_size e)
  have h0:X.h₀.get? s2.heap.objs.size=none:=by
    cases e:X.h₀.get? s2.heap.objs.size with
    | none=>rfl
    | some o=>exact absurd rfl (ltz (r2.base _ _ e))
  refine call_list_map F G H (bad:=aS bad O) (xs:=xs) (n:=n) (ms:=ms) R r3.at (badO_alive r3) hz hT hi (hk _ _ hl) (q.ext x3) (hk _ _ hmo2) h0 ⟨Nat.ne_of_gt (Nat.lt_add_of_pos_right (by decide)),Nat.ne_of_gt (Nat.lt_add_of_pos_right (by decide)),ltz hl,ltz hmo2⟩ hsz fun s' acc c hk' hg hos hS qS=>?_
  have hnew:∀ b,s.heap.get? b=none∨b ≠ s2.heap.objs.size:=fun b=>by
    by_cases hb:b=s2.heap.objs.size
    · left
      cases e:s.heap.get? b with
      | none=>rfl
      | some o=>exact absurd hb (ltz (x2.keep _ _ (x1.keep _ _ e)))
    · exact .inr hb
  refine ⟨⟨fun b o e=>?_,hg.trans (x2.gens.trans x1.gens),hos.trans (x2.os.trans x1.os)⟩,_,acc,c,rfl,?_,hS,qS⟩
  · rcases hnew b with h | h
    · rw [h] at e;cases e
    · exact hk' b o h (hk _ _ (x2.keep _ _ (x1.keep _ _ e)))
  · cases e:s.heap.get? h3.objs.size with
    | none=>rfl
    | some o=>exact absurd (Heap.lt_size (hk _ _ (x2.keep _ _ (x1.keep _ _ e)))) (Nat.lt_irrefl _)
end
theorem findBy_mem {K:Type} {is:K→Value→Bool} {es:Array DictEntry} {k:K} {v:Value} (h:findBy is es k=some v):∃ e,e∈es:=by
  by_cases hz:es=#[]
  · subst hz;cases h
  · obtain ⟨e,he⟩:=Array.exists_mem_of_ne_empty es hz
    exact ⟨e,he⟩
theorem dict_apart {X:Cx} {h:Heap} {d dx:Addr} {o:Obj} {m:Str→Option Value} {N:Nat} {kvs:List (Int×Value)} {v:Value} (hd:h.DictOf (DK X) d kvs) (ho:h.get? dx=some o) (ha:AObj o m N) (hm:m "a"=some v):d ≠ dx:=fun e=>by
  subst e
  obtain ⟨o',es',ep',ho',_,hd',hk',_⟩:=hd
  rw [ho] at ho';cases ho'
  obtain ⟨es,ep,hdd,hs,hf,_⟩:=ha
  rw [hdd] at hd';cases hd'
  have:=hf "a"
  rw [hm] at this
  obtain ⟨e,he⟩:=findBy_mem this
  obtain ⟨n,t,h1⟩:=hs e he
  obtain ⟨k,h2,_⟩:=hk' e he
  rw [h1] at h2
  cases h2
theorem Mat.hide {X:Cx} {h:Heap} {x dx:Addr} {m:Str→Option Value} {N:Nat} {va vb:Value} {as bs:List Int} {o:Obj} (M:Mat X h x dx m va vb as bs) (ho:h.get? dx=some o) (ha:AObj o m N):Mat X (h.hide dx) x dx m va vb as bs:=by
  have hne:∀ {b:Addr} {ob:Obj},h.get? b=some ob→(∀ es ep,ob.data ≠ .dict es ep)→b ≠ dx:=fun e hd q=>by
    subst q;rw [ho] at e;cases e
    obtain ⟨es,ep,hdd,_⟩:=ha
    exact hd es ep hdd
  refine ⟨?_,M.a,M.ha,M.b,M.hb,M.free,?_⟩
  · rw [Heap.hide_ne _ (hne M.obj fun _ _ e=>by cases e)];exact M.obj
  · obtain ⟨d,js,led,h1,h2,h3,kvs,h4,h5,h6,h7⟩:=M.rest
    refine ⟨d,js,led,h1,h2,by rw [Heap.hide_ne _ (hne h3 fun _ _ e=>by cases e)];exact h3,kvs,?_,h5,h6,fun y=>?_⟩
    · have:=dict_apart h4 ho ha M.a
      obtain ⟨o',es',ep',ho',rest⟩:=h4
      exact ⟨o',es',ep',by rw [Heap.hide_ne _ this];exact ho',rest⟩
    · rcases h7 y with ⟨v,l,ol,e1,e2,e3,e4⟩ | e
      · refine .inl ⟨v,l,ol,e1,e2,?_,e4⟩
        rw [Heap.hide_ne _ (hne e3 fun _ _ e=>by obtain ⟨vs,n,rfl,_⟩:=e4;cases e)];exact e3
      · exact .inr e
section
variable {X:Cx} {k:Nat} {as bs:List Int} {va vb:Value}
noncomputable abbrev XB (X:Cx) (h:Heap) (as bs:List Int) (va vb:Value):Cx:=X.on h fun d v=>(d=.list (as.map .int)∧v=va)∨(d=.list (bs.map .int)∧v=vb)
noncomputable def blks (as bs:List Int):List T3:=ro (mm as bs) (bO as bs)++[(as.length,bs.length,0)]
theorem blocks_call (F:DF X) (G:MF X) (H:MG X) {A:Around} {bad:Addr→Prop} {s:Shared} {x dx:Addr} {m:Str→Option Value} {N:Nat} (R:Room (k+5) A) (a:At X s) (hX:X.h₀.get? dx=none) (hb:¬ bad dx) (low:∀ a,bad a→∃ o,s.heap.get? a=some o)
    (I:Inst s.heap 242 x dx m N) (M:Mat X s.heap x dx m va vb as bs) (hmb:m "matching_blocks"=some .none) (ra:Rep bad s.heap (.list (as.map .int)) va) (rb:Rep bad s.heap (.list (bs.map .int)) vb) (hN:N < 900) (hza:as.length≤1000) (hzb:bs.length≤1000) (h64:(ro (mm as bs) (bO as bs)).length < 64) :
    codeAny (model X.prog X.w) A (.call (.ref 203) ⟨[.ref x],[]⟩) (fun r s'=>∃ v,r=.ok (.ret v)∧KeepBut dx s s'∧Rep bad s'.heap (.list ((blks as bs).map mt3)) v∧∃ o',s'.heap.get? dx=some o'∧AObj o' (upd m "matching_blocks" v) (N+1)) s:=by
  obtain ⟨cd,hC⟩:=F.cls
  obtain ⟨o,ho,hao⟩:=I.nsb.aobj
  obtain ⟨_,_,z,D⟩:=F.blocks
  have hsl:5000≤sizeLine:=by decide
  have hx:(s.heap.hide dx).get? x=some (instObj 242 dx):=by rw [Heap.hide_ne _ I.xne];exact I.obj
  refine method_frame_wp (bad:=bad) (Dt:=fun d v=>(d=.list (as.map .int)∧v=va)∨(d=.list (bs.map .int)∧v=vb)) (bs:=[.raw (.ref x)])
    (P:=fun v s'=>Rep bad s'.heap (.list ((blks as bs).map mt3)) v∧∃ o',s'.heap.get? dx=some o'∧AObj o' (upd m "matching_blocks" v) (N+1)) D R a ho hao.noseq hX hb low ?dat (.cons (.raw _) .nil) rfl fun L A' O s₁ R' r=>?_
  case dat =>
    rintro d v (⟨rfl,rfl⟩ | ⟨rfl,rfl⟩)
    · exact ra.hide ho hao.noseq
    · exact rb.hide ho hao.noseq
  have kb:=hide_on a hX
  have F':DF (XB X (s.heap.hide dx) as bs va vb):=F.on kb
  have G':MF (XB X (s.heap.hide dx) as bs va vb):=G.on kb
  have H':MG (XB X (s.heap.hide dx) as bs va vb):=H.on kb
  have M':=M.hide ho hao
  refine Exs.then (ss1:=(aH (smSt 7)).take 12) (ss2:=(aH (smSt 7)).drop 12) (P:=fun ρ'=>aM ρ' "self" (.raw (.ref x))∧aM ρ' "#d" (.at dx o)∧aM ρ' "non_adjacent" (.own ((blks as bs).map tup3))) ?_ R' r ?_
  · exact blocks_walk (k:=k+1) F' G' (z:=z) hao ⟨M'.obj,M'.a,M'.ha,M'.b,M'.hb,M'.free,M'.rest⟩ hmb (.inl ⟨rfl,rfl⟩) (.inr ⟨rfl,rfl⟩) hza hzb h64 fun f h=>⟨rfl,f.s,f.d,h⟩
  · rintro ρ' O' s' ⟨hself,hd',hna⟩ st r'
    have hev:∀ p p2 p3 p4 p5 p6 p7:Pos,EvF (XB X (s.heap.hide dx) as bs va vb) (k+4) (callEnvC (fdSM 7 "get_matching_blocks" z) L 203) ρ' (.Call (.Name "list" p) [.Call (.Name "map" p2) [.Attribute (.Name "Match" p3) "_make" p4,.Name "non_adjacent" p7] [] p5] [] p6) ((blks as bs).map mt3) :=
      fun p p2 p3 p4 p5 p6 p7=>evf_makes F' G' H' rfl rfl rfl (evs_own hna) (by unfold blks;rw [List.length_append,List.length_singleton];exact aF 0xf1111180a0f11388290400901f rfl h64 hsl)
    refine wpAny_execs_cons (wpAny_Assign_stores (wpAny_mono (hev _ _ _ _ _ _ _ A' bad O' s' R' r') (fun v s2 q=>?_) fun _ _ x=>x) rfl rfl)
    obtain ⟨x2,l,vs,n,rfl,hnone,hl,ql⟩:=q
    have r2:=r'.ext x2
    have hgood:=new_good r' hnone
    have rl:Rep (aS bad O') s2.heap (.list ((blks as bs).map mt3)) (.ref l):=.list hgood hl (ql.imp fun _ _ _ h=>.inl h)
    have hasg:∀ yp pos:Pos,AsgV (XB X (s.heap.hide dx) as bs va vb) (k+4) (callEnvC (fdSM 7 "get_matching_blocks" z) L 203) ρ' (.Attribute (.Name "self" yp) "matching_blocks" pos) (.ref l) (fun ρ''=>∃ o1,aM ρ'' "#d" (.at dx o1)∧aM ρ'' "self" (.raw (.ref x))∧AObj o1 (upd m "matching_blocks" (.ref l)) (N+1)):=fun yp pos =>
      bN (key:="#d") hself hx hd' hao hC (F.own "matching_blocks" (by decide)).2 (by exact aQ 0xf113e81901f3841901f rfl hN) (fun o1 h1=>⟨o1,by k_mem,by k_mem,h1⟩)
    refine wpAny_mono (hasg _ _ A' bad O' s2 R' r2) (fun _ s3 p3=>?_) fun _ _ x=>x
    obtain ⟨O3,ρ3,⟨o1,d1,d2,d3⟩,st3,r3⟩:=p3
    have q3:=rl.step r2.frm st3
    refine wpAny_execs_cons (wpAny_Return_some ((evv_attr (X:=XB X (s.heap.hide dx) as bs va vb) (key:="#d") d2 ⟨hx,.inl ⟨o1,d1,d3⟩⟩ hC (F.own "matching_blocks" (by decide)).1 (v:=.ref l) (by unfold upd;rw [if_pos rfl])).use R' r3 fun s4 x4 r4=>?_))
    exact ⟨.ref l,.inr rfl,r4.at,(q3.ext x4).weak,o1,(r4.pt _ _ _ d1).2,d3⟩
end
section
variable {X:Cx} {k:Nat} {env:Env} {ρ ρ₀:List (Str×B)} {Q:Fl→List (Str×B)→Prop}
theorem ex_forM {target iter:Expr} {body:List Stmt} {pos:Pos} {items:List PyData} {J0:List (Str×B)→Prop} (hit:∀ (A:Around) (bad:Addr→Prop) (O:Str→Option Addr) (s:Shared),Room k A→Rel X bad O env ρ₀ s →
      wpAny (model X.prog X.w) A (eval iter env) (fun v s1=>∃ O1 ρ,(Step env O O1 s s1∧Rel X bad O1 env ρ s1∧Rep (aS bad O1) s1.heap (.list items) v)∧J0 ρ) noE s) (J:Nat→List (Str×B)→Prop) (h0:∀ ρ,J0 ρ→J 0 ρ)
    (turn:∀ i d ρ',items[i]?=some d→J i ρ'→∀ Q',Loop (J (i+1)) Q Q'→∃ ρ₁,Asg X k env ρ' target d ρ₁∧Exs X k env ρ₁ body Q')
    (hend:∀ ρ',J items.length ρ'→Q .next ρ') (hs:∀ x,foldedSetIterable iter env x=pure x:=by intro _;rfl):Ex1 X k env ρ₀ (.For target iter body [] pos) Q:=fun A bad O s R r=>by
  refine wpAny_For (wpAny_mono (hit A bad O s R r) (fun v s1 h1=>?_) fun _ _ x=>x) hs
  obtain ⟨O1,ρ,⟨st1,r1,q1⟩,hj⟩:=h1
  refine q1.listE fun a vs n hb g qs=>?_
  refine it_list (k:=k) R (Ext.refl s1) g qs fun s2 I x2 t=>?_
  obtain ⟨P,St,t⟩:=t
  refine codeAny_mono (for_core R r1 ⟨x2,I,_,_,P,St,rfl,t,fun b hb'=>?_⟩ J (h0 ρ hj) turn hend) fun res s3 h3=>?_
  · simp at hb'
    rcases hb' with rfl | rfl
    · exact .inl (by simp)
    · refine .inr ⟨fun hp=>?_,fun x hx=>hb (.inr ⟨x,hx⟩)⟩
      rcases hp with rfl | ⟨n,hn⟩
      · obtain ⟨m,o',es,ep,ho,hd,_⟩:=r1.frm.ns
        rw [g] at ho;cases ho;cases hd
      · obtain ⟨v,o',ho,hd⟩:=r1.frm.cell n b hn
        rw [g] at ho;cases ho;cases hd
  · cases res with
    | ok f=>exact h3.from st1
    | error e=>exact h3
end
section
variable {X:Cx} {k:Nat} {env:Env} {ρ:List (Str×B)} {Q:Fl→List (Str×B)→Prop}
theorem exs_at_own {x key:Str} {l:Addr} {n:Nat} {ss:List Stmt} (hx:ρ.lookup x=some (.raw (.ref l))) (hk:ρ.lookup key=some (.at l { cls:=.type "list",data:=.seq #[] n })) (hne:key ≠ x)
    (h:Exs X k env (put (put ρ key .free) x (.own [])) ss Q):Exs X k env ρ ss Q:=fun A bad O s R r=>by
  obtain ⟨hO,hcur⟩:=r.pt key l _ hk
  obtain ⟨st,r'⟩:=r.moved (y:=x) (b:=.own []) hO trivial (.own ins_self (r.raw x _ hx) hcur .nil)
  exact h.from R st r'
theorem ev_blocks (F:DF X) (G:MF X) (H:MG X) {as bs:List Int} {va vb:Value} {x dx:Addr} {o:Obj} {m:Str→Option Value} {N:Nat} {y:Str} {yp apos pos:Pos} {pl:Sem Bool} (hy:ρ.lookup y=some (.raw (.ref x))) (hd:ρ.lookup ("#d":Str)=some (.at dx o)) (ha:AObj o m N) (M:Mat X X.h₀ x dx m va vb as bs) (hmb:m "matching_blocks"=some .none)
    (da:X.dat (.list (as.map .int)) va) (db:X.dat (.list (bs.map .int)) vb) (hN:N < 900) (hza:as.length≤1000) (hzb:bs.length≤1000) (h64:(ro (mm as bs) (bO as bs)).length < 64)
    (he:eval (.Call (.Attribute (.Name y yp) "get_matching_blocks" apos) [] [] pos) env=(do
      let ov ← eval (.Name y yp) env
      standAt apos.atName
      let (f,first) ← holding [ov] (getMethod ov "get_matching_blocks" pl)
      callWith pos f first (backTo pos (starEach [] env)) []):=by rfl) (hdb:(y == ("__debug__":Str))=false:=by decide)
    {A:Around} {bad:Addr→Prop} {O:Str→Option Addr} {s:Shared} (R:Room (k+5) A) (r:Rel X bad O env ρ s) :
    wpAny (model X.prog X.w) A (eval (.Call (.Attribute (.Name y yp) "get_matching_blocks" apos) [] [] pos) env) (fun v s1=>∃ O1 ρ1,(Step env O O1 s s1∧Rel X bad O1 env ρ1 s1∧Rep (aS bad O1) s1.heap (.list ((blks as bs).map mt3)) v)∧∃ o',ρ1=put ρ "#d" (.at dx o')∧AObj o' (upd m "matching_blocks" v) (N+1)) noE s:=by
  obtain ⟨cd,hC⟩:=F.cls
  obtain ⟨hf,ht,z,D⟩:=F.blocks
  obtain ⟨of,hof,hdf⟩:=D.obj
  obtain ⟨hO,hcur⟩:=r.pt _ _ _ hd
  refine mcall_use0 R r hy ⟨M.obj,.inl ⟨o,hd,ha⟩⟩ hC hf ht (M.free _ (by decide)) hof hdf ?_ he hdb
  have low:∀ b,aS bad (del O "#d") b→∃ o,s.heap.get? b=some o:=fun b hb=>badO_alive r b (badO_del hb)
  have nb:¬ aS bad (del O "#d") dx:=fun h=>by
    rcases h with h | ⟨y,e⟩
    · exact (r.good _ _ hO).1 h
    · unfold del at e
      split at e
      · cases e
      · rename_i hy';exact hy' (r.inj y _ dx e hO)
  have kb:∀ b o,X.h₀.get? b=some o→s.heap.get? b=some o:=r.base
  have M':Mat X s.heap x dx m va vb as bs:=by
    obtain ⟨d,js,led,e1,e2,e3,e4⟩:=M.rest
    exact ⟨kb _ _ M.obj,M.a,M.ha,M.b,M.hb,M.free,d,js,led,e1,e2,kb _ _ e3,e4.keeps kb⟩
  refine wpAny_call (codeAny_mono (blocks_call (k:=k) F G H (bad:=aS bad (del O "#d")) R r.at (r.good _ _ hO).2.1 nb low ⟨kb _ _ M.obj,ha.nsb hcur⟩ M' hmb ((r.datR da).imp fun b _ _ h=>badO_del h) ((r.datR db).imp fun b _ _ h=>badO_del h) hN hza hzb h64) fun res s1 h1=>?_)
  obtain ⟨v,rfl,kp,rv,o',ho',ha'⟩:=h1
  obtain ⟨st,r1⟩:=r.at_change (s':=s1) hd kp.keep ho' kp.gens kp.os
  refine ⟨O,_,⟨st,r1,?_⟩,o',rfl,ha'⟩
  refine rv.map fun b ob vs n nb e ed=>⟨fun hb=>nb ?_,e⟩
  rcases hb with hb | ⟨w,hw⟩
  · exact .inl hb
  · by_cases hwd:w="#d"
    · subst hwd
      rw [hO] at hw;cases hw
      rw [ho'] at e;cases e
      exact absurd ed (ha'.noseq vs n)
    · exact .inr ⟨w,by unfold del;rw [if_neg hwd];exact hw⟩
end
noncomputable abbrev envO (z:Value×Value×Value×Value) (L:Addr):Env:=callEnvC (fdSM 8 "get_opcodes" z) L 210
noncomputable abbrev bodyO (i:Nat):Stmt:=(aH (smSt 8)).getD i (.Pass ⟨0,0,0,0⟩)
noncomputable abbrev loopO (i:Nat):List Stmt:=(forBody (bodyO 4)).drop i
section
variable {X:Cx} {k:Nat} {ρ:List (Str×B)} {z:Value×Value×Value×Value} {L:Addr}
theorem tst_str {env:Env} {e:Expr} {c:Str} (h:Ev X k env ρ e (.str c)) (hz:c.length≤1000) (he:∀ whole,isTrue e env whole=(do let v ← whole;standAt e.pos;holding [v] (truthy v)):=by intro _;rfl):Tst X k env ρ e ((c.length:Int) != 0):=fun A bad O s R r =>
  isTrue_plain (h.use R r fun v s1 x1 r1 q1=>by cases q1;exact PySem.P.truthy_str (by exact aQ 0xf110c8000000000000000e936f3e81900f rfl hz) ⟨x1.trans (Ext.toks _ _),rfl⟩) (he _)
structure OW (i j ai bj n:Nat) (acc:List PyData) (bb:B) (ρ:List (Str×B)):Prop where
  i:aM ρ "i" (.val (.int i))
  j:aM ρ "j" (.val (.int j))
  ai:aM ρ "ai" (.val (.int ai))
  bj:aM ρ "bj" (.val (.int bj))
  n:aM ρ "size" (.val (.int n))
  ans:aM ρ "answer" (.own acc)
  d:aM ρ "#d" bb
theorem OW.tag {i j ai bj n:Nat} {acc:List PyData} {bb b:B} {ρ:List (Str×B)} (W:OW i j ai bj n acc bb ρ):OW i j ai bj n acc bb (put ρ "tag" b):=⟨hn W.i rfl,hn W.j rfl,hn W.ai rfl,hn W.bj rfl,hn W.n rfl,hn W.ans rfl,hn W.d rfl⟩
structure OZ (i j:Nat) (acc:List PyData) (bb:B) (ρ:List (Str×B)):Prop where
  i:aM ρ "i" (.val (.int i))
  j:aM ρ "j" (.val (.int j))
  ans:aM ρ "answer" (.own acc)
  d:aM ρ "#d" bb
theorem opc_same {i j ai bj n:Nat} {acc:List PyData} {bb:B} {P:Fl→List (Str×B)→Prop} (W:OW i j ai bj n acc bb ρ) (hz:acc.length≤1001)
    (hP:∀ {ρ':List (Str×B)},OZ (ai+n) (bj+n) (acc++if n=0 then [] else [code "equal" ai (ai+n) bj (bj+n)]) bb ρ'→P .next ρ'):Exs X (k+5) (envO z L) ρ (loopO 3) P:=by
  have hsl:5000≤sizeLine:=by decide
  refine aC (ex_swap (xs:=["i","j"]) (ds:=[.int ((ai+n:Nat):Int),.int ((bj+n:Nat):Int)]) (aV (aB (aU (aA W.ai) (aA W.n)) (aB (aU (aA W.bj) (aA W.n)) aG)) (by simp only [List.length_cons,List.length_nil];exact aQ 0xf110181808aa0f01388290f rfl hsl)) (bJ (.inl rfl) (bJ (.inl rfl) asgn_nil)) ?_ rfl rfl rfl)
  refine aC (ex_if (tst_int (aA (hn (hn W.n rfl) rfl))) (fun hk=>?_) fun hk=>?_)
  · refine aC (ex_append (d:=code "equal" ai (ai+n) bj (bj+n)) (hn (hn W.ans rfl) rfl) (aV (aB ev_str (aB (aA (hn (hn W.ai rfl) rfl)) (aB (aA hs) (aB (aA (hn (hn W.bj rfl) rfl)) (aB (aA (hn hs rfl)) aG))))) (by simp only [List.length_cons,List.length_nil];exact aQ 0xf110181818181808aaaaa0f01388290f rfl hsl)) (by exact aF 0xf111100f113882903e91900f rfl hz hsl) (aE (aE (hP ⟨hn hs rfl,hn (hn hs rfl) rfl,?_,hn (hn (hn W.d rfl) rfl) rfl⟩))))
    rw [if_neg (by simpa using hk)];exact hs
  · refine aE (aE (hP ⟨hs,hn hs rfl,?_,hn (hn W.d rfl) rfl⟩))
    rw [if_pos (by simpa using hk),List.append_nil];exact hn (hn W.ans rfl) rfl
theorem opc_rest {i j ai bj n:Nat} {acc:List PyData} {t:Str} {bb:B} {P:Fl→List (Str×B)→Prop} (W:OW i j ai bj n acc bb ρ) (h7:aM ρ "tag" (.val (.str t)))
    (hz:acc.length≤1000) (htl:t.length≤1000) (ht:gap i ai j bj=if (t.length:Int) != 0 then [code t i ai j bj] else [])
    (hP:∀ {ρ':List (Str×B)},OZ (ai+n) (bj+n) (acc++gap i ai j bj++if n=0 then [] else [code "equal" ai (ai+n) bj (bj+n)]) bb ρ'→P .next ρ') :
    Exs X (k+5) (envO z L) ρ (loopO 2) P:=by
  have hsl:5000≤sizeLine:=by decide
  refine aC (ex_if (tst_str (aA h7) htl) (fun hk=>?_) fun hk=>?_)
  · rw [if_pos hk] at ht
    rw [ht] at hP
    refine aC (ex_append (ds:=acc) (d:=code t i ai j bj) W.ans (aV (aB (aA h7) (aB (aA W.i) (aB (aA W.ai) (aB (aA W.j) (aB (aA W.bj) aG))))) (by simp only [List.length_cons,List.length_nil];exact aQ 0xf110181818181808aaaaa0f01388290f rfl hsl)) (by exact aF 0xf111100f113882903e81900f rfl hz hsl) (aE ?_))
    exact opc_same ⟨hn W.i rfl,hn W.j rfl,hn W.ai rfl,hn W.bj rfl,hn W.n rfl,hs,hn W.d rfl⟩ (by rw [List.length_append,List.length_singleton];exact aQ 0xf113e919180a0f3e81900f rfl hz) hP
  · rw [if_neg (by rw [hk];decide)] at ht
    rw [ht,List.append_nil] at hP
    exact aE (opc_same W (by exact aQ 0xf113e91900f3e81900f rfl hz) hP)
end
theorem Mat.updO {X:Cx} {h:Heap} {x dx:Addr} {m:Str→Option Value} {va vb v:Value} {as bs:List Int} (M:Mat X h x dx m va vb as bs):Mat X h x dx (upd m "opcodes" v) va vb as bs:=by
  have u:∀ n:Str,n ≠ "opcodes"→upd m "opcodes" v n=m n:=fun n hn=>by unfold upd;rw [if_neg hn]
  obtain ⟨d,js,led,e1,e2,e3,e4⟩:=M.rest
  exact ⟨M.obj,by rw [u _ (by decide)];exact M.a,M.ha,by rw [u _ (by decide)];exact M.b,M.hb,fun f hf=>by rw [u f (fun e=>by subst e;revert hf;decide)];exact M.free f hf,d,js,led,by rw [u _ (by decide)];exact e1,by rw [u _ (by decide)];exact e2,e3,e4⟩
inductive OS (la lb:Nat) (bl:List T3) (p i j:Nat) (acc:List PyData):Prop
  | run:p≤bl.length→acc++opc la lb i j (bl.drop p)=opc la lb 0 0 bl→Good la lb true i j (bl.drop p)→OS la lb bl p i j acc
  | fin:p=bl.length+1→acc=opc la lb 0 0 bl→OS la lb bl p i j acc
theorem OS.step {la lb:Nat} {bl:List T3} {p i j ai bj n:Nat} {acc:List PyData} (S:OS la lb bl p i j acc) (hu:(bl++[(la,lb,0)])[p]?=some (ai,bj,n)) :
    i≤ai∧j≤bj∧OS la lb bl (p+1) (ai+n) (bj+n) (acc++gap i ai j bj++if n=0 then [] else [code "equal" ai (ai+n) bj (bj+n)]):=by
  have hpl:=(List.getElem?_eq_some_iff.mp hu).1
  rw [List.length_append,List.length_singleton] at hpl
  cases S with
  | fin h _=>exact (aF 0xf119f181a02181a01f rfl hpl h).elim
  | run b1 b2 b3 =>
    rcases Nat.lt_or_ge p bl.length with hlt | hge
    · rw [List.getElem?_append_left hlt] at hu
      obtain ⟨hlt',e⟩:=List.getElem?_eq_some_iff.mp hu
      have hd:bl.drop p=(ai,bj,n) :: bl.drop (p+1):=by rw [List.drop_eq_getElem_cons hlt',e]
      rw [hd] at b2 b3
      obtain ⟨g1,g2,g3,g4,g5⟩:=b3.inv
      refine ⟨g1,g2,.run hlt ?_ g5.any⟩
      rw [if_neg (by exact aQ 0xf1808026f0081f rfl g3),← b2]
      simp [opc]
    · obtain rfl:p=bl.length:=by exact aF 0xf101f11f102f010100f rfl b1 hge
      rw [List.getElem?_append_right (Nat.le_refl _),Nat.sub_self] at hu
      obtain ⟨rfl,rfl,rfl⟩:la=ai∧lb=bj∧0=n:=by simpa using hu
      rw [List.drop_length] at b2 b3
      refine ⟨b3.le.1,b3.le.2,.fin rfl ?_⟩
      rw [if_pos rfl,List.append_nil,← b2]
      rfl
inductive OpcAt (la lb:Nat) (bl:List T3) (p:Nat) (bb:B) (ρ:List (Str×B)):Prop
  | mk {i j:Nat} {acc:List PyData}:OZ i j acc bb ρ→acc.length≤2 * p→OS la lb bl p i j acc→OpcAt la lb bl p bb ρ
inductive DA (m:Str→Option Value) (N:Nat) (o:Obj):Prop
  | mk {v1 v2:Value}:AObj o (upd (upd m "opcodes" v1) "matching_blocks" v2) (N+2)→DA m N o
theorem gap_tag {i ai j bj:Nat} (h1:i≤ai) (h2:j≤bj):gap i ai j bj=if i < ai∧j < bj then [code "replace" i ai j bj] else if i < ai then [code "delete" i ai j bj] else if j < bj then [code "insert" i ai j bj] else []:=by
  unfold gap
  by_cases a:i < ai
  · have e1:¬ ai=i:=by exact aF 0xf180126f101f rfl a
    have e2:¬ i=ai:=by exact aF 0xf111026f101f rfl a
    by_cases b:j < bj
    · have e3:¬ j=bj:=by exact aF 0xf111026f101f rfl b
      simp [a,b,e1,e2,e3]
    · have e3:j=bj:=by exact aF 0xf101f11f102f1016100f rfl h2 b
      simp [a,b,e1,e2,e3]
  · have e1:ai=i:=by exact aF 0xf11f101f012f1016100f rfl h1 a
    subst e1
    by_cases b:j < bj
    · have e3:¬ j=bj:=by exact aF 0xf111026f101f rfl b
      simp [b,e3]
    · have e3:j=bj:=by exact aF 0xf101f11f102f1016100f rfl h2 b
      simp [e3]
section
variable {X:Cx} {k:Nat} {as bs:List Int} {va vb:Value}
theorem codes_turn {la lb:Nat} {bl:List T3} {p i j ai bj n:Nat} {acc:List PyData} {bb:B} {L:Addr} {z:Value×Value×Value×Value} {ρ:List (Str×B)} {P:Fl→List (Str×B)→Prop} (W:OW i j ai bj n acc bb ρ) (hl:acc.length≤2 * p) (h64:bl.length < 64) (S:OS la lb bl p i j acc) (hu:(bl++[(la,lb,0)])[p]?=some (ai,bj,n))
    (hP:∀ {ρ':List (Str×B)},OpcAt la lb bl (p+1) bb ρ'→P .next ρ'):Exs X (k+5) (envO z L) ρ (loopO 0) P:=by
  obtain ⟨h1,h2,S'⟩:=S.step hu
  have hpl:=(List.getElem?_eq_some_iff.mp hu).1
  rw [List.length_append,List.length_singleton] at hpl
  have hgl:(gap i ai j bj).length≤1:=by unfold gap;split <;> simp
  have hgt:=gap_tag h1 h2
  have fin:∀ {ρ:List (Str×B)} {t:Str},OW i j ai bj n acc bb ρ→aM ρ "tag" (.val (.str t))→t.length≤1000→(gap i ai j bj=if (t.length:Int) != 0 then [code t i ai j bj] else [])→Exs X (k+5) (envO z L) ρ (loopO 2) P:=fun W ht htl e =>
    opc_rest W ht (by exact aO 0xf22113e81900f182a11400921102b00f rfl hl h64 hpl) htl e fun Z=>hP ⟨Z,by simp only [List.length_append];split <;> simp <;> lia,S'⟩
  clear S' hP hl h64 S hu hpl hgl
  refine aC (bK (d:=.str "") ev_str (.inl rfl) ?_)
  have W:=W.tag (b:=.val (.str ""))
  have hT:aM (put ρ "tag" (.val (.str ""))) "tag" (.val (.str "")):=hs
  generalize put ρ "tag" (.val (.str ""))=ρ1 at *
  refine aC (ex_if (aW (aL (aA W.i) (aA W.ai) rfl) fun _=>aW (aL (aA W.j) (aA W.bj) rfl) fun _=>tst_and0) (fun hc=>?_) fun hc=>?_)
  · simp only [Bool.and_true,Bool.and_eq_true,decide_eq_true_eq] at hc
    exact aC (bK (d:=.str "replace") ev_str (.inl rfl) (aE (fin W.tag hs (by decide) (by rw [hgt,if_pos ⟨by exact aF 0xf11101f1c0c4f rfl hc.1,by exact aF 0xf11101f1c0c4f rfl hc.2⟩];rfl))))
  · simp only [Bool.and_true,Bool.and_eq_false_iff,decide_eq_false_iff_not] at hc
    refine aC (ex_if (aL (aA W.i) (aA W.ai) rfl) (fun hc2=>?_) fun hc2=>?_)
    · simp only [decide_eq_true_eq] at hc2
      exact aC (bK (d:=.str "delete") ev_str (.inl rfl) (aE (aE (fin W.tag hs (by decide) (by rw [hgt,if_neg (by exact bF 0xf101f11f32110176f3c2c461c0c468f rfl hc),if_pos (by exact aF 0xf11101f1c0c4f rfl hc2)];rfl)))))
    · simp only [decide_eq_false_iff_not] at hc2
      refine aC (ex_if (aL (aA W.j) (aA W.bj) rfl) (fun hc3=>?_) fun hc3=>?_)
      · simp only [decide_eq_true_eq] at hc3
        exact aC (bK (d:=.str "insert") ev_str (.inl rfl) (aE (aE (aE (fin W.tag hs (by decide) (by rw [hgt,if_neg (by exact bF 0xf10132110176f1c0c46f rfl hc2),if_neg (by exact aF 0xf111016f1c0c46f rfl hc2),if_pos (by exact aF 0xf11101f1c0c4f rfl hc3)];rfl))))))
      · simp only [decide_eq_false_iff_not] at hc3
        exact aE (aE (aE (fin W hT (by decide) (by rw [hgt,if_neg (by exact bF 0xf10132110176f1c0c46f rfl hc2),if_neg (by exact aF 0xf111016f1c0c46f rfl hc2),if_neg (by exact aF 0xf111016f1c0c46f rfl hc3)];rfl))))
theorem codes_walk (F:DF X) (G:MF X) (H:MG X) {x dx:Addr} {o:Obj} {m:Str→Option Value} {N:Nat} {L:Addr} {z:Value×Value×Value×Value} (ho:AObj o m N) (M:Mat X X.h₀ x dx m va vb as bs) (hmb:m "matching_blocks"=some .none) (hop:m "opcodes"=some .none)
    (da:X.dat (.list (as.map .int)) va) (db:X.dat (.list (bs.map .int)) vb) (hN:N < 800) (hza:as.length≤1000) (hzb:bs.length≤1000) (h64:(ro (mm as bs) (bO as bs)).length < 64) {P:Fl→List (Str×B)→Prop}
    (hP:∀ {ρ':List (Str×B)} {o':Obj},aM ρ' "#d" (.at dx o')→DA m N o'→P (.ret (.list (opc as.length bs.length 0 0 (ro (mm as bs) (bO as bs))))) ρ') :
    Exs X (k+5) (envO z L) (put [("self",.raw (.ref x))] "#d" (.at dx o)) (aH (smSt 8)) P:=by
  obtain ⟨cd,hC⟩:=F.cls
  have hg:Good as.length bs.length true 0 0 (ro (mm as bs) (bO as bs)):=(ro_spec (mm as bs) (Nat.zero_le _) (Nat.zero_le _)).good'
  refine aC (ex_doc ?_)
  refine aC (ex_if (b:=false) (tst_isNotNone (v:=.none) (evv_attr (key:="#d") (by k_mem) ⟨M.obj,.inl ⟨o,by k_mem,ho⟩⟩ hC (F.own "opcodes" (by decide)).1 hop) evv_none) (fun e=>by cases e) fun _=>aE ?_)
  refine aC (ex_assign2 (d:=.int 0) aJ (aK (.inl rfl)) (aK (.inl rfl)) ?_)
  refine aC (ex_assignN2 "#a" evn_list fun l oa hlow hoa=>bN (key:="#d") (o:=o) (m:=m) (N:=N) (by k_mem) M.obj (by k_mem) ho hC (F.own "opcodes" (by decide)).2 (by exact aQ 0xf113e81901f3201901f rfl hN) fun o1 h1=>asgv_name (.inl rfl) ?_)
  subst hoa
  refine exs_at_own (x:="answer") (key:="#a") (l:=l) (n:=0) (by k_mem) (by k_mem) (by decide) ?_
  refine aC (ex_forM (items:=(blks as bs).map mt3) (J0:=fun ρ=>∃ o',OpcAt as.length bs.length (ro (mm as bs) (bO as bs)) 0 (.at dx o') ρ∧DA m N o')
    (fun A bad O s R r=>wpAny_mono (ev_blocks (k:=k) F G H (x:=x) (dx:=dx) (o:=o1) (m:=upd m "opcodes" (.ref l)) (N:=N+1) (y:="self") (by k_mem) (by k_mem) h1 M.updO (by unfold upd;rw [if_neg (by decide)];exact hmb) da db (by exact aQ 0xf1138419180a1f3201901f rfl hN) hza hzb h64 (R:=R) (r:=r)) (fun v s1 h=>?_) fun _ _ x=>x)
    (fun p ρ=>∃ o',OpcAt as.length bs.length (ro (mm as bs) (bO as bs)) p (.at dx o') ρ∧DA m N o') (fun ρ h=>h) ?_ ?_)
  · obtain ⟨O1,ρ1,hh,o',rfl,h2⟩:=h
    exact ⟨O1,_,hh,o',⟨⟨by k_mem,by k_mem,by k_mem,by k_mem⟩,Nat.zero_le _,.run (Nat.zero_le _) (by rw [List.nil_append,List.drop_zero]) (by rw [List.drop_zero];exact hg)⟩,⟨h2⟩⟩
  · rintro p dd ρ hp ⟨o',⟨Z,hl,S⟩,D⟩ Q1 H1
    rw [List.getElem?_map] at hp
    obtain ⟨⟨ai,bj,n⟩,hu,rfl⟩:=Option.map_eq_some_iff.mp hp
    exact ⟨_,asg_mt G (aP (aK (.inl rfl)) (aP (aK (.inl rfl)) (aP (aK (.inl rfl)) asgl_nil))) rfl rfl,
      codes_turn ⟨hn (hn (hn Z.i rfl) rfl) rfl,hn (hn (hn Z.j rfl) rfl) rfl,by k_mem,by k_mem,by k_mem,hn (hn (hn Z.ans rfl) rfl) rfl,hn (hn (hn Z.d rfl) rfl) rfl⟩ hl h64 S hu fun h=>H1.next ⟨o',h,D⟩⟩
  · rintro ρ ⟨o',⟨Z,hl,S⟩,D⟩
    have e:((blks as bs).map mt3).length=(ro (mm as bs) (bO as bs)).length+1:=by unfold blks;simp
    rw [e] at S
    cases S with
    | run h _ _=>exact (aQ 0xf19f0180a0f rfl h).elim
    | fin _ h=>subst h;exact aC (ex_returnOwn Z.ans (hP Z.d D))
end
section
variable {X:Cx} {k:Nat} {env:Env} {ρ:List (Str×B)} {as bs:List Int} {va vb:Value}
theorem codes_call (F:DF X) (G:MF X) (H:MG X) {A:Around} {bad:Addr→Prop} {s:Shared} {x dx:Addr} {m:Str→Option Value} {N:Nat} (R:Room (k+6) A) (a:At X s) (hX:X.h₀.get? dx=none) (hb:¬ bad dx) (low:∀ a,bad a→∃ o,s.heap.get? a=some o)
    (I:Inst s.heap 242 x dx m N) (M:Mat X s.heap x dx m va vb as bs) (hmb:m "matching_blocks"=some .none) (hop:m "opcodes"=some .none) (ra:Rep bad s.heap (.list (as.map .int)) va) (rb:Rep bad s.heap (.list (bs.map .int)) vb) (hN:N < 800) (hza:as.length≤1000) (hzb:bs.length≤1000) (h64:(ro (mm as bs) (bO as bs)).length < 64) :
    codeAny (model X.prog X.w) A (.call (.ref 210) ⟨[.ref x],[]⟩) (fun r s'=>∃ v,r=.ok (.ret v)∧KeepBut dx s s'∧Rep bad s'.heap (.list (opc as.length bs.length 0 0 (ro (mm as bs) (bO as bs)))) v∧∃ o',s'.heap.get? dx=some o'∧DA m N o') s:=by
  obtain ⟨o,ho,hao⟩:=I.nsb.aobj
  obtain ⟨_,_,z,D⟩:=F.codes
  have kb:=hide_on a hX
  have M':=M.hide ho hao
  refine codeAny_mono (method_frame (bad:=bad) (Dt:=fun d v=>(d=.list (as.map .int)∧v=va)∨(d=.list (bs.map .int)∧v=vb)) (bs:=[.raw (.ref x)])
    (P:=fun fl ρ'=>fl=.ret (.list (opc as.length bs.length 0 0 (ro (mm as bs) (bO as bs))))∧∃ o',aM ρ' "#d" (.at dx o')∧DA m N o') D R a ho hao.noseq hX hb low ?dat (.cons (.raw _) .nil) rfl fun L=>?body) fun res s' h=>?post
  case dat =>
    rintro d v (⟨rfl,rfl⟩ | ⟨rfl,rfl⟩)
    · exact ra.hide ho hao.noseq
    · exact rb.hide ho hao.noseq
  case body =>
    exact codes_walk (X:=XB X (s.heap.hide dx) as bs va vb) (k:=k) (F.on kb) (G.on kb) (H.on kb) (z:=z) hao ⟨M'.obj,M'.a,M'.ha,M'.b,M'.hb,M'.free,M'.rest⟩ hmb hop (.inl ⟨rfl,rfl⟩) (.inr ⟨rfl,rfl⟩) hN hza hzb h64 fun h1 h2=>⟨⟨rfl,_,h1,h2⟩,⟨_,h1⟩,.inr ⟨_,rfl⟩⟩
  case post =>
    obtain ⟨v,fl,ρ',O',L,rfl,⟨rfl,o',h1,h2⟩,rv,kp,r'⟩:=h
    exact ⟨v,rfl,kp,rv,o',(r'.pt _ _ _ h1).2,h2⟩
theorem ev_opcodes (F:DF X) (G:MF X) (H:MG X) (hsm:X.gl ("SequenceMatcher":Str)=some (.ref 242)) (hkp:keepIn X.K (.ref 242)=true) (hmk:makesIn X.K 242=true) {p p2 p3 apos q1 q4:Pos} {n1 n4:Nat} {pl:Sem Bool} {e e':Expr} (hk:env.kindOf ("SequenceMatcher":Str)=some .globalImplicit)
    (he:Ev X (k+6) env ρ e (.list (as.map .int))) (he':Ev X (k+6) env ρ e' (.list (bs.map .int))) (hza:as.length≤1000) (hzb:bs.length≤1000) (h64:(ro (mm as bs) (bO as bs)).length < 64)
    (hev:eval (.Call (.Attribute (.Call (.Name "SequenceMatcher" p) [.Constant .none n1 q1,e,e',.Constant (.bool false) n4 q4] [] p2) "get_opcodes" apos) [] [] p3) env=(do
      let ov ← eval (.Call (.Name "SequenceMatcher" p) [.Constant .none n1 q1,e,e',.Constant (.bool false) n4 q4] [] p2) env
      standAt apos.atName
      let (f,first) ← holding [ov] (getMethod ov "get_opcodes" pl)
      callWith p3 f first (backTo p3 (starEach [] env)) []):=by rfl)
    (hst:starEach [.Constant .none n1 q1,e,e',.Constant (.bool false) n4 q4] env=[(false,eval (.Constant .none n1 q1) env),(false,eval e env),(false,eval e' env),(false,eval (.Constant (.bool false) n4 q4) env)]:=by rfl)
    (hst2:starEach [e,e',.Constant (.bool false) n4 q4] env=[(false,eval e env),(false,eval e' env),(false,eval (.Constant (.bool false) n4 q4) env)]:=by rfl)
    (hst3:starEach [e',.Constant (.bool false) n4 q4] env=[(false,eval e' env),(false,eval (.Constant (.bool false) n4 q4) env)]:=by rfl)
    (hst4:starEach [.Constant (.bool false) n4 q4] env=[(false,eval (.Constant (.bool false) n4 q4) env)]:=by rfl) :
    Ev X (k+6) env ρ (.Call (.Attribute (.Call (.Name "SequenceMatcher" p) [.Constant .none n1 q1,e,e',.Constant (.bool false) n4 q4] [] p2) "get_opcodes" apos) [] [] p3) (.list (opc as.length bs.length 0 0 (ro (mm as bs) (bO as bs)))):=fun A bad O s R r=>by
  obtain ⟨cd,hC⟩:=F.cls
  have hsl:5000≤sizeLine:=by decide
  refine MethodCall_ (wpAny_Call_Name_kw (glob_use r hsm hk ?_)) hev
  have hargs:EvL X (k+6) env ρ p2 [.Constant .none n1 q1,e,e',.Constant (.bool false) n4 q4] [.none,.list (as.map .int),.list (bs.map .int),.bool false] :=
    aB ev_none (aB he (aB he' (aB ev_bool aG hst4) (by rw [hst3,hst4])) (by rw [hst2,hst3])) (by rw [hst,hst2])
  refine callWith_K (r.wf.kin.keeps r.base) hkp (wpAny_mono (hargs A bad O s R r) (fun us s1 q=>?_) fun _ _ x=>x) (by rw [hst,hst2]) (by rw [hst2];rfl)
  obtain ⟨x1,q⟩:=q
  have r1:=r.ext x1
  refine ⟨r1.wf.kin.keeps r1.base,?_⟩
  obtain ⟨_,_,rfl,q1,q⟩:=q.inv
  obtain ⟨va,_,rfl,ra,q⟩:=q.inv
  obtain ⟨vb,_,rfl,rb,q⟩:=q.inv
  obtain ⟨_,_,rfl,q4,q⟩:=q.inv
  obtain rfl:=q.inv0
  obtain rfl:=q1.invN
  obtain rfl:=q4.invB
  have hva:va ≠ .none:=by intro h;subst h;cases ra
  have hha:handedIn va=true:=by cases ra;rfl
  have hhb:handedIn vb=true:=by cases rb;rfl
  refine make_call F hmk (k:=k+1) (A:=A) (s:=s1) (va:=va) (vb:=vb) (bs:=bs) R r1.at hva (rb.imp fun _ _ _ h=>h.elim) (by exact aF 0xf111100f113882903e81900f rfl hzb hsl) fun x dx d js ps s2 x2 hx hdx P2=>?_
  have r2:=r1.ext x2
  obtain ⟨led,hjs⟩:=P2.junk
  have M:Mat X s2.heap x dx (upd (upd (upd (upd (upd (upd (upd (m1of m0of va) "b" vb) "matching_blocks" .none) "opcodes" .none) "fullbcount" .none) "b2j" (.ref d)) "bjunk" (.ref js)) "bpopular" (.ref ps)) va vb as bs:=by
    refine ⟨P2.inst.obj,rfl,hha,rfl,hhb,fun f hf=>?_,d,js,led,rfl,rfl,hjs,P2.chain⟩
    simp only [List.mem_cons,List.not_mem_nil,or_false] at hf
    rcases hf with rfl | rfl | rfl <;> rfl
  obtain ⟨hfc,htc,zc,Dc⟩:=F.codes
  obtain ⟨oc,hoc,hdc⟩:=Dc.obj
  refine attr_method (r2.wf.kin.keeps r2.base) P2.inst hC hfc htc (M.free _ (by decide)) ?_
  refine Calls.callWith_function (o:=oc) (fd:=fdSM 8 "get_opcodes" zc) ?_
  refine wpAny_pure (a:=(⟨[],[]⟩:Args)) ⟨⟨r2.base _ _ hoc,hdc⟩,?_⟩
  have hX:X.h₀.get? dx=none:=by
    cases e:X.h₀.get? dx with
    | none=>rfl
    | some o=>rw [r1.base _ _ e] at hdx;cases hdx
  refine wpAny_call (codeAny_mono (codes_call (k:=k) F G H (bad:=aS bad O) R r2.at hX (new_good r1 hdx) (badO_alive r2) P2.inst M rfl rfl (ra.ext x2) (rb.ext x2) (by decide) hza hzb h64) fun res s3 h3=>?_)
  obtain ⟨v,rfl,kp,rv,_⟩:=h3
  refine ⟨⟨fun b o e=>kp.keep b o (fun hb=>?_) (x2.keep _ _ (x1.keep _ _ e)),kp.gens.trans (x2.gens.trans x1.gens),kp.os.trans (x2.os.trans x1.os)⟩,rv⟩
  subst hb
  rw [x1.keep _ _ e] at hdx;cases hdx
end
noncomputable def tupI (ns:List Int):PyData:=.tuple (ns.map .int)
noncomputable def minT (b:List Int):List (List Int)→List Int
  | []=>b
  | x :: r=>minT (if bM x b then x else b) r
section
variable {X:Cx} {k:Nat} {env:Env} {ρ:List (Str×B)} {A:Around} {E:Value→Shared→Prop} {s:Shared}
theorem tup_lt {prog:Program} {w:World} {bad:Addr→Prop} {ns ms:List Int} {u v:Value} {Q:Value→Shared→Prop} (hu:A.units < cLine) (q:Rep bad s.heap (tupI ns) u) (q':Rep bad s.heap (tupI ms) v) (h:Q (.bool (bM ns ms)) s):wpAny (model prog w) A (richCompare .Lt u v) Q E s:=by
  unfold tupI at q q'
  refine q.tupE fun a vs n _ g qs=>?_
  refine q'.tupE fun b ws n' _ g' qs'=>?_
  have hsub:isSubtype (.type "tuple") (.type "tuple")=pure true:=by rw [isSubtype_type];kernel_rfl
  have ti:Looks (model prog w) s.heap (isInstance (.ref b) (.type "tuple")) true:=Looks.andThen (a:=.type "tuple") ((Looks.ld g').andThen .now) (Looks.of_pure hsub)
  refine wpAny_richCompare_same_room (T:="tuple") ⟨_,g,rfl⟩ ⟨_,g',rfl⟩ PySem.F.slot_tuple_lt (wpAny_call_entry PySem.F.slot_tuple_lt ⟨_,g,rfl⟩ PySem.F.entry_tuple_lt ?_ (PySem.F.args_tuple_lt_2 _ _)) hu
  exact tlt_run g rfl g' rfl ti qs.ints qs'.ints ⟨_,rfl,by simp,h⟩
theorem min_loop {prog:Program} {w:World} {bad:Addr→Prop} {S it l:Addr} {xs:Array Value} {n:Nat} {R:Result→Shared→Prop} (hh:A.handled=none) (hu:A.units+1 < cLine) (hne:S ≠ it∧l ≠ it∧l ≠ S) (bS:bad S) :
    ∀ (rem:List (List Int)) (best:List Int) (i:Nat) (s:Shared) (vb:Value) (c:Nat),s.heap.IsListIter it l i→s.heap.get? l=some { cls:=.type "list",data:=.seq xs n }→RepL bad s.heap (rem.map tupI) (xs.toList.drop i)→Rep bad s.heap (tupI best) vb →
    s.heap.get? S=some { cls:=.type "list",data:=.seq #[vb,vb] c } →
    (∀ v s',(∀ b o,b ≠ it→b ≠ S→s.heap.get? b=some o→s'.heap.get? b=some o)→s'.gens=s.gens→s'.os=s.os→Rep bad s'.heap (tupI (minT best rem)) v→R (.ok (.ret v)) s') →
    codeAny (model prog w) A (.builtin "min.loop" ⟨[.ref it,.none,.ref S],[]⟩) R s
  | [],best,i,s,vb,c,hi,hl,q,qb,hS,hR=>by
    have hx:xs[i]?=none:=by
      rw [← Array.getElem?_toList]
      have hd:(xs.toList.drop i).length=0:=by have:=q.length;simp at this ⊢;exact aF 0xf1f1001f0822f2082f101 rfl this
      rw [List.getElem?_eq_none]
      rw [List.length_drop] at hd;exact aF 0xf8101100f0822f101 rfl hd
    refine codeAny_builtin PySem.F.entry_min_loop ?_
    rw [Around.under_plainId PySem.F.plain_min_loop _]
    show wpAny _ A.in1 (seqItems? (.ref S) >>= _) _ _ s
    refine wpAny_bind (wpAny_seqItems hS rfl ?_)
    show wpAny _ A.in1 (tryCatch (pyNext (.ref it)) _ >>= _) _ _ s
    refine wpAny_bind (wpAny_tryCatch (wpAny_pyNext_list_end hh hi ⟨_,hl,rfl,_,rfl⟩ hx fun h' hk=>?_))
    have hS':=hk _ _ hne.1 hS
    show wpAny _ A.in1 (updateSeq S (fun _=>#[]) >>= _) _ _ _
    refine wpAny_bind (wpAny_updateSeq hS' rfl (wpAny_bind (wpAny_letGo (wpAny_pure ?_))))
    refine hR vb _ (fun b o h1 h2 e=>(Heap.get?_update_other _ _ (Ne.symm h2)).trans (hk b o h1 e)) rfl rfl ?_
    refine (qb.keep (keepseq_it hi hk)).keep fun b o vs n hb e ed=>(Heap.get?_update_other _ _ (fun q=>hb (by rw [← q];exact bS))).trans e
  | t :: rem,best,i,s,vb,c,hi,hl,q,qb,hS,hR=>by
    have hname:(toString "min"++toString ".loop":String)="min.loop":=by decide
    rw [List.map_cons] at q
    have hdl:(xs.toList.drop i).length=rem.length+1:=by have:=q.length;simp at this ⊢;exact aO 0xf8001f1001f180a32f3180a2f211 rfl this
    have hil:i < xs.size:=by rw [List.length_drop,Array.length_toList] at hdl;exact aO 0xf118f1008f011f182a32f100 rfl hdl
    have hdrop:xs.toList.drop i=xs[i] :: xs.toList.drop (i+1):=by
      rw [List.drop_eq_getElem_cons (by simpa using hil)];simp
    rw [hdrop] at q
    have qx:Rep bad s.heap (tupI t) xs[i]:=by cases q with | cons a b=>exact a
    have qr:RepL bad s.heap (rem.map tupI) (xs.toList.drop (i+1)):=by cases q with | cons a b=>exact b
    refine codeAny_builtin PySem.F.entry_min_loop ?_
    rw [Around.under_plainId PySem.F.plain_min_loop _]
    show wpAny _ A.in1 (seqItems? (.ref S) >>= _) _ _ s
    refine wpAny_bind (wpAny_seqItems hS rfl ?_)
    show wpAny _ A.in1 (tryCatch (pyNext (.ref it)) _ >>= _) _ _ s
    refine wpAny_bind (wpAny_tryCatch (wpAny_pyNext_list_item hi ⟨_,hl,rfl,_,rfl⟩ (Array.getElem?_eq_getElem hil) fun h' hi' hs'=>?_))
    have hk:∀ b o,b ≠ it→s.heap.get? b=some o→h'.get? b=some o:=fun b o hb e=>(hs'.2 b hb).trans e
    have kq:KeepSeq bad s.heap h':=keepseq_it hi hk
    have hS':=hk _ _ hne.1 hS
    show wpAny _ A.in1 (tryCatch (holding [xs[i],xs[i]] (richCompare .Lt xs[i] vb >>= _)) _ >>= _) _ _ _
    refine wpAny_bind (wpAny_tryCatch (wpAny_holding (wpAny_bind (tup_lt (s:={ s with heap:=h' }) (by show A.units+1 < _;exact hu) (qx.keep kq) (qb.keep kq) ?_))))
    refine wpAny_bind (wpAny_holding (wpAny_truthy_bool ?_))
    refine wpAny_bind (wpAny_letGo (wpAny_pure ?_))
    cases hb:bM t best with
    | true =>
      simp only [if_true]
      refine wpAny_bind (wpAny_updateSeq hS' rfl (wpAny_bind (wpAny_letGo ?_)))
      rw [hname]
      have kS:∀ b o,b ≠ S→h'.get? b=some o→(h'.update S (Obj.mapSeq fun _=>#[xs[i],xs[i]])).get? b=some o:=fun b o hb e=>(Heap.get?_update_other _ _ (Ne.symm hb)).trans e
      have kqS:KeepSeq bad h' (h'.update S (Obj.mapSeq fun _=>#[xs[i],xs[i]])):=fun b o vs n hb e ed=>kS b o (fun q=>hb (by rw [q];exact bS)) e
      refine wpAny_pure ⟨plainId_quiet PySem.F.plain_min_loop _,min_loop hh hu hne bS rem t (i+1) _ xs[i] _ (hi'.at fun o e=>kS _ o (Ne.symm hne.1) e) (kS _ _ hne.2.2 (hk _ _ hne.2.1 hl)) ((qr.keep kq).keep kqS) ((qx.keep kq).keep kqS) (Heap.get?_update_self _ hS' rfl) fun v s' hk'' hg ho qv=>hR v s' (fun b o h1 h2 e=>hk'' b o h1 h2 (kS b o h2 (hk b o h1 e))) hg ho ?_⟩
      rw [show minT best (t :: rem)=minT t rem by simp [minT,hb]];exact qv
    | false =>
      simp only [Bool.false_eq_true,if_false]
      refine wpAny_bind (wpAny_letGo ?_)
      rw [hname]
      refine wpAny_pure ⟨plainId_quiet PySem.F.plain_min_loop _,min_loop hh hu hne bS rem best (i+1) _ vb _ hi' (hk _ _ hne.2.1 hl) (qr.keep kq) (qb.keep kq) hS' fun v s' hk'' hg ho qv=>hR v s' (fun b o h1 h2 e=>hk'' b o h1 h2 (hk b o h1 e)) hg ho ?_⟩
      rw [show minT best (t :: rem)=minT best rem by simp [minT,hb]];exact qv
end
section
variable {X:Cx} {k:Nat} {env:Env} {ρ:List (Str×B)}
theorem ev_min2 {p pos:Pos} {e e':Expr} {a b:Int} (hx:X.gl ("min":Str)=some (.builtin "min")) (hk:env.kindOf ("min":Str)=some .globalImplicit) (he:Ev X k env ρ e (.int a)) (he':Ev X k env ρ e' (.int b))
    (hs:starEach [e,e'] env=[(false,eval e env),(false,eval e' env)]:=by rfl) (hs2:starEach [e'] env=[(false,eval e' env)]:=by rfl):Ev X k env ρ (.Call (.Name "min" p) [e,e'] [] pos) (.int (min a b)):=fun A bad O s R r=>by
  refine wpAny_Call_Name_kw (glob_use r hx hk ?_)
  refine callWith_method1 (wpAny_items_cons (he.use R r fun v s1 x1 r1 q1=>?_) (by rw [hs,hs2])) (by rw [hs,hs2]) (by rw [hs2];rfl)
  refine wpAny_items_cons (he'.use R r1 fun v' s2 x2 r2 q2=>wpAny_items_nil ?_) hs2
  cases q1 with | int _ t=>cases q2 with | int _ u =>
  refine min_two_ints R.handled fun h' tk hk=>⟨(x1.trans x2).trans ⟨hk,rfl,rfl⟩,?_⟩
  by_cases c:b < a
  · rw [if_pos c,show min a b=b by lia];exact .int _ _
  · rw [if_neg c,show min a b=a by lia];exact .int _ _
theorem ev_minT {p pos:Pos} {e:Expr} {b:List Int} {rest:List (List Int)} (hx:X.gl ("min":Str)=some (.builtin "min")) (hk:env.kindOf ("min":Str)=some .globalImplicit) (he:Ev X (k+2) env ρ e (.list ((b :: rest).map tupI)))
    (hs:starEach [e] env=[(false,eval e env)]:=by rfl):Ev X (k+2) env ρ (.Call (.Name "min" p) [e] [] pos) (tupI (minT b rest)):=fun A bad O s R r=>by
  have hname:(toString "min"++toString ".loop":String)="min.loop":=by decide
  refine wpAny_Call_Name_kw (glob_use r hx hk ?_)
  refine callWith_method1 (wpAny_items_cons (he.use R r fun v s1 x1 r1 q1=>wpAny_items_nil ?_) hs) hs
  refine q1.listE fun l xs n hb hl q=>?_
  show wpAny _ _ (call (.builtin "min") [.ref l]) _ _ s1
  refine call_function_tree PySem.F.kind_min PySem.F.plain_min PySem.F.entry_min (PySem.F.args_min1 _) ?_
  show wpAny _ A.in1 (Builtin.Builtins.bindParams "min" ["key","default"] 0 ⟨[],[]⟩ >>= _) _ _ s1
  refine wpAny_bind (wpAny_of_eq (show Builtin.Builtins.bindParams "min" ["key","default"] 0 ⟨[],[]⟩=pure [none,none] from rfl) ?_)
  refine wpAny_bind (wpAny_pure ?_)
  have lt:∀ {b:Addr} {o:Obj},s1.heap.get? b=some o→b ≠ s1.heap.objs.size:=fun e=>Nat.ne_of_lt (Heap.lt_size e)
  refine wpAny_bind (wpAny_pyIter_list ⟨_,hl,rfl,_,rfl⟩ ?_)
  refine wpAny_bind (wpAny_newObj_type ?_)
  rw [hname]
  have hit:((s1.heap.push { cls:=.type "list_iterator",data:=.fields #[.ref l,.int 0 0] }).push { cls:=.type "list",data:=.seq ([]:List Value).toArray }).IsListIter s1.heap.objs.size l 0:=⟨_,Heap.get?_push_of_some _ (Heap.get?_push_size _ rfl),rfl,rfl⟩
  have hS:((s1.heap.push { cls:=.type "list_iterator",data:=.fields #[.ref l,.int 0 0] }).push { cls:=.type "list",data:=.seq ([]:List Value).toArray }).get? (s1.heap.push { cls:=.type "list_iterator",data:=.fields #[.ref l,.int 0 0] }).objs.size=some { cls:=.type "list",data:=.seq #[] }:=Heap.get?_push_size _ rfl
  have k1:∀ b o,s1.heap.get? b=some o→((s1.heap.push { cls:=.type "list_iterator",data:=.fields #[.ref l,.int 0 0] }).push { cls:=.type "list",data:=.seq ([]:List Value).toArray }).get? b=some o:=fun b o e=>Heap.get?_push_of_some _ (Heap.get?_push_of_some _ e)
  have hSi:(s1.heap.push { cls:=.type "list_iterator",data:=.fields #[.ref l,.int 0 0] }).objs.size=s1.heap.objs.size+1:=Heap.size_push ..
  rw [hSi] at hS ⊢
  generalize ((s1.heap.push { cls:=.type "list_iterator",data:=.fields #[.ref l,.int 0 0] }).push { cls:=.type "list",data:=.seq ([]:List Value).toArray }:Heap)=h2 at hit hS k1 ⊢
  have hSn:∀ {b:Addr} {o:Obj},s1.heap.get? b=some o→b ≠ s1.heap.objs.size+1:=fun e=>Nat.ne_of_lt (Nat.lt_succ_of_lt (Heap.lt_size e))
  have hne:s1.heap.objs.size+1 ≠ s1.heap.objs.size:=Nat.succ_ne_self _
  generalize hit0:s1.heap.objs.size=it at *
  generalize hS0:it+1=S at *
  refine wpAny_pure ⟨plainId_quiet PySem.F.plain_min_loop _,?_⟩
  refine codeAny_builtin PySem.F.entry_min_loop ?_
  rw [Around.under_plainId PySem.F.plain_min_loop _]
  show wpAny _ A.in1 (seqItems? (.ref S) >>= _) _ _ { s1 with heap:=h2 }
  refine wpAny_bind (wpAny_seqItems (s:={ s1 with heap:=h2 }) hS rfl ?_)
  show wpAny _ A.in1 (tryCatch (pyNext (.ref it)) _ >>= _) _ _ _
  have q0:RepL (fun a=>aS bad O a∨a=S) h2 ((b :: rest).map tupI) xs.toList:=(q.imp fun a o e h=>h.elim id fun z=>absurd z (hSn e)).keep fun c o _ _ _ e _=>k1 c o e
  obtain ⟨u,us,hus⟩:∃ u us,xs.toList=u :: us:=by
    cases hh:xs.toList with
    | nil=>rw [hh] at q;cases q
    | cons u us=>exact ⟨u,us,rfl⟩
  rw [hus] at q0
  have hx0:xs[0]?=some u:=by rw [← Array.getElem?_toList,hus];rfl
  refine wpAny_bind (wpAny_tryCatch (wpAny_pyNext_list_item (s:={ s1 with heap:=h2 }) hit ⟨_,k1 _ _ hl,rfl,_,rfl⟩ hx0 fun h3 hi3 hs3=>?_))
  have k3:∀ b o,b ≠ it→h2.get? b=some o→h3.get? b=some o:=fun b o hb e=>(hs3.2 b hb).trans e
  have hS3:=k3 _ _ hne hS
  show wpAny _ A.in1 (updateSeq S (fun _=>#[u,u]) >>= _) _ _ _
  refine wpAny_bind (wpAny_updateSeq hS3 rfl ?_)
  rw [hname]
  have kS:∀ b o,b ≠ S→h3.get? b=some o→(h3.update S (Obj.mapSeq fun _=>#[u,u])).get? b=some o:=fun b o hb e=>(Heap.get?_update_other _ _ (Ne.symm hb)).trans e
  have kq3:KeepSeq (fun a=>aS bad O a∨a=S) h2 h3:=keepseq_it hit k3
  have kqS:KeepSeq (fun a=>aS bad O a∨a=S) h3 (h3.update S (Obj.mapSeq fun _=>#[u,u])):=fun c o vs n hb e ed=>kS c o (fun z=>hb (.inr z)) e
  have qu:Rep (fun a=>aS bad O a∨a=S) h2 (tupI b) u:=by cases q0 with | cons a b=>exact a
  have qus:RepL (fun a=>aS bad O a∨a=S) h2 (rest.map tupI) us:=by cases q0 with | cons a b=>exact b
  refine wpAny_pure ⟨plainId_quiet PySem.F.plain_min_loop _,min_loop (bad:=fun a=>aS bad O a∨a=S) (xs:=xs) (n:=n) R.handled (by have:=R.units;show A.units+1 < _;have c:cLine=9900:=rfl;exact aO 0xf1112180a1f26ac2922232829281a64b0a0f rfl this c) ⟨hne,lt hl,hSn hl⟩ (.inr rfl) rest b 1 _ u _ (hi3.at fun o e=>kS _ o (Ne.symm hne) e) (kS _ _ (hSn hl) (k3 _ _ (lt hl) (k1 _ _ hl))) ?_ ((qu.keep kq3).keep kqS) (Heap.get?_update_self _ hS3 rfl) fun v s' hk' hg ho qv=>?_⟩
  · rw [hus];exact (qus.keep kq3).keep kqS
  · refine ⟨x1.trans ⟨fun c o e=>hk' c o (lt e) (hSn e) (kS c o (hSn e) (k3 c o (lt e) (k1 c o e))),hg,ho⟩,qv.imp fun _ _ _ h=>.inl h⟩
end
section
variable {X:Cx} {k:Nat} {env:Env} {ρ:List (Str×B)}
theorem it_rangeX {A:Around} {bad:Addr→Prop} {O:Str→Option Addr} {s s1:Shared} {r:Addr} {a b c:Int} {t u v:Tok} (R:Room k A) (x1:Ext s s1) (hr:IsRange s1.heap r a b c t u v) (hs:Builtin.Range.small a b c=true) (m:Nat) (h0:Builtin.Range.rangeSize a b c=m) :
    wpAny (model X.prog X.w) A (pyIter (.ref r)) (fun it s2=>Ext s s2∧∃ I P St,it=.ref I∧It X A bad O s s2 (aY a c m) I [I] [I] P St) noE s1:=by
  refine wpAny_pyIter_range hr hs ⟨x1.trans (Ext.push _ _),s1.heap.objs.size,fun i v=>i < m∧∃ t,v=.int (a+i * c) t,fun i h=>IsRangeIter h s1.heap.objs.size (a+(i:Nat) * c) ((m:Int) - (i:Nat)) c,rfl,?_⟩
  exact {
    walks:=by
      have W:=Walks.range (prog:=X.prog) (w:=X.w) (A:=A) R.handled s1.heap.objs.size a c m
      rw [bI]
      exact { sub:=W.sub,frame:=W.frame,done:=W.done,self:=W.self,item:=fun i s Q E hi st hQ=>W.item i s Q E hi st fun v h' tk hP=>hQ v h' tk ⟨hi,hP⟩ }
    start:=by
      show Heap.get? _ _=_
      rw [Heap.get?_push_size _ rfl]
      simp [h0]
    new:=fun b hb=>by simp at hb;subst hb;exact x1.none (get_size _)
    live:=fun i h st b hb=>by simp at hb;subst hb;exact ⟨_,st⟩
    noseq:=fun i h st b hb o vs n e ed=>by
      simp at hb;subst hb
      have:=st.symm.trans e;cases this;cases ed
    item:=fun i v hv=>by
      obtain ⟨hi,t,rfl⟩:=hv
      exact ⟨_,intsBy_get hi,.int _ _⟩
    lets:=fun i s target v Q E st hq=>lets_plain st rfl (by decide) hq }
noncomputable def EvR (X:Cx) (k:Nat) (env:Env) (ρ:List (Str×B)) (e:Expr) (items:List PyData):Prop :=
  ∀ (A:Around) (bad:Addr→Prop) (O:Str→Option Addr) (s:Shared),Room k A→Rel X bad O env ρ s →
    wpAny (model X.prog X.w) A (eval e env) (fun v s1=>∃ r a b c t u w m,v=.ref r∧Ext s s1∧IsRange s1.heap r a b c t u w∧Builtin.Range.small a b c=true∧Builtin.Range.rangeSize a b c=(m:Nat)∧items=aY a c m) noE s
theorem EvR.evi {e:Expr} {items:List PyData} (h:EvR X k env ρ e items):EvI X k env ρ e items:=fun A bad O s R r =>
  wpAny_mono (h A bad O s R r) (fun v s1 q=>by
    obtain ⟨rr,a,b,c,t,u,w,m,rfl,x1,hr,hs,hm,rfl⟩:=q
    exact it_range R x1 hr hs m hm) fun _ _ x=>x
theorem evr_range1 {p pos:Pos} {e:Expr} {n:Int} (hx:X.gl ("range":Str)=some (.type "range")) (hk:env.kindOf ("range":Str)=some .globalImplicit) (h:Ev X k env ρ e (.int n)) (hn:-(2 ^ 40)≤n∧n≤2 ^ 40)
    (he:starEach [e] env=[(false,eval e env)]:=by rfl):EvR X k env ρ (.Call (.Name "range" p) [e] [] pos) (aY 0 1 n.toNat):=fun A bad O s R r =>
  type_use R r hx hk (aB h aG he) (fun vs s1 x1 r1 q1=>by
    refine q1.oneE fun v qa=>qa.intE fun t=>?_
    refine call_range_1 ?_
    exact ⟨_,0,n,1,_,_,_,_,rfl,x1.trans ⟨fun b o e=>Heap.get?_push_of_some _ e,rfl,rfl⟩,Heap.get?_push_size _ rfl,small_up (by exact lqx [] [] 0xf1f1f1000000000099083081000000000099e37ff rfl) hn,by rw [rangeSize_up,Int.sub_zero],rfl⟩) (by decide) he (by rw [he];rfl)
theorem evr_range2 {p pos:Pos} {e e':Expr} {a b:Int} (hx:X.gl ("range":Str)=some (.type "range")) (hk:env.kindOf ("range":Str)=some .globalImplicit) (h:Ev X k env ρ e (.int a)) (h':Ev X k env ρ e' (.int b)) (ha:-(2 ^ 40)≤a∧a≤2 ^ 40) (hb:-(2 ^ 40)≤b∧b≤2 ^ 40)
    (he:starEach [e,e'] env=[(false,eval e env),(false,eval e' env)]:=by rfl) (he':starEach [e'] env=[(false,eval e' env)]:=by rfl):EvR X k env ρ (.Call (.Name "range" p) [e,e'] [] pos) (aY a 1 (b - a).toNat):=fun A bad O s R r =>
  type_use R r hx hk (aB h (aB h' aG he') (by rw [he,he'])) (fun vs s1 x1 r1 q1=>by
    refine q1.twoE fun v w qa qb=>qa.intE fun t=>qb.intE fun u=>?_
    refine call_range_2 ?_
    exact ⟨_,a,b,1,_,_,_,_,rfl,x1.trans ⟨fun b o e=>Heap.get?_push_of_some _ e,rfl,rfl⟩,Heap.get?_push_size _ rfl,small_up ha hb,rangeSize_up,rfl⟩) (by decide) (by rw [he,he']) (by rw [he];rfl)
noncomputable abbrev clauseTree (elt i':Expr) (gens:List Comprehension) (sc:Scope) (p:Pos) (d:Nat) (env:Env):Value→Sem PUnit:=fun acc=>do
  let x ← eval i' env
  standAt i'.pos
  let x ← foldedSetIterable i' env x
  let it' ← holding [x] (pyIter x)
  let _ ← runOwn (.compStart (.ListComp elt gens sc p) d it' acc env) env
theorem trn_mid {elt t i t' i':Expr} {ifs ifs':List Expr} {gens:List Comprehension} {sc:Scope} {p:Pos} {d:Nat} (hg:gens[d]?=some ⟨t,i,ifs,0⟩) (hn:gens[d+1]?=some ⟨t',i',ifs',0⟩):Trn X (.ListComp elt gens sc p) d t ifs (clauseTree elt i' gens sc p (d+1) env) env:=by
  intro A D I P s h;exact turn_mid hg hn h
theorem cmb_clause {elt t i':Expr} {ifs:List Expr} {gens:List Comprehension} {sc:Scope} {p:Pos} {d:Nat} {items:List PyData} {g:PyData→List PyData} {tree:Value→Sem PUnit} (hg:gens[d]?=some ⟨t,i',ifs,0⟩) (hit:EvR X k env ρ i' items)
    (hturn:Trn X (.ListComp elt gens sc p) d t ifs tree env)
    (hb:∀ x∈items,ClB X k env ρ t ifs tree x (g x)) (hs:∀ x,foldedSetIterable i' env x=pure x:=by intro _;rfl):CmB X k env ρ (clauseTree elt i' gens sc p d env) (items.flatMap g):=fun A bad D s outs R hD hz c=>by
  refine wpAny_bind (wpAny_mono (hit A bad nO s R c.rel) (fun v s1 q=>?_) fun _ _ x=>x)
  obtain ⟨rr,a,b,cc,t',u,w,m,rfl,x1,hr,hsm,hm,rfl⟩:=q
  refine wpAny_bind (wpAny_standAt (wpAny_bind (wpAny_of_eq (hs _) (wpAny_bind (wpAny_holding (wpAny_mono (it_rangeX (X:=X) (bad:=bad) (O:=nO) R x1 hr hsm m hm) (fun it s2 h2=>?_) fun _ _ x=>x))))))
  obtain ⟨x2,I,P,St,rfl,T⟩:=h2
  have c2:=c.ext x2
  have hnewI:s.heap.get? I=none:=T.new I (by simp)
  have nI:∀ {b:Addr} {o:Obj},s.heap.get? b=some o→b ≠ I:=fun e q=>by rw [q,hnewI] at e;cases e
  obtain ⟨vsD,nD,hgD,_⟩:=c.acc
  obtain ⟨mm',oo,es,ep,hL,_⟩:=c.rel.frm.ns
  have loop:codeAny (model X.prog X.w) A (.compLoop (.ListComp elt gens sc p) d (.ref I) (.ref D) env) (fun r s'=>r=.ok .next∧CAt X bad env ρ D (outs++(aY a cc m).flatMap g) s'∧∀ b o,b ∉ [I]→b ≠ env.locals→b ≠ D→s2.heap.get? b=some o→s'.heap.get? b=some o) s2:=by
    refine comp_loop (g:=g) (bad:=bad) hturn hb R hD hz T.walks (fun h=>?_) (fun h=>?_) (fun n cl e h=>?_) (fun b hb' h=>?_) (fun b hb'=>?_) T.noseq (fun i v hP=>?_) T.lets c2 T.start
    · simp at h;exact nI hgD h
    · simp at h;exact nI hL h
    · simp at h
      obtain ⟨v,o,ho,_⟩:=c.rel.frm.cell n cl e
      exact nI ho h
    · simp at hb';subst hb'
      obtain ⟨o,ho⟩:=c.rel.low b h
      exact nI ho rfl
    · simp at hb';subst hb'
      cases e:X.h₀.get? b with
      | none=>rfl
      | some o=>exact absurd rfl (nI (c.rel.base _ _ e))
    · obtain ⟨dd,hd,q⟩:=T.item i v hP
      exact ⟨dd,hd,q.imp fun a _ _ h=>.inl h⟩
  refine wpAny_bind (wpAny_runOwn (codeAny_mono (compStart_gen hg loop (T.walks.self 0 _ _ _ T.start loop)) fun res s' hr=>?_))
  obtain ⟨rfl,c',kp⟩:=hr
  refine wpAny_pure ⟨fun b o h1 h2 e=>kp b o (by simp;exact nI e) h1 h2 (x2.keep _ _ e),c'⟩
end
theorem hideAll_some:∀ (l:List Addr) (h:Heap) {b:Addr} {o:Obj},(hideAll h l).get? b=some o→h.get? b=some o∧b ∉ l
  | [],h,b,o,e=>⟨e,by simp⟩
  | a :: r,h,b,o,e=>by
    obtain ⟨e1,e2⟩:=hideAll_some r (h.hide a) e
    have hb:b ≠ a:=fun q=>by subst q;rw [Heap.hide_self] at e1;cases e1
    rw [Heap.hide_ne _ hb] at e1
    exact ⟨e1,fun h=>(List.mem_cons.mp h).elim hb e2⟩
theorem hideAll_not:∀ (l:List Addr) (h:Heap) {b:Addr},b ∉ l→(hideAll h l).get? b=h.get? b
  | [],h,b,_=>rfl
  | a :: r,h,b,hb=>by
    show (hideAll (h.hide a) r).get? b=_
    rw [hideAll_not r _ fun q=>hb (List.mem_cons_of_mem _ q),Heap.hide_ne _ fun q=>hb (by rw [q];exact List.mem_cons_self)]
open Classical in
theorem exists_part (h:Heap) (p:Addr→Prop):∃ h':Heap,(∀ b o,h'.get? b=some o→h.get? b=some o∧p b)∧∀ b o,p b→h.get? b=some o→h'.get? b=some o:=by
  refine ⟨hideAll h ((List.range h.objs.size).filter fun b=>decide (¬ p b)),fun b o e=>?_,fun b o hb e=>?_⟩
  · obtain ⟨e1,e2⟩:=hideAll_some _ _ e
    refine ⟨e1,?_⟩
    rw [List.mem_filter,List.mem_range] at e2
    by_cases q:p b
    · exact q
    · exact absurd ⟨Heap.lt_size e1,decide_eq_true q⟩ e2
  · rw [hideAll_not _ _ fun q=>?_];exact e
    rw [List.mem_filter] at q
    exact of_decide_eq_true q.2 hb
section
variable {X:Cx} {k:Nat} {env:Env} {ρ:List (Str×B)} {Q:Fl→List (Str×B)→Prop}
theorem exs_rebase {key:Str} {a:Addr} {o:Obj} {ss:List Stmt} (hk:ρ.lookup key=some (.at a o)) (h:∀ h',(∀ b o,X.h₀.get? b=some o→h'.get? b=some o)→h'.get? a=some o→Exs (X.on h' X.dat) k env (put ρ key .free) ss Q):Exs X k env ρ ss Q:=fun A bad O s R r=>by
  obtain ⟨hO,hcur⟩:=r.pt _ _ _ hk
  obtain ⟨g1,g2,g3,_⟩:=r.good _ _ hO
  obtain ⟨h',p1,p2⟩:=exists_part s.heap fun b=>(∃ o,X.h₀.get? b=some o)∨b=a
  have sub:∀ b o,X.h₀.get? b=some o→h'.get? b=some o:=fun b o e=>p2 b o (.inl ⟨o,e⟩) (r.base b o e)
  have ha:h'.get? a=some o:=p2 a o (.inr rfl) hcur
  have none':∀ b,X.h₀.get? b=none→b ≠ a→h'.get? b=none:=fun b e hb=>by
    cases q:h'.get? b with
    | none=>rfl
    | some o =>
      rcases (p1 b o q).2 with ⟨o',e'⟩ | z
      · rw [e] at e';cases e'
      · exact absurd z hb
  have back:∀ b,h'.get? b=none→X.h₀.get? b=none:=fun b e=>by
    cases q:X.h₀.get? b with
    | none=>rfl
    | some o=>rw [sub b o q] at e;cases e
  have r':Rel (X.on h' X.dat) bad (del O key) env (put ρ key .free) s:={
    wf:=r.wf.on sub
    base:=fun b o e=>(p1 b o e).1
    gens:=r.gens
    os:=r.os
    ok:=r.ok
    frm:=⟨r.frm.ns,r.frm.cell,r.frm.ne,r.frm.inj,none' _ r.frm.new fun q=>g3 (.inl q.symm),fun n c e=>none' _ (r.frm.newc n c e) fun q=>g3 (.inr ⟨n,q ▸ e⟩)⟩
    holds:=fun y c e=>by
      rcases put_some e with ⟨_,h'⟩ | ⟨hy,e⟩
      · rw [h'];exact .free
      · exact (r.holds y c e).move (fun _ l=>l) (fun _=>del_ne hy) (fun _ _ _ e=>e) fun _ _ _ _ hb e _=>⟨fun h=>hb (badO_del h),e⟩
    inj:=fun y z l e e'=>r.inj y z l (del_some e).2 (del_some e').2
    low:=r.low
    good:=fun y l e=>by
      obtain ⟨hy,e1⟩:=del_some e
      obtain ⟨a1,a2,a3,b,a4,a5⟩:=r.good y l e1
      exact ⟨a1,none' _ a2 fun q=>hy (r.inj y key l e1 (q ▸ hO)),a3,b,hn2 hy a4,a5⟩
    dat:=fun d v e=>(r.dat d v e).keep fun b o _ _ _ e _=>sub b o e }
  refine wpAny_mono (h h' sub ha A bad (del O key) s R r') (fun fl s' p=>?_) fun _ _ x=>x
  obtain ⟨f,ρ',O',q,fi,st,r2⟩:=p
  refine ⟨f,ρ',O',q,fi,⟨fun b o hp ho e=>st.keep b o hp (fun y hy=>ho y (del_some hy).2) e,st.alive,fun y l e=>(st.new y l e).imp (fun ⟨z,hz⟩=>⟨z,(del_some hz).2⟩) id⟩,?_⟩
  exact ⟨r.wf,fun b o e=>r2.base b o (sub b o e),r2.gens,r2.os,r2.ok,⟨r2.frm.ns,r2.frm.cell,r2.frm.ne,r2.frm.inj,back _ r2.frm.new,fun n c e=>back _ (r2.frm.newc n c e)⟩,r2.holds,r2.inj,r2.low,fun y l e=>let ⟨a1,a2,a3,a4⟩:=r2.good y l e;⟨a1,back _ a2,a3,a4⟩,r.dat⟩
theorem evr_name {x:Str} {pos:Pos} {rr:Addr} {a b c:Int} {t u w:Tok} {m:Nat} (hx:ρ.lookup x=some (.raw (.ref rr))) (hr:IsRange X.h₀ rr a b c t u w) (hs:Builtin.Range.small a b c=true) (hm:Builtin.Range.rangeSize a b c=m) (hd:(x == ("__debug__":Str))=false:=by decide):EvR X k env ρ (.Name x pos) (aY a c m):=fun A bad O s R r =>
  (bG hx hd).use R r fun s1 x1 r1=>⟨rr,a,b,c,t,u,w,m,rfl,x1,r1.base _ _ hr,hs,hm,rfl⟩
end
section
variable {X:Cx} {k:Nat} {env:Env} {ρ:List (Str×B)} {Q:Fl→List (Str×B)→Prop}
theorem evn_range2 {p pos:Pos} {e e':Expr} {a b:Int} (hx:X.gl ("range":Str)=some (.type "range")) (hk:env.kindOf ("range":Str)=some .globalImplicit) (h:Ev X k env ρ e (.int a)) (h':Ev X k env ρ e' (.int b))
    (he:starEach [e,e'] env=[(false,eval e env),(false,eval e' env)]:=by rfl) (he':starEach [e'] env=[(false,eval e' env)]:=by rfl):EvN X k env ρ (.Call (.Name "range" p) [e,e'] [] pos) (fun o=>∀ (h:Heap) (r:Addr),h.get? r=some o→∃ t u w,IsRange h r a b 1 t u w):=fun A bad O s R r =>
  type_use R r hx hk (aB h (aB h' aG he') (by rw [he,he'])) (fun vs s1 x1 r1 q1=>by
    refine q1.twoE fun v w qa qb=>qa.intE fun t=>qb.intE fun u=>?_
    refine call_range_2 ?_
    refine ⟨x1.trans ⟨fun b o e=>Heap.get?_push_of_some _ e,rfl,rfl⟩,_,_,rfl,x1.none (get_size _),Heap.get?_push_size _ rfl,new_low r1 (Nat.le_refl _),fun h r e=>⟨_,_,_,e⟩⟩) (by decide) (by rw [he,he']) (by rw [he];rfl)
end
noncomputable abbrev editSt:Stmt:=aD topBody 8
noncomputable def fdEdit (a b c:Value):FuncData:=fnOf "_law_edit" "_law_edit" (defArgs editSt) (aH editSt) (bL editSt) (.none) (.none) (.none) a none b c
structure LF (X:Cx):Prop where
  df:DF X
  mf:MF X
  mg:MG X
  sm:X.gl ("SequenceMatcher":Str)=some (.ref 242)
  kp:keepIn X.K (.ref 242)=true
  made:makesIn X.K 242=true
  mn:X.gl ("min":Str)=some (.builtin "min")
theorem LF.on {X:Cx} (F:LF X) {h:Heap} {D:PyData→Value→Prop} (k:∀ b o,X.h₀.get? b=some o→h.get? b=some o):LF (X.on h D):=⟨F.df.on k,F.mf.on k,F.mg.on k,F.sm,F.kp,F.made,F.mn⟩
section
variable {X:Cx} {k:Nat} {as bs:List Int}
noncomputable def gEnds:PyData→List PyData
  | .tuple [.str t,.int i1,.int i2,.int j1,.int j2]=>if PyData.eqv (.str t) (.str "equal") then [.tuple [.int i1,.int j1,.int (i2 - i1)]] else []
  | _=>[]
theorem gEnds_code (t:Str) (i1 i2 j1 j2:Nat):gEnds (code t i1 i2 j1 j2)=if PyData.eqv (.str t) (.str "equal") then [.tuple [.int i1,.int j1,.int (i2 - i1)]] else []:=rfl
noncomputable def Tag (t:Str):Prop:=t="insert"∨t="delete"∨t="replace"∨t="equal"
theorem gap_mem {i ai j bj:Nat} {x:PyData} (h:x∈gap i ai j bj):∃ t i1 i2 j1 j2,x=code t i1 i2 j1 j2∧Tag t∧t ≠ "equal":=by
  unfold gap at h
  split at h
  · cases h
  · rw [List.mem_singleton] at h
    refine ⟨_,_,_,_,_,h,?_⟩
    split
    · exact ⟨.inl rfl,by decide⟩
    · split
      · exact ⟨.inr (.inl rfl),by decide⟩
      · exact ⟨.inr (.inr (.inl rfl)),by decide⟩
theorem opc_mem {la lb:Nat}:∀ {bl:List T3} {i j:Nat} {x:PyData},x∈opc la lb i j bl→∃ t i1 i2 j1 j2,x=code t i1 i2 j1 j2∧Tag t
  | [],i,j,x,h=>let ⟨t,i1,i2,j1,j2,e,ht,_⟩:=gap_mem h;⟨t,i1,i2,j1,j2,e,ht⟩
  | (ai,bj,n) :: r,i,j,x,h=>by
    unfold opc at h
    rcases List.mem_append.mp h with h | h
    · obtain ⟨t,i1,i2,j1,j2,e,ht,_⟩:=gap_mem h
      exact ⟨t,i1,i2,j1,j2,e,ht⟩
    · rcases List.mem_cons.mp h with rfl | h
      · exact ⟨"equal",_,_,_,_,rfl,.inr (.inr (.inr rfl))⟩
      · exact opc_mem h
theorem gap_ends (i ai j bj:Nat):(gap i ai j bj).flatMap gEnds=[]:=by
  rw [List.flatMap_eq_nil_iff]
  intro x hx
  obtain ⟨t,i1,i2,j1,j2,rfl,ht,hne⟩:=gap_mem hx
  rw [gEnds_code,if_neg]
  rcases ht with rfl | rfl | rfl | rfl
  · decide
  · decide
  · decide
  · exact absurd rfl hne
theorem opc_ends {la lb:Nat}:∀ (bl:List T3) (i j:Nat),(opc la lb i j bl).flatMap gEnds=bl.map tup3
  | [],i,j=>gap_ends _ _ _ _
  | (ai,bj,n) :: r,i,j=>by
    unfold opc
    rw [List.flatMap_append,gap_ends,List.nil_append,List.flatMap_cons,opc_ends r,gEnds_code,if_pos (by decide)]
    show [PyData.tuple [.int ai,.int bj,.int (((ai+n:Nat):Int) - (ai:Int))]]++_=tup3 (ai,bj,n) :: _
    rw [show ((ai+n:Nat):Int) - (ai:Int)=(n:Int) by exact aF 0xf1f1f1c0c10acd5ff rfl]
    rfl
theorem opc_len {la lb:Nat}:∀ (bl:List T3) (i j:Nat),(opc la lb i j bl).length≤2 * bl.length+1
  | [],i,j=>by unfold opc gap;split <;> simp
  | (ai,bj,n) :: r,i,j=>by
    have h1:=opc_len (la:=la) (lb:=lb) r (ai+n) (bj+n)
    have h2:(gap i ai j bj).length≤1:=by unfold gap;split <;> simp
    unfold opc
    rw [List.length_append,List.length_cons,List.length_cons];exact aO 0xf11118181a02ba180a2a0f182018102ba00f rfl h1 h2
noncomputable def endsOf (as bs:List Int):List T3:=[(0,0,0)]++ro (mm as bs) (bO as bs)++[(as.length,bs.length,0)]
theorem edit_head (F:LF X) {L f:Addr} {z1 z2 z3:Value} {Q:Fl→List (Str×B)→Prop} (hza:as.length≤1000) (hzb:bs.length≤1000) (h64:(ro (mm as bs) (bO as bs)).length < 64)
    (hrest:∀ (h':Heap) (rr:Addr) (t u w:Tok) (ρ:List (Str×B)),(∀ b o,X.h₀.get? b=some o→h'.get? b=some o)→IsRange h' rr 1 (min (as.length:Int) bs.length+1) 1 t u w→aM ρ "a" (.val (.list (as.map .int)))→aM ρ "b" (.val (.list (bs.map .int)))→aM ρ "codes" (.val (.list (opc as.length bs.length 0 0 (ro (mm as bs) (bO as bs)))))→aM ρ "ends" (.val (.list ((endsOf as bs).map tup3)))→aM ρ "sizes" (.raw (.ref rr)) →
      Exs (X.on h' X.dat) (k+6) (callEnvC (fdEdit z1 z2 z3) L f) ρ ((aH editSt).drop 3) Q) :
    Exs X (k+6) (callEnvC (fdEdit z1 z2 z3) L f) [("a",.val (.list (as.map .int))),("b",.val (.list (bs.map .int)))] (aH editSt) Q:=by
  refine aC (bK (d:=.list (opc as.length bs.length 0 0 (ro (mm as bs) (bO as bs)))) (ev_opcodes F.df F.mf F.mg F.sm F.kp F.made rfl (aA (by k_mem)) (aA (by k_mem)) hza hzb h64) (.inl rfl) ?_)
  have hsl:5000≤sizeLine:=by decide
  have hlen:∀ {ρ:List (Str×B)} {x:Str} {xs:List Int} {p p2 p4:Pos},(x == ("__debug__":Str))=false→xs.length≤1000→aM ρ x (.val (.list (xs.map .int)))→Ev X (k+6) (callEnvC (fdEdit z1 z2 z3) L f) ρ (.Call (.Name "len" p) [.Name x p2] [] p4) (.int xs.length):=fun hd hz h1=>by
    rename_i xs _ _ _
    rw [show (xs.length:Int)=((xs.map PyData.int).length:Int) by rw [List.length_map]]
    exact ev_len F.df.len rfl (bB (aA h1 hd)) (by rw [List.length_map];exact aF 0xf111010f3e8191001388290f rfl hsl hz)
  refine aC (bK (d:=.list ([tup3 (0,0,0)]++(ro (mm as bs) (bO as bs)).map tup3++[tup3 (as.length,bs.length,0)])) (ev_cat (bB (ev_cat (bB (ev_list (aB (aV (aB aJ (aB aJ (aB aJ aG))) (by simp only [List.length_cons,List.length_nil];exact aQ 0xf11018181808aaa0f01388290f rfl hsl)) aG) (by simp only [List.length_cons,List.length_nil];exact aQ 0xf1101808a0f01388290f rfl hsl)))
    (bB ((opc_ends (la:=as.length) (lb:=bs.length) _ 0 0) ▸ (evf_comp (ρc:=[]) (cl:=[]) gEnds (evi_list (aA (by k_mem))).weak ⟨rfl,by decide,rfl,by decide,(fun n c e=>by cases e),(fun y b e=>by cases e)⟩ ?_ ?_).ev)) ?_)) (bB (ev_list (aB (aV (aB (hlen (by decide) hza (by k_mem)) (aB (hlen (by decide) hzb (by k_mem)) (aB aJ aG))) (by simp only [List.length_cons,List.length_nil];exact aQ 0xf11018181808aaa0f01388290f rfl hsl)) aG) (by simp only [List.length_cons,List.length_nil];exact aQ 0xf1101808a0f01388290f rfl hsl))) ?_) (.inr ⟨rfl,_,rfl⟩) ?_)
  · intro C x hx
    obtain ⟨t,i1,i2,j1,j2,rfl,ht⟩:=opc_mem hx
    have hsh:SeqAt.shaped (.str t)=true:=by rcases ht with rfl | rfl | rfl | rfl <;> first | rfl | decide +kernel
    refine ⟨_,_,asgc_tuple (asgcl_cons (bE rfl) (asgcl_cons (bE rfl) (asgcl_cons (bE rfl) (asgcl_cons (bE rfl) (asgcl_cons (bE rfl) asgcl_nil))))) rfl rfl,(fun y c e=>by cases e),tstl_one (tst_eq (aA (d:=.str t) (by k_mem)) ev_str hsh (by first | rfl | decide +kernel) (by exact aQ 0xf1680a081ff rfl)),fun hb=>?_,fun hb=>?_⟩
    · rw [gEnds_code,if_pos hb]
      exact cmb_item (aV (aB (aA (by k_mem)) (aB (aA (by k_mem)) (aB (ev_sub (aA (by k_mem)) (aA (by k_mem))) aG))) (by simp only [List.length_cons,List.length_nil];exact aQ 0xf11018181808aaa0f01388290f rfl hsl))
    · rw [gEnds_code,if_neg (by rw [hb];decide)]
  · rw [opc_ends,List.length_map];exact aF 0xf111100f11388290400901f rfl h64 hsl
  · simp;exact aF 0xf1111018a0f11388290400901f rfl h64 hsl
  · simp;exact aF 0xf111118180aa0f11388290400901f rfl h64 hsl
  · refine aC (ex_assignN "#r" (evn_range2 F.df.range rfl aJ (aU (ev_min2 F.mn rfl (hlen (by decide) hza (by k_mem)) (hlen (by decide) hzb (by k_mem))) aJ)) fun rr o hlow hoo=>asgv_name (.inr ⟨rfl,_,rfl⟩) ?_)
    refine exs_rebase (key:="#r") (a:=rr) (o:=o) (by k_mem) fun h' sub ha=>?_
    obtain ⟨t,u,w,hr⟩:=hoo h' rr ha
    refine hrest h' rr t u w _ sub hr (by k_mem) (by k_mem) (by k_mem) ?_ (by k_mem)
    unfold endsOf
    rw [List.map_append,List.map_append]
    k_mem
end
theorem pickD_run (ds:List PyData) (a b:Nat):pickD ds (some (a:Int)) (some (b:Int)) none=(ds.drop a).take (b - a):=by
  have e:sliceBounds (some (a:Int)) (some (b:Int)) none ds.length=(((min a ds.length:Nat):Int),((min b ds.length:Nat):Int),1):=by
    simp only [sliceBounds,Option.getD_none]
    have h1:¬ ((a:Int) < 0):=by exact aQ 0xf1080c46ff rfl
    have h2:¬ ((b:Int) < 0):=by exact aQ 0xf1080c46ff rfl
    simp only [h1,h2,if_false,show (1:Int) > 0 by decide,if_true]
    congr 1
    · lia
    · congr 1;lia
  have hp:=pick_run ds.toArray (min a ds.length) (min b ds.length - min a ds.length)
  unfold pickD
  rw [e]
  simp only [sliceRange_one]
  simp only [List.getElem?_toArray] at hp
  rw [hp]
  rcases Nat.lt_or_ge ds.length a with h | h
  · rw [Nat.min_eq_right (Nat.le_of_lt h),List.drop_of_length_le (by simp),List.drop_of_length_le (Nat.le_of_lt h)];simp
  · rw [Nat.min_eq_left h]
    rcases Nat.lt_or_ge ds.length b with h' | h'
    · rw [Nat.min_eq_right (Nat.le_of_lt h'),List.take_of_length_le (by simp),List.take_of_length_le (by simp;exact aO 0xf110123a00f101f211 rfl h')]
    · rw [Nat.min_eq_left h']
theorem pickD_rev (ds:List PyData):pickD ds none none (some (-1))=ds.reverse:=by
  have h:=krv_pick
  unfold pickD
  have hb:sliceBounds none none (some (-1)) ds.length=((ds.length:Int) - 1,-1,-1):=krv_bounds _
  rw [hb]
  dsimp only
  rw [krv_sliceRange,krv_range,List.filterMap_reverse]
  have:=krv_all ds.toArray
  simp only [List.size_toArray,List.getElem?_toArray] at this
  rw [this]
theorem canLay_ints:∀ xs:List Int,PyData.canLayAll0 (xs.map .int)=true
  | []=>rfl
  | x :: r=>by simp only [List.map_cons,PyData.canLayAll0,PyData.canLay0,canLay_ints r,Bool.and_self]
theorem depth_ints:∀ xs:List Int,PyData.depthAll (xs.map .int)≤1
  | []=>by simp [PyData.depthAll]
  | x :: r=>by
    have:=depth_ints r
    simp only [List.map_cons,PyData.depthAll,PyData.depth];exact aQ 0xf1108f108f1810f1800f0084 rfl this
theorem ints_shaped (xs:List Int):SeqAt.shaped (.list (xs.map .int))=true:=by
  have:=depth_ints xs
  unfold SeqAt.shaped
  simp only [PyData.canLay0,PyData.depth,canLay_ints,Bool.true_and];exact decide_eq_true (by exact aQ 0xf114009180a0f1800f rfl this)
theorem tupI_shaped (xs:List Int):SeqAt.shaped (tupI xs)=true:=by
  have:=depth_ints xs
  unfold SeqAt.shaped tupI
  simp only [PyData.canLay0,PyData.depth,canLay_ints,Bool.true_and];exact decide_eq_true (by exact aQ 0xf114009180a0f1800f rfl this)
theorem eqv_ints (xs ys:List Int):PyData.eqv (.list (xs.map .int)) (.list (ys.map .int))=decide (xs=ys):=by
  rw [PyData.eqv,ked_eqvAll]
theorem eqv_tupI (xs ys:List Int):PyData.eqv (tupI xs) (tupI ys)=decide (xs=ys):=by
  unfold tupI;rw [PyData.eqv,ked_eqvAll]
theorem code_ok {t:Str} (ht:Tag t) (i1 i2 j1 j2:Nat):(code t i1 i2 j1 j2).canLay0=true∧(code t i1 i2 j1 j2).depth≤3:=by
  have h:PyData.strOk t=true:=by rcases ht with rfl | rfl | rfl | rfl <;> first | rfl | decide +kernel
  unfold code
  simp only [PyData.canLay0,PyData.canLayAll0,PyData.depth,PyData.depthAll,h,Bool.and_self]
  exact ⟨trivial,by decide⟩
theorem codes_ok:∀ {cs:List PyData},(∀ x∈cs,∃ t i1 i2 j1 j2,x=code t i1 i2 j1 j2∧Tag t)→PyData.canLayAll0 cs=true∧PyData.depthAll cs≤3
  | [],_=>by simp [PyData.canLayAll0,PyData.depthAll]
  | x :: r,h=>by
    obtain ⟨t,i1,i2,j1,j2,rfl,ht⟩:=h _ List.mem_cons_self
    obtain ⟨a,b⟩:=code_ok ht i1 i2 j1 j2
    obtain ⟨c,d⟩:=codes_ok (cs:=r) fun x hx=>h x (List.mem_cons_of_mem _ hx)
    simp only [PyData.canLayAll0,PyData.depthAll,a,c,Bool.and_self]
    exact ⟨trivial,by exact aF 0xf10108f1108f3820f38103800f104 rfl b d⟩
theorem opc_shaped (la lb i j:Nat) (bl:List T3):SeqAt.shaped (.list (opc la lb i j bl))=true:=by
  obtain ⟨a,b⟩:=codes_ok (cs:=opc la lb i j bl) fun x hx=>opc_mem hx
  unfold SeqAt.shaped
  simp only [PyData.canLay0,PyData.depth,a,Bool.true_and];exact decide_eq_true (by exact aQ 0xf114009180a0f3800f rfl b)
theorem eqv_self {d:PyData} (h:SeqAt.shaped d=true):PyData.eqv d d=true:=SeqAt.eqv_refl _ (SeqAt.canLay_of_shaped h)
noncomputable def gN (as bs:List Int) (x y:Nat):PyData→List PyData
  | .int n=>if (decide ((x:Int)+n≤as.length) && (as.drop x).take n.toNat == (bs.drop y).take n.toNat) then [.tuple [.int x,.int y,.int n]] else []
  | _=>[]
noncomputable def gY (as bs:List Int) (m x:Nat):PyData→List PyData
  | .int y=>(aY 1 1 m).flatMap (gN as bs x y.toNat)
  | _=>[]
noncomputable def gX (as bs:List Int) (m:Nat):PyData→List PyData
  | .int x=>(aY 0 1 bs.length).flatMap (gY as bs m x.toNat)
  | _=>[]
theorem flatMap_len {α β:Type} {f:α→List β} {c:Nat}:∀ {l:List α},(∀ x∈l,(f x).length≤c)→(l.flatMap f).length≤l.length * c
  | [],_=>by simp
  | x :: l,h=>by
    have h1:=h x List.mem_cons_self
    have h2:=flatMap_len (l:=l) fun y hy=>h y (List.mem_cons_of_mem _ hy)
    rw [List.flatMap_cons,List.length_append,List.length_cons,Nat.add_mul,Nat.one_mul];exact bF 0xf11113a20a0f320100f rfl h1 h2
theorem gN_len (as bs:List Int) (x y:Nat) (d:PyData):(gN as bs x y d).length≤1:=by
  unfold gN;split
  · split <;> simp
  · simp
theorem gY_len (as bs:List Int) (m x:Nat) (d:PyData):(gY as bs m x d).length≤m:=by
  unfold gY;split
  · rename_i n
    have:=flatMap_len (l:=aY 1 1 m) (f:=gN as bs x n.toNat) fun y _=>gN_len as bs x _ y
    rw [bI,Nat.mul_one] at this;exact this
  · simp
theorem gX_len (as bs:List Int) (m:Nat) (d:PyData):(gX as bs m d).length≤bs.length * m:=by
  unfold gX;split
  · rename_i n
    have:=flatMap_len (l:=aY 0 1 bs.length) (f:=gY as bs m n.toNat) fun y _=>gY_len as bs m _ y
    rw [bI] at this;exact this
  · simp
section
variable {X:Cx} {k:Nat} {as bs:List Int}
theorem gN_nat (as bs:List Int) (x y n:Nat):gN as bs x y (.int (n:Int))=if (decide ((x:Int)+(n:Int)≤as.length) && (decide ((as.drop x).take n=(bs.drop y).take n) && true))=true then [.tuple [.int x,.int y,.int n]] else []:=by
  show (if _ then _ else _)=_
  rw [Int.toNat_natCast]
  congr 1
  rw [Bool.and_true]
  by_cases h:List.take n (List.drop x as)=List.take n (List.drop y bs) <;> simp [h]
theorem mapint_take (as:List Int) (x n:Nat):((as.map PyData.int).drop x).take n=((as.drop x).take n).map .int:=by
  rw [List.map_take,List.map_drop]
theorem ints_mem {a c:Int} {m:Nat} {d:PyData} (h:d∈aY a c m):∃ i:Nat,i < m∧d=.int (a+i * c):=by
  unfold aY at h
  obtain ⟨i,hi,rfl⟩:=List.mem_map.mp h
  exact ⟨i,List.mem_range.mp hi,rfl⟩
theorem runs_n {env:Env} {ρ:List (Str×B)} {sc:Scope} {gens:List Comprehension} {rr:Addr} {t u w:Tok} {x y:Nat} {p pt pu p1 p2 p3 p4 p5 p6 p7 p8 p9 q1 q2 q3 q4 q5 q6 q7 q8 q9 r1 r2 r3 r4 r5 r6 r7 r8 r9:Pos} {nn:Nat}
    (F:LF X) (hza:as.length≤40) (hzb:bs.length≤40) (hr:IsRange X.h₀ rr 1 (min (as.length:Int) bs.length+1) 1 t u w)
    (h1:aM ρ "a" (.val (.list (as.map .int)))) (h2:aM ρ "b" (.val (.list (bs.map .int)))) (h3:aM ρ "sizes" (.raw (.ref rr))) (hx:aM ρ "x" (.val (.int x))) (hy:aM ρ "y" (.val (.int y))) (hno:ρ.lookup ("n":Str)=none)
    (hlen:env.kindOf ("len":Str)=some .globalImplicit) (hkn:env.kindOf ("n":Str)=some .local)
    (g2:gens[2]?=some ⟨.Name "n" p1,.Name "sizes" p2,[.BoolOp .And [.Compare (.BinOp (.Name "x" p3) .Add (.Name "n" p4) p5) [.LtE] [.Call (.Name "len" p6) [.Name "a" p7] [] p8] p9,.Compare (.Subscript (.Name "a" q1) (.Slice (some (.Name "x" q2)) (some (.BinOp (.Name "x" q3) .Add (.Name "n" q4) q5)) none q6) q7) [.Eq] [.Subscript (.Name "b" r1) (.Slice (some (.Name "y" r2)) (some (.BinOp (.Name "y" r3) .Add (.Name "n" r4) r5)) none r6) r7] q8] q9],0⟩) (g3:gens[3]?=none) :
    CmB X (k+6) env ρ (clauseTree (.Tuple [.Name "x" r8,.Name "y" r9,.Name "n" pt] nn pu) (.Name "sizes" p2) gens sc p 2 env) ((aY 1 1 (min as.length bs.length)).flatMap (gN as bs x y)):=by
  have hsl:5000≤sizeLine:=by decide
  refine cmb_clause (tree:=itemTree _ env) g2 (evr_name h3 hr (small_up (by exact lqx [] [] 0xf1f1f1000000000099183181000000000099e37ff rfl) (by lia)) (by rw [rangeSize_up];lia)) (trn_last g2 g3) (fun d hd=>?_)
  obtain ⟨i,hi,rfl⟩:=ints_mem hd
  have hn:(1+(i:Int) * 1)=((i+1:Nat):Int):=by exact aQ 0xf1f1f180ac0c01f18a5ff rfl
  rw [hn]
  have hlenA:Ev X (k+6) env (put ρ "n" (.val (.int ((i+1:Nat):Int)))) (.Call (.Name "len" p6) [.Name "a" p7] [] p8) (.int as.length):=by
    rw [show (as.length:Int)=((as.map PyData.int).length:Int) by rw [List.length_map]]
    exact ev_len F.df.len hlen (bB (aA (by k_mem))) (by rw [List.length_map];exact aF 0xf111100f11388290280900f rfl hza hsl)
  have sA:Ev X (k+6) env (put ρ "n" (.val (.int ((i+1:Nat):Int)))) (.Subscript (.Name "a" q1) (.Slice (some (.Name "x" q2)) (some (.BinOp (.Name "x" q3) .Add (.Name "n" q4) q5)) none q6) q7) (.list (((as.drop x).take (i+1)).map .int)):=by
    have:=ev_slice (ds:=as.map .int) (p:=q6) (pos:=q7) (X:=X) (k:=k+6) (env:=env) (ρ:=put ρ "n" (.val (.int ((i+1:Nat):Int)))) (bB (aA (x:="a") (pos:=q1) (by k_mem))) (evp_some (aA (x:="x") (pos:=q2) (d:=.int x) (by k_mem))) (evp_some (aU (pos:=q5) (aA (x:="x") (pos:=q3) (d:=.int x) (by k_mem)) (aA (x:="n") (pos:=q4) (d:=.int ((i+1:Nat):Int)) (by k_mem)))) evp_none (by simp) (by rw [List.length_map];exact aF 0xf111100f11388290280900f rfl hza hsl)
    rwa [show (x:Int)+((i+1:Nat):Int)=((x+(i+1):Nat):Int) by exact aF 0xf1f1f181a0ac181ac0ca5ff rfl,pickD_run,mapint_take,show x+(i+1) - x=i+1 by exact aF 0xf11f10ff18f10ff181a22ff0181a0a0 rfl] at this
  have sB:Ev X (k+6) env (put ρ "n" (.val (.int ((i+1:Nat):Int)))) (.Subscript (.Name "b" r1) (.Slice (some (.Name "y" r2)) (some (.BinOp (.Name "y" r3) .Add (.Name "n" r4) r5)) none r6) r7) (.list (((bs.drop y).take (i+1)).map .int)):=by
    have:=ev_slice (ds:=bs.map .int) (p:=r6) (pos:=r7) (X:=X) (k:=k+6) (env:=env) (ρ:=put ρ "n" (.val (.int ((i+1:Nat):Int)))) (bB (aA (x:="b") (pos:=r1) (by k_mem))) (evp_some (aA (x:="y") (pos:=r2) (d:=.int y) (by k_mem))) (evp_some (aU (pos:=r5) (aA (x:="y") (pos:=r3) (d:=.int y) (by k_mem)) (aA (x:="n") (pos:=r4) (d:=.int ((i+1:Nat):Int)) (by k_mem)))) evp_none (by simp) (by rw [List.length_map];exact aF 0xf111100f11388290280900f rfl hzb hsl)
    rwa [show (y:Int)+((i+1:Nat):Int)=((y+(i+1):Nat):Int) by exact aF 0xf1f1f181a0ac181ac0ca5ff rfl,pickD_run,mapint_take,show y+(i+1) - y=i+1 by exact aF 0xf11f10ff18f10ff181a22ff0181a0a0 rfl] at this
  refine ⟨_,_,bE hkn,fun z c e=>?_,tstl_one (aW (aL (aU (aA (d:=.int x) (by k_mem)) (aA (d:=.int ((i+1:Nat):Int)) (by k_mem))) hlenA rfl) fun _=>aW (tst_eq sA sB (ints_shaped _) (ints_shaped _) (by exact aQ 0xf1680a081ff rfl)) fun _=>tst_and0),fun hb=>?_,fun hb=>?_⟩
  · by_cases hz:z="n"
    · subst hz;rw [hno] at e;cases e
    · rw [bA _ hz];exact e
  · rw [eqv_ints] at hb
    rw [gN_nat,if_pos hb]
    exact cmb_item (aV (aB (aA (by k_mem)) (aB (aA (by k_mem)) (aB (aA (by k_mem)) aG))) (by simp only [List.length_cons,List.length_nil];exact aQ 0xf11018181808aaa0f01388290f rfl hsl))
  · rw [eqv_ints] at hb
    rw [gN_nat,if_neg (by rw [hb];decide)]
theorem runs_y {env:Env} {ρ:List (Str×B)} {sc:Scope} {gens:List Comprehension} {rr:Addr} {t u w:Tok} {x:Nat} {p pt pu p1 p2 p3 p4 p5 p6 p7 p8 p9 q1 q2 q3 q4 q5 q6 q7 q8 q9 r1 r2 r3 r4 r5 r6 r7 r8 r9 s1 s2 s3 s4 s5 s6:Pos} {nn:Nat}
    (F:LF X) (hza:as.length≤40) (hzb:bs.length≤40) (hr:IsRange X.h₀ rr 1 (min (as.length:Int) bs.length+1) 1 t u w)
    (h1:aM ρ "a" (.val (.list (as.map .int)))) (h2:aM ρ "b" (.val (.list (bs.map .int)))) (h3:aM ρ "sizes" (.raw (.ref rr))) (hx:aM ρ "x" (.val (.int x))) (hno:ρ.lookup ("n":Str)=none) (hnoy:ρ.lookup ("y":Str)=none)
    (hlen:env.kindOf ("len":Str)=some .globalImplicit) (hrange:env.kindOf ("range":Str)=some .globalImplicit) (hkn:env.kindOf ("n":Str)=some .local) (hky:env.kindOf ("y":Str)=some .local)
    (g1:gens[1]?=some ⟨.Name "y" s1,.Call (.Name "range" s2) [.Call (.Name "len" s3) [.Name "b" s4] [] s5] [] s6,[],0⟩)
    (g2:gens[2]?=some ⟨.Name "n" p1,.Name "sizes" p2,[.BoolOp .And [.Compare (.BinOp (.Name "x" p3) .Add (.Name "n" p4) p5) [.LtE] [.Call (.Name "len" p6) [.Name "a" p7] [] p8] p9,.Compare (.Subscript (.Name "a" q1) (.Slice (some (.Name "x" q2)) (some (.BinOp (.Name "x" q3) .Add (.Name "n" q4) q5)) none q6) q7) [.Eq] [.Subscript (.Name "b" r1) (.Slice (some (.Name "y" r2)) (some (.BinOp (.Name "y" r3) .Add (.Name "n" r4) r5)) none r6) r7] q8] q9],0⟩) (g3:gens[3]?=none) :
    CmB X (k+6) env ρ (clauseTree (.Tuple [.Name "x" r8,.Name "y" r9,.Name "n" pt] nn pu) (.Call (.Name "range" s2) [.Call (.Name "len" s3) [.Name "b" s4] [] s5] [] s6) gens sc p 1 env) ((aY 0 1 bs.length).flatMap (gY as bs (min as.length bs.length) x)):=by
  have hsl:5000≤sizeLine:=by decide
  have hlenB:Ev X (k+6) env ρ (.Call (.Name "len" s3) [.Name "b" s4] [] s5) (.int bs.length):=by
    rw [show (bs.length:Int)=((bs.map PyData.int).length:Int) by rw [List.length_map]]
    exact ev_len F.df.len hlen (bB (aA (by k_mem))) (by rw [List.length_map];exact aF 0xf111100f11388290280900f rfl hzb hsl)
  refine cmb_clause (tree:=clauseTree (.Tuple [.Name "x" r8,.Name "y" r9,.Name "n" pt] nn pu) (.Name "sizes" p2) gens sc p 2 env) g1 (evr_range1 (n:=bs.length) F.df.range hrange hlenB (by exact aQ 0xf11f1f10000000000990c30c1000000000099e37f280900f rfl hzb)) (trn_mid g1 g2) (fun d hd=>?_)
  obtain ⟨i,hi,rfl⟩:=ints_mem hd
  have hn:(0+(i:Int) * 1)=(i:Int):=by exact aQ 0xf1f1f0c0c01f08a5ff rfl
  rw [hn]
  refine ⟨_,true,bE hky,fun z c e=>?_,tstl_nil,fun _=>?_,fun hb=>by cases hb⟩
  · by_cases hz:z="y"
    · subst hz;rw [hnoy] at e;cases e
    · rw [bA _ hz];exact e
  · exact runs_n F hza hzb hr (by k_mem) (by k_mem) (by k_mem) (by k_mem) (by k_mem) (by rw [bA _ (by decide)];exact hno) hlen hkn g2 g3
theorem edit_runs (F:LF X) {L f rr:Addr} {z1 z2 z3:Value} {t u w:Tok} {ρ:List (Str×B)} {Q:Fl→List (Str×B)→Prop} (hza:as.length≤40) (hzb:bs.length≤40)
    (hr:IsRange X.h₀ rr 1 (min (as.length:Int) bs.length+1) 1 t u w) (h1:aM ρ "a" (.val (.list (as.map .int)))) (h2:aM ρ "b" (.val (.list (bs.map .int)))) (h3:aM ρ "sizes" (.raw (.ref rr)))
    (hq:Q .next (put ρ "runs" (.own ((aY 0 1 as.length).flatMap (gX as bs (min as.length bs.length)))))):Ex1 X (k+6) (callEnvC (fdEdit z1 z2 z3) L f) ρ ((aH editSt).getD 3 (.Pass ⟨0,0,0,0⟩)) Q:=by
  have hsl:5000≤sizeLine:=by decide
  have hlen:∀ {env:Env} {ρ:List (Str×B)} {x:Str} {xs:List Int} {p p2 p4:Pos},env.kindOf ("len":Str)=some .globalImplicit→(x == ("__debug__":Str))=false→xs.length≤1000→aM ρ x (.val (.list (xs.map .int)))→starEach [.Name x p2] env=[(false,eval (.Name x p2) env)]→Ev X (k+6) env ρ (.Call (.Name "len" p) [.Name x p2] [] p4) (.int xs.length):=fun hk hd hz h1 hst=>by
    rename_i xs _ _ _
    rw [show (xs.length:Int)=((xs.map PyData.int).length:Int) by rw [List.length_map]]
    exact ev_len F.df.len hk (bB (aA h1 hd)) (by rw [List.length_map];exact aF 0xf111010f3e8191001388290f rfl hsl hz) hst
  refine ex_assignCX (ρc:=[("a",.val (.list (as.map .int))),("b",.val (.list (bs.map .int))),("sizes",.raw (.ref rr))]) (tree:=fun env=>clauseTree _ _ _ _ _ 1 env) (gX as bs (min as.length bs.length)) (items:=aY 0 1 as.length) (evr_range1 (n:=as.length) F.df.range rfl (hlen rfl (by decide) (by exact aQ 0xf113e81900f280900f rfl hza) h1 rfl) (by exact aQ 0xf11f1f10000000000990c30c1000000000099e37f280900f rfl hza)).evi.weak ⟨rfl,by decide,rfl,by decide,?sub,?cap⟩ (fun C {A D I P s} h=>turn_mid rfl rfl h) ?hb ?hz (.inl rfl) hq
  case cap =>
    intro y b e
    simp only [List.lookup_cons] at e
    split at e
    · rename_i hh;have:=eq_of_beq hh;subst this;cases e;exact ⟨fun h=>h,h1,rfl,rfl,_,rfl⟩
    · split at e
      · rename_i hh;have:=eq_of_beq hh;subst this;cases e;exact ⟨fun h=>h,h2,rfl,rfl,_,rfl⟩
      · split at e
        · rename_i hh;have:=eq_of_beq hh;subst this;cases e;exact ⟨fun h=>h,h3,rfl,rfl,_,rfl⟩
        · cases e
  case sub =>
    intro n c e
    change List.lookup n [_,_,_]=_ at e
    simp only [List.lookup_cons] at e
    split at e
    · rename_i hh;have:=eq_of_beq hh;subst this;cases e;rfl
    · split at e
      · rename_i hh;have:=eq_of_beq hh;subst this;cases e;rfl
      · split at e
        · rename_i hh;have:=eq_of_beq hh;subst this;cases e;rfl
        · cases e
  case hz =>
    have h1:=flatMap_len (l:=aY 0 1 as.length) (f:=gX as bs (min as.length bs.length)) fun y _=>gX_len as bs _ y
    rw [bI] at h1
    have h2:bs.length * min as.length bs.length≤40 * 40:=Nat.mul_le_mul hzb (Nat.le_trans (Nat.min_le_left ..) hza)
    have h3:=Nat.mul_le_mul hza h2
    have h4:40 * (40 * 40)≤sizeLine:=by decide
    exact Nat.le_trans h1 (Nat.le_trans h3 h4)
  case hb =>
    intro C d hd
    obtain ⟨i,hi,rfl⟩:=ints_mem hd
    have hn:(0+(i:Int) * 1)=(i:Int):=by exact aQ 0xf1f1f0c0c01f08a5ff rfl
    rw [hn]
    refine ⟨_,true,bE rfl,fun z c e=>?_,tstl_nil,fun _=>?_,fun hb=>by cases hb⟩
    · by_cases hz:z="x"
      · subst hz;cases e
      · rw [bA _ hz];exact e
    · exact runs_y F hza hzb hr (by k_mem) (by k_mem) (by k_mem) (by k_mem) rfl rfl rfl rfl rfl rfl rfl rfl rfl
end
noncomputable def Ge3 (c r:T3):Prop:=r.2.2 < c.2.2∨(r.2.2=c.2.2∧(c.1 < r.1∨(c.1=r.1∧c.2.1≤r.2.1)))
noncomputable def Bef (c r:T3):Prop:=c.1+c.2.2≤r.1∧c.2.1+c.2.2≤r.2.1
noncomputable def Dom1 (c r:T3):Prop:=Ge3 c r∧¬ Bef c r∧¬ Bef r c
theorem RO.mem {m:Mt} {alo ahi blo bhi:Nat} {S:List T3} (h:RO m alo ahi blo bhi S):∀ c∈S,0 < c.2.2∧InW alo ahi blo bhi c.1 c.2.1 c.2.2∧Run m c.1 c.2.1 c.2.2:=by
  induction h with
  | none _=>intro c hc;cases hc
  | some b hk _ _ ih1 ih2 =>
    intro c hc
    obtain ⟨w1,w2,w3,w4⟩:=b.win
    rcases List.mem_append.mp hc with hc | hc
    · obtain ⟨a1,⟨a2,a3,a4,a5⟩,a6⟩:=ih1 c hc
      exact ⟨a1,⟨by exact aF 0xf11100f100f rfl a2,by exact lq5 0xf111243a0f043a0210a0f rfl w2 a3,by exact aF 0xf11100f100f rfl a4,by exact lq5 0xf111243a0f043a0210a0f rfl w4 a5⟩,a6⟩
    · rcases List.mem_cons.mp hc with rfl | hc
      · exact ⟨hk,b.win,b.run⟩
      · obtain ⟨a1,⟨a2,a3,a4,a5⟩,a6⟩:=ih2 c hc
        exact ⟨a1,⟨by exact bF 0xf111300f321a0100f rfl w1 a2,by exact aO 0xf11210a0f210a0f rfl a3,by exact bF 0xf111300f321a0100f rfl w3 a4,by exact aO 0xf11210a0f210a0f rfl a5⟩,a6⟩
theorem RO.dom {m:Mt} {alo ahi blo bhi:Nat} {S:List T3} (h:RO m alo ahi blo bhi S):∀ x y n,0 < n→InW alo ahi blo bhi x y n→Run m x y n→∃ c∈S,Dom1 c (x,y,n):=by
  induction h with
  | none b=>intro x y n hn hw hr;have:=b.best x y n hn hw hr;exact (lq5 0xf1008f108f1f9f4302127211808027080180081f rfl hn this).elim
  | @some alo ahi blo bhi i j k l r b hk _ _ ih1 ih2 =>
    intro x y n hn hw hr
    obtain ⟨w1,w2,w3,w4⟩:=hw
    by_cases h1:Bef (x,y,n) (i,j,k)
    · obtain ⟨c,hc,d⟩:=ih1 x y n hn ⟨w1,h1.1,w3,h1.2⟩ hr
      exact ⟨c,List.mem_append.mpr (.inl hc),d⟩
    · by_cases h2:Bef (i,j,k) (x,y,n)
      · obtain ⟨c,hc,d⟩:=ih2 x y n hn ⟨h2.1,w2,h2.2,w4⟩ hr
        exact ⟨c,List.mem_append.mpr (.inr (List.mem_cons_of_mem _ hc)),d⟩
      · refine ⟨(i,j,k),List.mem_append.mpr (.inr List.mem_cons_self),?_,h2,h1⟩
        have:=b.best x y n hn ⟨w1,w2,w3,w4⟩ hr
        unfold Ge3;simp only;exact lq6 0xf10100f110f1001ff11f10080f1010f1001ff11f1008f108f11ff5403227321810271018f5403227321810271018f rfl this
section
variable {K:Nat→Nat→Prop}
noncomputable def KRun (K:Nat→Nat→Prop) (x y n:Nat):Prop:=∀ t,t < n→K (x+t) (y+t)
structure MaxK (K:Nat→Nat→Prop) (c:T3):Prop where
  pos:0 < c.2.2
  run:KRun K c.1 c.2.1 c.2.2
  left:0 < c.1→0 < c.2.1→¬ K (c.1 - 1) (c.2.1 - 1)
  right:¬ K (c.1+c.2.2) (c.2.1+c.2.2)
noncomputable def MonoK (K:Nat→Nat→Prop):Prop:=∀ x y x' y',K x y→K x' y'→(x < x' ↔ y < y')
theorem MonoK.eq (h:MonoK K) {x y x' y':Nat} (a:K x y) (b:K x' y'):x=x' ↔ y=y':=by
  have h1:=h x y x' y' a b
  have h2:=h x' y' x y b a
  exact ⟨bF 0xf101f11ff101f8001f101fff102322af231011a321101af rfl h1.mpr h2.mpr,bF 0xf101f11ff101f8001f101fff102322af231011a321101af rfl h1.mp h2.mp⟩
theorem ext_up {la:Nat} (hb:∀ x y,K x y→x < la) {x y:Nat}:∀ m n,la - (x+n)≤m→0 < n→KRun K x y n→∃ n',n≤n'∧KRun K x y n'∧¬ K (x+n') (y+n')
  | m,n,hm,hn,hr=>by
    by_cases h:K (x+n) (y+n)
    · have hlt:=hb _ _ h
      cases m with
      | zero=>exact (aO 0xf11109f0830210a1f10a21 rfl hlt hm).elim
      | succ m =>
        obtain ⟨n',h1,h2,h3⟩:=ext_up hb (x:=x) (y:=y) m (n+1) (by exact bF 0xf11018f108f340f183a50f21a01182a1a00 rfl hm) (by exact aQ 0xf1180a081ff rfl) (fun t ht=>by
          rcases Nat.lt_or_ge t n with h' | h'
          · exact hr t h'
          · have:t=n:=by exact aF 0xf101f11f102f010181a01f rfl ht h'
            subst this;exact h)
        exact ⟨n',by exact aF 0xf11100f1180a0f rfl h1,h2,h3⟩
    · exact ⟨n,Nat.le_refl _,hr,h⟩
theorem ext_down:∀ (x y n:Nat),KRun K x y n→∃ d,d≤x∧d≤y∧KRun K (x - d) (y - d) (n+d)∧(0 < x - d→0 < y - d→¬ K (x - d - 1) (y - d - 1))
  | 0,y,n,hr=>⟨0,Nat.le_refl _,Nat.zero_le _,hr,fun h=>absurd h (by exact lqx [] [] 0xf1100816ff08081 rfl)⟩
  | x+1,0,n,hr=>⟨0,Nat.zero_le _,Nat.le_refl _,hr,fun _ h=>absurd h (by exact lqx [] [] 0xf1100816ff08081 rfl)⟩
  | x+1,y+1,n,hr=>by
    by_cases h:K x y
    · obtain ⟨d,h1,h2,h3,h4⟩:=ext_down x y (n+1) (fun t ht=>by
        cases t with
        | zero=>exact h
        | succ t =>
          have:=hr t (by exact aF 0xf11101f181a180a1f rfl ht)
          rwa [show x+(t+1)=x+1+t by exact aF 0xf1f1f1180aa181a0a2ff rfl,show y+(t+1)=y+1+t by exact aF 0xf1f1f1180aa181a0a2ff rfl])
      refine ⟨d+1,by exact aF 0xf11181a180a0f100f rfl h1,by exact aF 0xf11181a180a0f100f rfl h2,?_,?_⟩
      · rw [show x+1 - (d+1)=x - d by exact aF 0xf118f1008ff1108f10008fff181f1810ff108ff322ff100181a180a0 rfl,show y+1 - (d+1)=y - d by exact aF 0xf118f1008ff1108f10008fff181f1810ff108ff322ff100181a180a0 rfl,show n+(d+1)=n+1+d by exact aF 0xf1f1f1180aa181a0a2ff rfl];exact h3
      · rw [show x+1 - (d+1)=x - d by exact aF 0xf118f1008ff1108f10008fff181f1810ff108ff322ff100181a180a0 rfl,show y+1 - (d+1)=y - d by exact aF 0xf118f1008ff1108f10008fff181f1810ff108ff322ff100181a180a0 rfl];exact h4
    · exact ⟨0,by exact aQ 0xf1180a080ff rfl,by exact aQ 0xf1180a080ff rfl,hr,fun _ _=>h⟩
theorem ext_max {la:Nat} (hb:∀ x y,K x y→x < la) {x y n:Nat} (hn:0 < n) (hr:KRun K x y n):∃ d n',d≤x∧d≤y∧n+d≤n'∧MaxK K (x - d,y - d,n'):=by
  obtain ⟨d,h1,h2,h3,h4⟩:=ext_down x y n hr
  obtain ⟨n',h5,h6,h7⟩:=ext_up hb (x:=x - d) (y:=y - d) _ (n+d) (Nat.le_refl _) (by exact aF 0xf1110a081f0081f rfl hn) h3
  exact ⟨d,n',h1,h2,h5,by show 0 < n';exact aO 0xf1112081f210a00081f rfl hn h5,h6,h4,h7⟩
theorem MaxK.cmp (hm:MonoK K) {c c':T3} (h:MaxK K c) (h':MaxK K c'):c=c'∨Bef c c'∨Bef c' c:=by
  have key:∀ {c c':T3},MaxK K c→MaxK K c'→c.1≤c'.1→c=c'∨Bef c c':=by
    intro c c' h h' hle
    obtain ⟨x,y,n⟩:=c
    obtain ⟨x',y',n'⟩:=c'
    obtain ⟨p1,r1,l1,e1⟩:=h
    obtain ⟨p2,r2,l2,e2⟩:=h'
    simp only at p1 r1 l1 e1 p2 r2 l2 e2 hle
    have f2:=r2 0 p2
    simp only [Nat.add_zero] at f2
    rcases Nat.lt_or_ge x' (x+n) with hlt | hge
    · have k1:=r1 (x' - x) (by exact aO 0xf1018f1108f031f02a110081f210 rfl p1 hlt)
      rw [show x+(x' - x)=x' by exact aF 0xf11f110ff18f1108ff120a2f100f010 rfl hle] at k1
      have hy:=(hm.eq k1 f2).mp rfl
      rcases Nat.eq_zero_or_pos (x' - x) with h0 | h0
      · have hx:x=x':=by exact aF 0xf80101f1001f102f0822100f011 rfl hle h0
        have hyy:y=y':=by exact bF 0xf81001f8001f302f0842340a2f211 rfl hy h0
        clear hy
        subst hx hyy
        rcases Nat.lt_trichotomy n n' with h | h | h
        · exact absurd (r2 n h) e1
        · subst h;exact .inl rfl
        · exact absurd (r1 n' h) e2
      · have k2:=r1 (x' - x - 1) (by exact aO 0xf10118f1000008f241f308121a01f1831100 rfl hlt h0)
        rw [show x+(x' - x - 1)=x' - 1 by exact aF 0xf1118f10008ff11108f100008fff1008ff1881f18810ff118081f1180810fff1008ff431a2f2081f18001820100 rfl h0,show y+(x' - x - 1)=y' - 1 by exact bF 0xf100118f1008ff1001108f10008fff800181f8001810ff18001081f180010810fff650a2f4081340a2f18301840211 rfl hy h0] at k2
        exact absurd k2 (l2 (by exact aF 0xf10110081f2081f101 rfl h0) (by exact bF 0xf180013081f4081340a2f211 rfl hy h0))
    · have k1:=r1 (n - 1) (by exact aQ 0xf18f1108f011f0081f1800 rfl p1)
      have:=(hm _ _ _ _ k1 f2).mp (by exact aO 0xf1018f11108f231a1f201a00081f1800 rfl p1 hge)
      exact .inr ⟨hge,by show y+n≤y';exact aO 0xf1101210a0f230a1f1811 rfl this⟩
  rcases Nat.le_total c.1 c'.1 with hle | hle
  · rcases key h h' hle with e | e
    · exact .inl e
    · exact .inr (.inl e)
  · rcases key h' h hle with e | e
    · exact .inl e.symm
    · exact .inr (.inr e)
noncomputable def Closed (K:Nat→Nat→Prop) (alo ahi blo bhi:Nat):Prop:=∀ c,MaxK K c→(c.1+c.2.2≤alo∧c.2.1+c.2.2≤blo)∨InW alo ahi blo bhi c.1 c.2.1 c.2.2∨(ahi≤c.1∧bhi≤c.2.1)
theorem RO.kept {m:Mt} {la lb:Nat} (hb:∀ x y,K x y→x < la) (hm:MonoK K) (hK:∀ x y,K x y→m x y=true)
    (dom:∀ x y n,0 < n→x+n≤la→y+n≤lb→Run m x y n→∃ c:T3,0 < c.2.2∧KRun K c.1 c.2.1 c.2.2∧Dom1 c (x,y,n))
    {alo ahi blo bhi:Nat} {S:List T3} (h:RO m alo ahi blo bhi S):ahi≤la→bhi≤lb→Closed K alo ahi blo bhi→∀ c,c∈S ↔ (MaxK K c∧InW alo ahi blo bhi c.1 c.2.1 c.2.2):=by
  have mrun:∀ {c:T3},MaxK K c→Run m c.1 c.2.1 c.2.2:=fun hc t ht=>hK _ _ (hc.run t ht)
  induction h with
  | none b =>
    intro h1 h2 hcl c
    constructor
    · intro h;cases h
    · rintro ⟨h,hw⟩
      have:=b.best c.1 c.2.1 c.2.2 h.pos hw (mrun h);have:=h.pos;lia
  | @some alo ahi blo bhi i j k l r b hk _ _ ih1 ih2 =>
    intro hla hlb hcl
    obtain ⟨w1,w2,w3,w4⟩:=b.win
    have hmax:MaxK K (i,j,k):=by
      obtain ⟨⟨x,y,n⟩,hn,hr,hge,hb1,hb2⟩:=dom i j k hk (by exact bF 0xf111132a0f032a0100f rfl hla w2) (by exact bF 0xf111132a0f032a0100f rfl hlb w4) b.run
      simp only at hn hr
      obtain ⟨d,n',d1,d2,d3,hM⟩:=ext_max hb hn hr
      unfold Ge3 at hge
      unfold Bef at hb1 hb2
      simp only at hge hb1 hb2
      rcases hcl _ hM with hc | hc | hc
      · simp only at hc;exact (lqx [_,_,_,_,_,_,_,_,_] [] 0xf1011010001f110100101f9f3417a01407a0762637a00627a0654a0320100f51715071 rfl w1 w3 d3 hc.1 hc.2 hb1).elim
      · have hbest:=b.best _ _ _ hM.pos hc (mrun hM)
        simp only at hbest
        have e1:x - d=i:=by exact lq8 0xf1080f110f1001011018f100000108f10000011fff1010f1010080f101010f100000081ff110080f11010f10000011fff4172f607045274518032703182760174271741832273218210a0f1071151 rfl d3 hbest hge
        have e2:y - d=j:=by exact lq8 0xf1000100f800000000010f1000000081ff100100010f10100f8000000010f10000011fff11100f100100010f1000001008f8000000010f10000011fff07172f17070274272741852275218076043274318052705184272210a0f131161 rfl d3 e1 hge hbest
        have e3:n'=k:=by exact lq8 0xf1001f101f1000001008f100000108f10000011fff1008f108f11ff322f607045274518032703182760174271741832273218210a0f1071151 rfl d3 hbest hge
        rw [e1,e2,e3] at hM;exact hM
      · simp only at hc;exact (lq8 0xf101001001f10100011f9f0713a0510a07627401720413a0210a0f6071651 rfl w2 w4 hc.1 hc.2 hb2).elim
    have cl1:Closed K alo i blo j:=fun c hc=>by
      rcases hcl c hc with h | ⟨h1,h2,h3,h4⟩ | h
      · exact .inl h
      · rcases hc.cmp hm hmax with e | e | e
        · subst e;exact .inr (.inr ⟨Nat.le_refl _,Nat.le_refl _⟩)
        · exact .inr (.inl ⟨h1,e.1,h3,e.2⟩)
        · exact .inr (.inr ⟨by have:=e.1;simp only at this;exact aO 0xf11200f210a0f rfl this,by have:=e.2;simp only at this;exact aO 0xf11200f210a0f rfl this⟩)
      · exact .inr (.inr ⟨by exact bF 0xf111300f320210a0f rfl w2 h.1,by exact bF 0xf111300f320210a0f rfl w4 h.2⟩)
    have cl2:Closed K (i+k) ahi (j+k) bhi:=fun c hc=>by
      rcases hcl c hc with h | ⟨h1,h2,h3,h4⟩ | h
      · exact .inl ⟨by exact lq5 0xf11141a32a0f032a0100f rfl w1 h.1,by exact lq5 0xf11141a32a0f032a0100f rfl w3 h.2⟩
      · rcases hc.cmp hm hmax with e | e | e
        · subst e;exact .inl ⟨Nat.le_refl _,Nat.le_refl _⟩
        · exact .inl ⟨by have:=e.1;simp only at this;exact bF 0xf1132a10a0f210a0f rfl this,by have:=e.2;simp only at this;exact bF 0xf1132a10a0f210a0f rfl this⟩
        · exact .inr (.inl ⟨e.1,h2,e.2,h4⟩)
      · exact .inr (.inr h)
    intro c
    rw [List.mem_append,List.mem_cons,ih1 (by exact bF 0xf111120f032a0100f rfl hla w2) (by exact bF 0xf111120f032a0100f rfl hlb w4) cl1 c,ih2 hla hlb cl2 c]
    constructor
    · rintro (⟨hc,a1,a2,a3,a4⟩ | rfl | ⟨hc,a1,a2,a3,a4⟩)
      · exact ⟨hc,by exact aF 0xf11100f100f rfl a1,by exact lq5 0xf111243a0f043a0210a0f rfl w2 a2,by exact aF 0xf11100f100f rfl a3,by exact lq5 0xf111243a0f043a0210a0f rfl w4 a4⟩
      · exact ⟨hmax,w1,w2,w3,w4⟩
      · exact ⟨hc,by exact bF 0xf111300f321a0100f rfl w1 a1,by exact aO 0xf11210a0f210a0f rfl a2,by exact bF 0xf111300f321a0100f rfl w3 a3,by exact aO 0xf11210a0f210a0f rfl a4⟩
    · rintro ⟨hc,a1,a2,a3,a4⟩
      rcases hc.cmp hm hmax with e | e | e
      · exact .inr (.inl e)
      · exact .inl ⟨hc,a1,e.1,a3,e.2⟩
      · exact .inr (.inr ⟨hc,e.1,a2,e.2,a4⟩)
end
theorem Good.from2 {la lb:Nat} {b:Bool} {i j:Nat} {bs:List T3} (g:Good la lb b i j bs):∀ t∈bs,j≤t.2.1:=by
  induction g with
  | nil _ _=>intro t ht;cases ht
  | cons h1 h2 h3 _ _ ih =>
    intro t ht
    rcases List.mem_cons.mp ht with rfl | ht
    · exact h2
    · have:=ih t ht;exact bF 0xf111300f321a0100f rfl h2 this
theorem edit_of_mem {ed:List Int} {la lb:Nat} {b:Bool} {i j:Nat} {S:List T3} (g:Good la lb b i j S) (h1:∀ c∈S,∀ t,t < c.2.2→ed[c.2.1+t]?=some ((c.1+t:Nat):Int))
    (h2:∀ y v,ed[y]?=some v→j≤y→v < 0∨∃ c∈S,c.2.1≤y∧y < c.2.1+c.2.2):aZ ed j S:=by
  induction g with
  | nil _ _ =>
    intro t ht hl
    obtain ⟨v,hv⟩:∃ v,ed[t]?=some v:=⟨_,List.getElem?_eq_getElem hl⟩
    rcases h2 t v hv ht with h | ⟨c,hc,_⟩
    · exact ⟨v,hv,h⟩
    · cases hc
  | @cons b i j ai bj n r h3 h4 h5 _ g ih =>
    refine ⟨fun t ht hl=>?_,fun d hd=>h1 _ List.mem_cons_self d hd,ih (fun c hc=>h1 c (List.mem_cons_of_mem _ hc)) fun y v hv hy=>?_⟩
    · have hlen:t < ed.length:=by
        have:=h1 (ai,bj,n) List.mem_cons_self 0 h5
        obtain ⟨hh,_⟩:=List.getElem?_eq_some_iff.mp this
        simp only at hh;exact aO 0xf111201f2081a1101f rfl hl hh
      obtain ⟨v,hv⟩:∃ v,ed[t]?=some v:=⟨_,List.getElem?_eq_getElem hlen⟩
      rcases h2 t v hv ht with h | ⟨c,hc,c1,c2⟩
      · exact ⟨v,hv,h⟩
      · rcases List.mem_cons.mp hc with rfl | hc
        · simp only at c1;exact (aF 0xf119f010101f rfl hl c1).elim
        · have:=g.from2 c hc;exact (bF 0xf1119f231a0020101f rfl hl c1 this).elim
    · rcases h2 y v hv (by exact bF 0xf111300f321a0100f rfl h4 hy) with h | ⟨c,hc,c1,c2⟩
      · exact .inl h
      · rcases List.mem_cons.mp hc with rfl | hc
        · simp only at c2;exact (aO 0xf119f10a21210a0f rfl hy c2).elim
        · exact .inr ⟨c,hc,c1,c2⟩
theorem edit_main {m:Mt} {la lb:Nat} {ed:List Int} (hlen:ed.length=lb) (hb:∀ (y x:Nat),ed[y]?=some (x:Int)→x < la∧m x y=true) (hm:∀ (x y x' y':Nat),ed[y]?=some (x:Int)→ed[y']?=some (x':Int)→(x < x' ↔ y < y'))
    (dom:∀ x y n,0 < n→x+n≤la→y+n≤lb→Run m x y n→∃ c:T3,0 < c.2.2∧(∀ t,t < c.2.2→ed[c.2.1+t]?=some ((c.1+t:Nat):Int))∧Dom1 c (x,y,n)):aZ ed 0 (ro m (0,la,0,lb)):=by
  have hro:=ro_spec m (Nat.zero_le la) (Nat.zero_le lb)
  have hmem:=hro.kept (K:=fun x y=>ed[y]?=some (x:Int)) (la:=la) (lb:=lb) (fun x y h=>(hb y x h).1) hm (fun x y h=>(hb y x h).2) dom (Nat.le_refl _) (Nat.le_refl _) (fun c hc=>.inr (.inl ⟨Nat.zero_le _,by
    have:=(hb _ _ (hc.run (c.2.2 - 1) (by have:=hc.pos;exact aQ 0xf18f1108f011f0081f1800 rfl this))).1
    have:=hc.pos;exact aO 0xf1101210a0f230a1f1811 rfl (by assumption),Nat.zero_le _,by
    obtain ⟨hh,_⟩:=List.getElem?_eq_some_iff.mp (hc.run (c.2.2 - 1) (by have:=hc.pos;exact aQ 0xf18f1108f011f0081f1800 rfl this))
    have:=hc.pos;exact bF 0xf18101132a0f042a1102f1831 rfl hlen hh⟩))
  refine edit_of_mem hro.good' (fun c hc t ht=>((hmem c).mp hc).1.run t ht) fun y v hv _=>?_
  rcases Int.lt_or_le v 0 with h | h
  · exact .inl h
  · obtain ⟨x,rfl⟩:=Int.eq_ofNat_of_zero_le h
    obtain ⟨d,n',d1,d2,d3,hM⟩:=ext_max (K:=fun x y=>ed[y]?=some (x:Int)) (la:=la) (fun x y h=>(hb y x h).1) (x:=x) (y:=y) (n:=1) (by exact lqx [] [] 0xf118081ff rfl) (fun t ht=>by
      have:t=0:=by exact aQ 0xf1f11f0802f1801f rfl ht
      subst this;simpa using hv)
    refine .inr ⟨_,(hmem _).mpr ⟨hM,Nat.zero_le _,?_,Nat.zero_le _,?_⟩,by simp only;exact aF 0xf11020ff101 rfl,by simp only;exact aO 0xf110113a21f1018a0f021 rfl d3⟩
    · have:=(hb _ _ (hM.run (n' - 1) (by simp only;exact aF 0xf18f1108f121f1018a0f1810 rfl d3))).1
      simp only at this ⊢;exact bF 0xf110001324a0f354a1f1821101 rfl this
    · obtain ⟨hh,_⟩:=List.getElem?_eq_some_iff.mp (hM.run (n' - 1) (by simp only;exact aF 0xf18f1108f121f1018a0f1810 rfl d3))
      simp only at hh ⊢;exact lq5 0xf1810001145a0f065a1102f1841321 rfl hlen hh
structure Bas (M:Mt) (la lb:Nat) (K:Nat→Nat→Prop):Prop where
  bd:∀ i j,K i j→i < la∧j < lb∧M i j=true
  mono:MonoK K
  dom:∀ x y n,0 < n→x+n≤la→y+n≤lb→Run M x y n→∃ c:T3,0 < c.2.2∧KRun K c.1 c.2.1 c.2.2∧Dom1 c (x,y,n)
structure Vs (K:Nat→Nat→Prop) (P:Nat→Nat→Nat→Prop):Prop where
  sound:∀ x i j,P x i j→K i j
  onto:∀ i j,K i j→∃ x,P x i j
  mono:∀ x i j x' i' j',P x i j→P x' i' j'→(x < x' ↔ i < i')
  tight:∀ x i j,P x i j→K (i+1) (j+1)→P (x+1) (i+1) (j+1)
noncomputable def Sep (P:Nat→Nat→Nat→Prop):Prop:=∀ x i j i' j',P x i j→P (x+1) i' j'→i'=i+1∧j'=j+1
noncomputable def Cpt (P:Nat→Nat→Nat→Prop) (x i:Nat):Prop:=∀ x' i' j',P x' i' j'→(x' < x ↔ i' < i)∧(x < x' ↔ i < i')
noncomputable def CptJ (P:Nat→Nat→Nat→Prop) (y j:Nat):Prop:=∀ y' i' j',P y' i' j'→(y' < y ↔ j' < j)∧(y < y' ↔ j < j')
section
variable {M:Mt} {la lb:Nat} {K K':Nat→Nat→Prop} {P PX PY:Nat→Nat→Nat→Prop}
theorem Vs.twin (V:Vs K P) {i j n:Nat} (hn:0 < n) (h:KRun K i j n):∃ x,∀ t,t < n→P (x+t) (i+t) (j+t):=by
  obtain ⟨x,hx⟩:=V.onto i j (h 0 hn)
  refine ⟨x,fun t=>?_⟩
  induction t with
  | zero=>intro _;exact hx
  | succ t ih=>intro ht;exact V.tight _ _ _ (ih (by exact aF 0xf11101f1180a1f rfl ht)) (h (t+1) ht)
theorem Sep.run (S:Sep P) {x n:Nat} (hn:0 < n) (h:∀ t,t < n→∃ i j,P (x+t) i j):∃ i j,∀ t,t < n→P (x+t) (i+t) (j+t):=by
  obtain ⟨i,j,h0⟩:=h 0 hn
  refine ⟨i,j,fun t=>?_⟩
  induction t with
  | zero=>intro _;exact h0
  | succ t ih =>
    intro ht
    obtain ⟨i',j',h1⟩:=h (t+1) ht
    obtain ⟨rfl,rfl⟩:=S _ _ _ _ _ (ih (by exact aF 0xf11101f1180a1f rfl ht)) h1
    exact h1
theorem Vs.cpt (V:Vs K P) {x i j:Nat} (h:P x i j):Cpt P x i:=fun x' i' j' h'=>⟨V.mono _ _ _ _ _ _ h' h,V.mono _ _ _ _ _ _ h h'⟩
theorem Vs.cptJ (V:Vs K P) (hm:MonoK K) {x i j:Nat} (h:P x i j):CptJ P x j:=fun x' i' j' h' =>
  ⟨(V.mono _ _ _ _ _ _ h' h).trans (hm _ _ _ _ (V.sound _ _ _ h') (V.sound _ _ _ h)),(V.mono _ _ _ _ _ _ h h').trans (hm _ _ _ _ (V.sound _ _ _ h) (V.sound _ _ _ h'))⟩
theorem cpt_a (h:∀ x i j,P x i j→x=i) (x:Nat):Cpt P x x:=fun x' i' j' h'=>by rw [h _ _ _ h'];exact ⟨.rfl,.rfl⟩
theorem cpt_b (h:∀ x i j,P x i j→x=j) (x:Nat):CptJ P x x:=fun x' i' j' h'=>by rw [h _ _ _ h'];exact ⟨.rfl,.rfl⟩
theorem fwd (B:Bas M la lb K) (VX:Vs K PX) (VY:Vs K PY) (hK:∀ x y i j,PX x i j→PY y i j→K' x y) {x y i j n:Nat} (hn:0 < n) (hi:i+n≤la) (hj:j+n≤lb) (hr:Run M i j n)
    (cx:∀ t,t < n→Cpt PX (x+t) (i+t)) (cy:∀ t,t < n→CptJ PY (y+t) (j+t)):∃ c:T3,0 < c.2.2∧KRun K' c.1 c.2.1 c.2.2∧Dom1 c (x,y,n):=by
  obtain ⟨⟨ic,jc,nc⟩,h1,h2,h3,h4,h5⟩:=B.dom i j n hn hi hj hr
  simp only at h1 h2
  obtain ⟨xc,hx⟩:=VX.twin h1 h2
  obtain ⟨yc,hy⟩:=VY.twin h1 h2
  refine ⟨(xc,yc,nc),h1,fun t ht=>hK _ _ _ _ (hx t ht) (hy t ht),?_,?_,?_⟩
  · have a:=cx 0 hn _ _ _ (hx 0 h1)
    have b:=cy 0 hn _ _ _ (hy 0 h1)
    unfold Ge3 at h3 ⊢
    simp only [Nat.add_zero] at *
    exact lqx [_,_,_,_,_,_,_,_,_,_] [] 0xf10001f8001f100001f10000001ffff1001f101ff1001ff11f100001f8001f1000001fff10001f101ff1001ff11f1008f108f11ff17270076270761810271018f45127171a2316071a0761321a5403227321810271018f rfl h3 a.1.mpr a.2.mp b.2.mp
  · intro hb
    apply h4
    unfold Bef at hb ⊢
    have a:=(cx 0 hn _ _ _ (hx (nc - 1) (by exact aQ 0xf18f1108f011f0081f1800 rfl h1))).1
    have b:=(cy 0 hn _ _ _ (hy (nc - 1) (by exact aQ 0xf18f1108f011f0081f1800 rfl h1))).1
    simp only [Nat.add_zero] at *
    exact lqx [_,_,_,_,_,_,_,_,_] [] 0xf1101f1000801ff10081ff11001f10100801ff110081fff111f10081ff1101f110081fff17007a0605a07f172707a14273a1a6275a12271a1a403a0201a00081f1800 rfl h1 hb.1 hb.2 a.mp b.mp
  · intro hb
    apply h5
    unfold Bef at hb ⊢
    have a:=(cx (n - 1) (by exact aQ 0xf18f1108f011f0081f1800 rfl hn) _ _ _ (hx 0 h1)).2
    have b:=(cy (n - 1) (by exact aQ 0xf18f1108f011f0081f1800 rfl hn) _ _ _ (hy 0 h1)).2
    simp only [Nat.add_zero] at *
    exact lqx [_,_,_,_,_,_,_,_,_] [] 0xf1101f1000801ff10081ff11001f10100801ff110081fff111f10081ff1101f110081fff17007a0605a07f172707a14273a1a6275a12271a1a403a0201a00081f1800 rfl hn hb.1 hb.2 a.mp b.mp
theorem bwd (B:Bas M la lb K) (VX:Vs K PX) (hK:∀ x i j,PX x i j→K' x i) {x y i0 j0 n:Nat} (hn:0 < n) (hy:y+n≤la) (hx:∀ t,t < n→PX (x+t) (i0+t) (j0+t)) (hr:Run M y j0 n):∃ c:T3,0 < c.2.2∧KRun K' c.1 c.2.1 c.2.2∧Dom1 c (x,y,n):=by
  have hj:j0+n≤lb:=by
    have:=(B.bd _ _ (VX.sound _ _ _ (hx (n - 1) (by exact aQ 0xf18f1108f011f0081f1800 rfl hn)))).2.1;exact aO 0xf1101210a0f230a1f1811 rfl this
  obtain ⟨⟨ic,jc,nc⟩,h1,h2,h3,h4,h5⟩:=B.dom y j0 n hn hy hj hr
  simp only at h1 h2
  obtain ⟨xc,hxc⟩:=VX.twin h1 h2
  have conf:¬ Bef (xc,ic,nc) (x,y,n)∧¬ Bef (x,y,n) (xc,ic,nc):=by
    constructor
    · intro hb
      apply h4
      unfold Bef at hb ⊢
      have b:=(VX.cptJ B.mono (hx 0 hn) _ _ _ (hxc (nc - 1) (by exact aQ 0xf18f1108f011f0081f1800 rfl h1))).1
      simp only [Nat.add_zero] at *
      exact lq7 0xf111f10081ff1101f110081fff1001f605a0403a07f6075a12071a1a403a0201a00081f1800 rfl h1 hb.1 hb.2 b.mp
    · intro hb
      apply h5
      unfold Bef at hb ⊢
      have b:=(VX.cptJ B.mono (hx (n - 1) (by exact aQ 0xf18f1108f011f0081f1800 rfl hn)) _ _ _ (hxc 0 h1)).2
      simp only [Nat.add_zero] at *
      exact lq7 0xf111f10081ff1101f110081fff1001f605a0403a07f6075a12071a1a403a0201a00081f1800 rfl hn hb.1 hb.2 b.mp
  by_cases hbig:n < nc
  · exact ⟨(xc,ic,nc),h1,fun t ht=>hK _ _ _ (hxc t ht),.inl hbig,conf.1,conf.2⟩
  · by_cases hy0:i0≤y
    · refine ⟨(x,i0,n),hn,fun t ht=>hK _ _ _ (hx t ht),.inr ⟨rfl,.inr ⟨rfl,hy0⟩⟩,?_,?_⟩
      · rintro ⟨h,_⟩;simp only at h;exact aF 0xf119f101a00081f rfl hn h
      · rintro ⟨h,_⟩;simp only at h;exact aF 0xf119f101a00081f rfl hn h
    · refine ⟨(xc,ic,nc),h1,fun t ht=>hK _ _ _ (hxc t ht),?_,conf.1,conf.2⟩
      have a:=VX.mono _ _ _ _ _ _ (hxc 0 h1) (hx 0 hn)
      unfold Ge3 at h3 ⊢
      simp only [Nat.add_zero] at *
      exact lqx [_,_,_,_,_,_,_,_,_] [] 0xf10080f1010f1001ff11f100001f10000801ff10001f1000101ff1001ff11f1008f108f11ff14017072717071832273218f17071041a65014271418322732181006f rfl hy0 h3 a.mpr
end
theorem pw_cmp {α:Type} {R:α→α→Prop}:∀ {l:List α},l.Pairwise R→∀ a∈l,∀ b∈l,a=b∨R a b∨R b a
  | [],_,a,ha,_,_=>by cases ha
  | x :: l,h,a,ha,b,hb=>by
    rw [List.pairwise_cons] at h
    rcases List.mem_cons.mp ha with e1 | ha'
    · rcases List.mem_cons.mp hb with e2 | hb'
      · exact .inl (e1.trans e2.symm)
      · exact .inr (.inl (e1 ▸ h.1 b hb'))
    · rcases List.mem_cons.mp hb with e2 | hb'
      · exact .inr (.inr (e2 ▸ h.1 a ha'))
      · exact pw_cmp h.2 a ha' b hb'
noncomputable def GP (c d:T3):Prop:=c.1+c.2.2≤d.1∧c.2.1+c.2.2≤d.2.1∧¬ (c.1+c.2.2=d.1∧c.2.1+c.2.2=d.2.1)
theorem Good.all {la lb:Nat} {b:Bool} {i j:Nat} {S:List T3} (g:Good la lb b i j S):∀ c∈S,0 < c.2.2∧i≤c.1∧j≤c.2.1∧(b=false→¬ (i=c.1∧j=c.2.1))∧c.1+c.2.2≤la∧c.2.1+c.2.2≤lb:=by
  induction g with
  | nil _ _=>intro c hc;cases hc
  | cons h1 h2 h3 h4 h5 ih =>
    intro c hc
    rcases List.mem_cons.mp hc with rfl | hc
    · have:=h5.le;exact ⟨h3,h1,h2,h4,this.1,this.2⟩
    · obtain ⟨a1,a2,a3,a4,a5,a6⟩:=ih c hc
      exact ⟨a1,by exact bF 0xf111300f321a0100f rfl h1 a2,by exact bF 0xf111300f321a0100f rfl h2 a3,fun _=>by exact lq6 0xf1111030254276f321a02081100f rfl h2 h3 a3,a5,a6⟩
theorem Good.pw {la lb:Nat} {b:Bool} {i j:Nat} {S:List T3} (g:Good la lb b i j S):S.Pairwise GP:=by
  induction g with
  | nil _ _=>exact .nil
  | cons h1 h2 h3 h4 h5 ih =>
    refine .cons (fun c hc=>?_) ih
    obtain ⟨a1,a2,a3,a4,a5,a6⟩:=h5.all c hc
    exact ⟨a2,a3,a4 rfl⟩
noncomputable def KS (S:List T3) (i j:Nat):Prop:=∃ c∈S,∃ t,t < c.2.2∧i=c.1+t∧j=c.2.1+t
theorem KS.mono {S:List T3} (h:S.Pairwise GP):MonoK (KS S):=by
  rintro x y x' y' ⟨c,hc,t,ht,rfl,rfl⟩ ⟨d,hd,u,hu,rfl,rfl⟩
  rcases pw_cmp h c hc d hd with rfl | ⟨a1,a2,_⟩ | ⟨a1,a2,_⟩ <;> lia
theorem RO.bas {m:Mt} {la lb:Nat} {S:List T3} (h:RO m 0 la 0 lb S):Bas m la lb (KS S) where
  bd:=by
    rintro i j ⟨c,hc,t,ht,rfl,rfl⟩
    obtain ⟨a1,⟨a2,a3,a4,a5⟩,a6⟩:=h.mem c hc
    exact ⟨by exact bF 0xf111302a1f312a0101f rfl ht a3,by exact bF 0xf111302a1f312a0101f rfl ht a5,a6 t ht⟩
  mono:=KS.mono h.good'.pw
  dom:=fun x y n hn hx hy hr=>by
    obtain ⟨c,hc,hd⟩:=h.dom x y n hn ⟨Nat.zero_le _,hx,Nat.zero_le _,hy⟩ hr
    exact ⟨c,(h.mem c hc).1,fun t ht=>⟨c,hc,t,ht,rfl,rfl⟩,hd⟩
noncomputable abbrev Tg:=Option Nat×Option Nat
noncomputable def Un (c:Tg):Prop:=∀ i j,c ≠ (some i,some j)
noncomputable def eqT (a b n:Nat):List Tg:=(List.range n).map fun t=>(some (a+t),some (b+t))
theorem eqT_length (a b n:Nat):(eqT a b n).length=n:=by simp [eqT]
theorem eqT_get {a b n t:Nat} (h:t < n):(eqT a b n)[t]?=some (some (a+t),some (b+t)):=by simp [eqT,h]
inductive CT:Bool→List T3→List Tg→Prop
  | nil {b:Bool} {G:List Tg}:(∀ c∈G,Un c)→CT b [] G
  | cons {b:Bool} {G T:List Tg} {ai bj n:Nat} {r:List T3}:(∀ c∈G,Un c)→(b=false→G ≠ [])→CT false r T→CT b ((ai,bj,n) :: r) (G++(eqT ai bj n++T))
noncomputable def tl3 (c:W4):T3:=(c.2.1,c.2.2.1,c.2.2.2)
structure PosAt (b:Bool) (S:List T3) (T:List Tg) (L:List W4):Prop where
  map:L.map tl3=S
  from':∀ c∈L,b=false→0 < c.1
  gap:L.Pairwise fun c d=>c.1+c.2.2.2 < d.1
  at':∀ x i j,T[x]?=some (some i,some j) ↔ ∃ c∈L,∃ t,t < c.2.2.2∧x=c.1+t∧i=c.2.1+t∧j=c.2.2.1+t
theorem CT.pos {b:Bool} {S:List T3} {T:List Tg} (h:CT b S T):∃ L,PosAt b S T L:=by
  induction h with
  | nil hG =>
    refine ⟨[],rfl,fun c hc=>(by cases hc),.nil,fun x i j=>⟨fun e=>?_,fun ⟨c,hc,_⟩=>by cases hc⟩⟩
    exact absurd rfl (hG _ (List.mem_of_getElem? e) i j)
  | @cons b G T ai bj n r hG hne hT ih =>
    obtain ⟨L,q⟩:=ih
    refine ⟨(G.length,ai,bj,n) :: L.map fun c=>(G.length+n+c.1,c.2.1,c.2.2.1,c.2.2.2),?_,?_,?_,?_⟩
    · rw [List.map_cons,List.map_map,← q.map];rfl
    · intro c hc hb
      have h0:0 < G.length:=List.length_pos_iff.mpr (hne hb)
      rcases List.mem_cons.mp hc with rfl | hc
      · exact h0
      · obtain ⟨d,hd,rfl⟩:=List.mem_map.mp hc
        show 0 < G.length+n+d.1;exact aO 0xf11210aa081f0081f rfl h0
    · refine .cons (fun c hc=>?_) ?_
      · obtain ⟨d,hd,rfl⟩:=List.mem_map.mp hc
        have:=q.from' d hd rfl
        show G.length+n < G.length+n+d.1;exact aO 0xf11021aa21a1f0081f rfl this
      · rw [List.pairwise_map]
        exact q.gap.imp fun {c d} h=>by show G.length+n+c.1+c.2.2.2 < G.length+n+d.1;exact lq5 0xf11243aa1043aaa1f210a1f rfl h
    · intro x i j
      rcases Nat.lt_or_ge x G.length with hx | hx
      · rw [List.getElem?_append_left hx]
        constructor
        · intro e;exact absurd rfl (hG _ (List.mem_of_getElem? e) i j)
        · rintro ⟨c,hc,t,ht,e1,e2,e3⟩
          rcases List.mem_cons.mp hc with rfl | hc
          · simp only at e1;exact (aO 0xf119f21a02101f rfl hx e1).elim
          · obtain ⟨d,hd,rfl⟩:=List.mem_map.mp hc
            simp only at e1;exact (lq5 0xf119f4321aaa02101f rfl hx e1).elim
      · rw [List.getElem?_append_right hx]
        rcases Nat.lt_or_ge (x - G.length) n with hx' | hx'
        · rw [List.getElem?_append_left (by rw [eqT_length];exact hx'),eqT_get hx']
          constructor
          · intro e
            simp only [Option.some.injEq,Prod.mk.injEq] at e
            exact ⟨_,List.mem_cons_self,x - G.length,hx',by simp only;exact aF 0xf18f1108ff11f110ff20a12f100f010 rfl hx,by simp only;exact bF 0xf8001f1001f40a32f340a2f211 rfl e.1,by simp only;exact bF 0xf8001f1001f40a32f340a2f211 rfl e.2⟩
          · rintro ⟨c,hc,t,ht,e1,e2,e3⟩
            rcases List.mem_cons.mp hc with rfl | hc
            · simp only at e1 e2 e3
              rw [e2,e3]
              simp only [Option.some.injEq,Prod.mk.injEq];exact lq5 0xf111f1110ff818f108ff111f1110ff818f108ff24a54a223a53a27f21a02f100 rfl e1
            · obtain ⟨d,hd,rfl⟩:=List.mem_map.mp hc
              simp only at e1;exact (lq5 0xf11109f4321aaa02251f101 rfl hx' e1).elim
        · rw [List.getElem?_append_right (by rw [eqT_length];exact hx'),eqT_length,q.at']
          constructor
          · rintro ⟨c,hc,t,ht,e1,e2,e3⟩
            exact ⟨_,List.mem_cons_of_mem _ (List.mem_map.mpr ⟨c,hc,rfl⟩),t,ht,by simp only;exact lq5 0xf100188f1101808ff1011088f11110808fff800111f1110ff110ff4320aaa12f43a62520100f250010 rfl hx hx' e1,e2,e3⟩
          · rintro ⟨c,hc,t,ht,e1,e2,e3⟩
            rcases List.mem_cons.mp hc with rfl | hc
            · simp only at e1 ht;exact (bF 0xf8118f1108f9f32a12031400f210 rfl hx' ht e1).elim
            · obtain ⟨d,hd,rfl⟩:=List.mem_map.mp hc
              exact ⟨d,hd,t,ht,by simp only at e1;exact lq5 0xf1111f11110ff1110ff8188f1008ff1088f10008fff43a62f4321aaa02f250100 rfl e1,e2,e3⟩
noncomputable def PT (T:List Tg) (x i j:Nat):Prop:=T[x]?=some (some i,some j)
theorem PosAt.pw {b:Bool} {S:List T3} {T:List Tg} {L:List W4} (q:PosAt b S T L) (h:S.Pairwise GP):L.Pairwise fun c d=>c.1+c.2.2.2 < d.1∧GP (tl3 c) (tl3 d):=by
  rw [← q.map,List.pairwise_map] at h
  exact q.gap.and h
theorem CT.vs {b:Bool} {S:List T3} {T:List Tg} (hS:S.Pairwise GP) (h:CT b S T):Vs (KS S) (PT T)∧Sep (PT T):=by
  obtain ⟨L,q⟩:=h.pos
  have pw:=q.pw hS
  have mem:∀ c,c∈L→tl3 c∈S:=fun c hc=>by rw [← q.map];exact List.mem_map.mpr ⟨c,hc,rfl⟩
  refine ⟨⟨fun x i j hp=>?_,?_,fun x i j x' i' j' hp hp'=>?_,fun x i j hp hk=>?_⟩,fun x i j i' j' hp hp'=>?_⟩
  · obtain ⟨c,hc,t,ht,rfl,rfl,rfl⟩:=(q.at' _ _ _).mp hp
    exact ⟨_,mem c hc,t,ht,rfl,rfl⟩
  · rintro i j ⟨c,hc,t,ht,rfl,rfl⟩
    rw [← q.map] at hc
    obtain ⟨d,hd,rfl⟩:=List.mem_map.mp hc
    exact ⟨d.1+t,(q.at' _ _ _).mpr ⟨d,hd,t,ht,rfl,rfl,rfl⟩⟩
  · obtain ⟨c,hc,t,ht,rfl,rfl,rfl⟩:=(q.at' _ _ _).mp hp
    obtain ⟨d,hd,u,hu,rfl,rfl,rfl⟩:=(q.at' _ _ _).mp hp'
    rcases pw_cmp pw c hc d hd with rfl | ⟨a0,a1,a2,_⟩ | ⟨a0,a1,a2,_⟩
    · exact ⟨bF 0xf1123a13a120a10a1aff rfl,bF 0xf1123a13a120a10a1aff rfl⟩
    · simp only [tl3] at a1 a2;exact ⟨lq7 0xf111063a02a165a04a1af312a0101f rfl ht a1,lq7 0xf111063a02a165a04a1af312a1101f rfl ht a0⟩
    · simp only [tl3] at a1 a2;exact ⟨lq7 0xf110106a45a102a43a1af312a1101f rfl hu a0,lq7 0xf110106a45a102a43a1af312a0101f rfl hu a1⟩
  · obtain ⟨c,hc,t,ht,rfl,rfl,rfl⟩:=(q.at' _ _ _).mp hp
    obtain ⟨e,he,u,hu,e1,e2⟩:=hk
    rw [← q.map] at he
    obtain ⟨d,hd,rfl⟩:=List.mem_map.mp he
    simp only [tl3] at e1 e2 hu
    rcases pw_cmp pw c hc d hd with rfl | ⟨a0,a1,a2,a3⟩ | ⟨a0,a1,a2,a3⟩
    · exact (q.at' _ _ _).mpr ⟨c,hc,u,hu,by exact bF 0xf11f81f23a1813aa2f20a1810aa2f rfl e1,by exact aO 0xf11f81f20a1810aa2f20a1810aa2f rfl e1,by exact bF 0xf11f81f23a1813aa2f20a1810aa2f rfl e1⟩
    · simp only [tl3] at a1 a2 a3;exact (lq7 0xf1011f10001f111f11801f9f615a2312a276615a046a1805aa243a1802aa2101f rfl ht e1 e2 a2 a3).elim
    · simp only [tl3] at a1 a2 a3;exact (lq5 0xf1819f214a004a1832aa2101f rfl hu e1 a1).elim
  · obtain ⟨c,hc,t,ht,rfl,rfl,rfl⟩:=(q.at' _ _ _).mp hp
    obtain ⟨d,hd,u,hu,e1,rfl,rfl⟩:=(q.at' _ _ _).mp hp'
    rcases pw_cmp pw c hc d hd with rfl | ⟨a0,_⟩ | ⟨a0,_⟩ <;> lia
noncomputable def PA (K:Nat→Nat→Prop) (x i j:Nat):Prop:=x=i∧K i j
noncomputable def PB (K:Nat→Nat→Prop) (y i j:Nat):Prop:=y=j∧K i j
theorem PA.vs {K:Nat→Nat→Prop}:Vs K (PA K):=⟨fun x i j h=>h.2,fun i j h=>⟨i,rfl,h⟩,fun x i j x' i' j' h h'=>by rw [h.1,h'.1],fun x i j h h'=>⟨by rw [h.1],h'⟩⟩
theorem PB.vs {K:Nat→Nat→Prop} (hm:MonoK K):Vs K (PB K):=⟨fun x i j h=>h.2,fun i j h=>⟨j,rfl,h⟩,fun x i j x' i' j' h h'=>by rw [h.1,h'.1];exact (hm _ _ _ _ h.2 h'.2).symm,fun x i j h h'=>⟨by rw [h.1],h'⟩⟩
noncomputable def Kn (nx ny:List Int) (x y:Nat):Prop:=∃ v,nx[x]?=some v∧ny[y]?=some v
noncomputable def idxs (nx ny:List Int):List Int:=ny.map fun v=>if v∈nx then ((nx.idxOf v:Nat):Int) else -1
theorem idxs_iff {nx ny:List Int} (hm:MonoK (Kn nx ny)) {x y:Nat}:(idxs nx ny)[y]?=some (x:Int) ↔ Kn nx ny x y:=by
  unfold idxs
  rw [List.getElem?_map]
  cases e:ny[y]? with
  | none =>
    constructor
    · intro h;cases h
    · rintro ⟨v,_,h⟩;rw [e] at h;cases h
  | some v =>
    simp only [Option.map_some,Option.some.injEq]
    constructor
    · intro h
      split at h
      · rename_i hv
        have h':nx.idxOf v=x:=by exact aF 0xf11f81f102f1c0c5f rfl h
        refine ⟨v,?_,e⟩
        rw [← h',List.getElem?_eq_getElem (List.idxOf_lt_length_of_mem hv),List.getElem_idxOf]
      · exact (aQ 0xf19f0c18e5f rfl h).elim
    · rintro ⟨w,h1,h2⟩
      rw [e] at h2;cases h2
      have hv:v∈nx:=List.mem_of_getElem? h1
      rw [if_pos hv]
      have h3:Kn nx ny (nx.idxOf v) y:=⟨v,by rw [List.getElem?_eq_getElem (List.idxOf_lt_length_of_mem hv),List.getElem_idxOf],e⟩
      have h4:Kn nx ny x y:=⟨v,h1,e⟩
      have:=(hm.eq h3 h4).mpr rfl
      exact aF 0xf11f81f1c0c5f102f rfl this
theorem mm_some {as bs:List Int} {x y:Nat}:mm as bs x y=true ↔ ∃ v,as[x]?=some v∧bs[y]?=some v:=by
  unfold mm
  cases h1:as[x]? with
  | none=>simp
  | some u =>
    cases h2:bs[y]? with
    | none=>simp
    | some w =>
      simp only [Option.some.injEq]
      constructor
      · intro h;exact ⟨u,rfl,by simpa using (of_decide_eq_true (by simpa using h):u=w).symm⟩
      · rintro ⟨v,rfl,rfl⟩;simp
theorem ask {X Y nx ny:List Int} (lx:X.length=nx.length) (ly:Y.length=ny.length) (hK:∀ x y,Kn nx ny x y→mm X Y x y=true) (hm:MonoK (Kn nx ny))
    (dom:∀ x y n,0 < n→Run (mm X Y) x y n→∃ c:T3,0 < c.2.2∧KRun (Kn nx ny) c.1 c.2.1 c.2.2∧Dom1 c (x,y,n)):aZ (idxs nx ny) 0 (ro (mm X Y) (bO X Y)):=by
  unfold bO
  refine edit_main (by unfold idxs;rw [List.length_map,ly]) (fun y x h=>?_) (fun x y x' y' h h'=>hm _ _ _ _ ((idxs_iff hm).mp h) ((idxs_iff hm).mp h')) fun x y n hn hx hy hr=>?_
  · have h':=(idxs_iff hm).mp h
    refine ⟨?_,hK _ _ h'⟩
    obtain ⟨v,h1,_⟩:=h'
    obtain ⟨h2,_⟩:=List.getElem?_eq_some_iff.mp h1
    exact aO 0xf111021f121102f rfl lx h2
  · obtain ⟨c,h1,h2,h3⟩:=dom x y n hn hr
    exact ⟨c,h1,fun t ht=>(idxs_iff hm).mpr (h2 t ht),h3⟩
section
variable {as bs:List Int} {S:List T3} {K K':Nat→Nat→Prop} {PX PY:Nat→Nat→Nat→Prop} {X Y:List Int} {x y n:Nat}
noncomputable def ReadA (as:List Int) (P:Nat→Nat→Nat→Prop) (Z:List Int) (x n:Nat):Prop:=∃ i,∀ t,t < n→(∀ v,Z[x+t]?=some v→as[i+t]?=some v)∧Cpt P (x+t) (i+t)
noncomputable def ReadB (bs:List Int) (P:Nat→Nat→Nat→Prop) (Z:List Int) (y n:Nat):Prop:=∃ j,∀ t,t < n→(∀ v,Z[y+t]?=some v→bs[j+t]?=some v)∧CptJ P (y+t) (j+t)
theorem dom_fwd (B:Bas (mm as bs) as.length bs.length K) (VX:Vs K PX) (VY:Vs K PY) (hK:∀ x y i j,PX x i j→PY y i j→K' x y) (hn:0 < n) (hr:Run (mm X Y) x y n) (hx:ReadA as PX X x n) (hy:ReadB bs PY Y y n):∃ c:T3,0 < c.2.2∧KRun K' c.1 c.2.1 c.2.2∧Dom1 c (x,y,n):=by
  obtain ⟨i,hi⟩:=hx
  obtain ⟨j,hj⟩:=hy
  have hM:Run (mm as bs) i j n:=fun t ht=>by
    obtain ⟨v,e1,e2⟩:=mm_some.mp (hr t ht)
    exact mm_some.mpr ⟨v,(hi t ht).1 v e1,(hj t ht).1 v e2⟩
  obtain ⟨v,e1,e2⟩:=mm_some.mp (hM (n - 1) (by exact aQ 0xf18f1108f011f0081f1800 rfl hn))
  obtain ⟨l1,_⟩:=List.getElem?_eq_some_iff.mp e1
  obtain ⟨l2,_⟩:=List.getElem?_eq_some_iff.mp e2
  exact fwd B VX VY hK hn (by exact aO 0xf1101210a0f230a1f1811 rfl l1) (by exact aO 0xf1101210a0f230a1f1811 rfl l2) hM (fun t ht=>(hi t ht).2) fun t ht=>(hj t ht).2
theorem readA_of (V:Vs K PX) (la:∀ x i j,PX x i j→∀ v,X[x]?=some v→as[i]?=some v) {i j:Nat} (h:∀ t,t < n→PX (x+t) (i+t) (j+t)):ReadA as PX X x n:=⟨i,fun t ht=>⟨la _ _ _ (h t ht),V.cpt (h t ht)⟩⟩
theorem readB_of (hm:MonoK K) (V:Vs K PX) (lb:∀ x i j,PX x i j→∀ v,X[x]?=some v→bs[j]?=some v) {i j:Nat} (h:∀ t,t < n→PX (x+t) (i+t) (j+t)):ReadB bs PX X x n:=⟨j,fun t ht=>⟨lb _ _ _ (h t ht),V.cptJ hm (h t ht)⟩⟩
theorem run_diag (hm:MonoK K') (hl:∀ x y,mm X Y x y=true→(∃ y',K' x y')∧∃ x',K' x' y) (hr:Run (mm X Y) x y n) {t0:Nat} (h0:t0 < n) (hk:K' (x+t0) (y+t0)):KRun K' x y n:=by
  have up:∀ d,t0+d < n→K' (x+(t0+d)) (y+(t0+d)):=fun d=>by
    induction d with
    | zero=>intro _;exact hk
    | succ d ih =>
      intro h
      have k1:=ih (by exact aO 0xf11210a1f2181a0a1f rfl h)
      obtain ⟨⟨y',h1⟩,⟨x',h2⟩⟩:=hl _ _ (hr (t0+(d+1)) h)
      have a1:=hm _ _ _ _ k1 h1
      have a2:=hm _ _ _ _ k1 h2
      have a3:=hm _ _ _ _ h1 h2
      have a4:=hm _ _ _ _ h2 h1
      have:x'=x+(t0+(d+1)):=by exact lq6 0xf11f1ff11f1001ff1ff1ff182a1a3a42f182a1a0a514182a1a3a1a521a0a1182a1a3a21a3a1a421a3a1182a1a0a21a0a1af rfl a2.mpr a1.mp a3.mp
      subst this;exact h2
  have down:∀ d,d≤t0→K' (x+(t0 - d)) (y+(t0 - d)):=fun d=>by
    induction d with
    | zero=>intro _;exact hk
    | succ d ih =>
      intro h
      have k1:=ih (by exact aF 0xf11100f1180a0f rfl h)
      obtain ⟨⟨y',h1⟩,⟨x',h2⟩⟩:=hl _ _ (hr (t0 - (d+1)) (by exact aO 0xf1011131f101f182a01 rfl h0))
      have a1:=hm _ _ _ _ h1 k1
      have a2:=hm _ _ _ _ h2 k1
      have a3:=hm _ _ _ _ h1 h2
      have a4:=hm _ _ _ _ h2 h1
      have:x'=x+(t0 - (d+1)):=by exact lq6 0xf18011f100001ff8101ff811ff810ff108011f1000001ff1008101ff100811ff100010fff1181f811ff810ff11081f100811ff100010fff64a32f562a164a31a072a51074a64a1a074a31072a62a1a1180a0f010180a10 rfl h a2.mpr a1.mp a4.mp
      subst this;exact h2
  intro t ht
  rcases Nat.lt_or_ge t t0 with h | h
  · have:=down (t0 - t) (by exact aF 0xf11020ff101 rfl)
    rwa [show t0 - (t0 - t)=t by exact aF 0xf181f1810ff1010ff118f1008ff1010ff032f101f210010 rfl h] at this
  · have:=up (t - t0) (by exact aO 0xf1018f1108f130a1f121101f020 rfl h0 ht)
    rwa [show t0+(t - t0)=t by exact aF 0xf11f110ff18f1108ff120a2f100f010 rfl h] at this
theorem dom_self (hn:0 < n) (h:KRun K' x y n):∃ c:T3,0 < c.2.2∧KRun K' c.1 c.2.1 c.2.2∧Dom1 c (x,y,n):=by
  refine ⟨(x,y,n),hn,h,.inr ⟨rfl,.inr ⟨rfl,Nat.le_refl _⟩⟩,?_,?_⟩
  · rintro ⟨h,_⟩;simp only at h;exact aF 0xf119f101a00081f rfl hn h
  · rintro ⟨h,_⟩;simp only at h;exact aF 0xf119f101a00081f rfl hn h
end
section
variable {as bs:List Int} {K:Nat→Nat→Prop} {P PX PY:Nat→Nat→Nat→Prop} {N Z nx ny X Y:List Int}
structure Side (as:List Int) (K:Nat→Nat→Prop) (N Z:List Int) (P:Nat→Nat→Nat→Prop):Prop where
  len:Z.length=N.length
  vs:Vs K P
  nm:∀ x i j,P x i j→N[x]?=some (i:Int)
  lt:∀ x i j,P x i j→Z[x]?=as[i]?
theorem Side.kn (SX:Side as K nx X PX) (SY:Side as K ny Y PY) {x y i j:Nat} (h:PX x i j) (h':PY y i j):Kn nx ny x y:=⟨_,SX.nm _ _ _ h,SY.nm _ _ _ h'⟩
theorem Bas.ge (B:Bas (mm as bs) as.length bs.length K) {i j:Nat} (h:K i j):∃ v,as[i]?=some v∧bs[j]?=some v:=mm_some.mp (B.bd _ _ h).2.2
theorem ask_sides (B:Bas (mm as bs) as.length bs.length K) (SX:Side as K nx X PX) (SY:Side as K ny Y PY) (hn:∀ x y,Kn nx ny x y→∃ i j,PX x i j∧PY y i j)
    (dom:∀ x y n,0 < n→Run (mm X Y) x y n→∃ c:T3,0 < c.2.2∧KRun (Kn nx ny) c.1 c.2.1 c.2.2∧Dom1 c (x,y,n)):aZ (idxs nx ny) 0 (ro (mm X Y) (bO X Y)):=by
  refine ask SX.len SY.len (fun x y h=>?_) (fun x y x' y' h h'=>?_) dom
  · obtain ⟨i,j,h1,h2⟩:=hn x y h
    obtain ⟨v,e1,e2⟩:=B.ge (SX.vs.sound _ _ _ h1)
    exact mm_some.mpr ⟨v,by rw [SX.lt _ _ _ h1,e1],by rw [SY.lt _ _ _ h2,e1]⟩
  · obtain ⟨i,j,h1,h2⟩:=hn x y h
    obtain ⟨i',j',h3,h4⟩:=hn x' y' h'
    rw [SX.vs.mono _ _ _ _ _ _ h1 h3,SY.vs.mono _ _ _ _ _ _ h2 h4]
structure CSide (as:List Int) (K:Nat→Nat→Prop) (N Z:List Int) (P:Nat→Nat→Nat→Prop):Prop extends Side as K N Z P where
  sep:Sep P
  small:∀ x v,Z[x]?=some v→v < 50→∃ i j,P x i j
theorem CSide.run (C:CSide as K N Z P) {x n:Nat} (hn:0 < n) (h:∀ t,t < n→∃ v,Z[x+t]?=some v∧v < 50):∃ i j,∀ t,t < n→P (x+t) (i+t) (j+t):=C.sep.run hn fun t ht=>by
  obtain ⟨v,h1,h2⟩:=h t ht
  exact C.small _ v h1 h2
theorem Side.isA (C:Side as K N Z P) {x i j:Nat} (h:P x i j) (v:Int) (e:Z[x]?=some v):as[i]?=some v:=by rw [← C.lt _ _ _ h];exact e
theorem Side.isB (B:Bas (mm as bs) as.length bs.length K) (C:Side as K N Z P) {x i j:Nat} (h:P x i j) (v:Int) (e:Z[x]?=some v):bs[j]?=some v:=by
  obtain ⟨w,e1,e2⟩:=B.ge (C.vs.sound _ _ _ h)
  have:=C.isA h v e
  rw [e1] at this;rw [e2];exact this
theorem CSide.readA (C:CSide as K N Z P) {x n:Nat} (hn:0 < n) (h:∀ t,t < n→∃ v,Z[x+t]?=some v∧v < 50):ReadA as P Z x n:=by
  obtain ⟨i,j,hp⟩:=C.run hn h
  exact readA_of C.vs (fun x i j h v e=>C.isA h v e) hp
theorem CSide.readB (B:Bas (mm as bs) as.length bs.length K) (C:CSide as K N Z P) {x n:Nat} (hn:0 < n) (h:∀ t,t < n→∃ v,Z[x+t]?=some v∧v < 50):ReadB bs P Z x n:=by
  obtain ⟨i,j,hp⟩:=C.run hn h
  exact readB_of B.mono C.vs (fun x i j h v e=>C.isB B h v e) hp
theorem readA_a {x n:Nat} (hZ:∀ (x:Nat) (v:Int),Z[x]?=some v→v < 50→as[x]?=some v) (h:∀ t,t < n→∃ v,Z[x+t]?=some v∧v < 50):ReadA as (PA K) Z x n:=⟨x,fun t ht=>⟨fun v e=>by
  obtain ⟨w,h1,h2⟩:=h t ht
  rw [e] at h1;cases h1
  exact hZ _ v e h2,cpt_a (fun x i j h=>h.1) _⟩⟩
theorem readB_b {x n:Nat} (hZ:∀ (x:Nat) (v:Int),Z[x]?=some v→v < 50→bs[x]?=some v) (h:∀ t,t < n→∃ v,Z[x+t]?=some v∧v < 50):ReadB bs (PB K) Z x n:=⟨x,fun t ht=>⟨fun v e=>by
  obtain ⟨w,h1,h2⟩:=h t ht
  rw [e] at h1;cases h1
  exact hZ _ v e h2,cpt_b (fun x i j h=>h.1) _⟩⟩
theorem run_l {x y n:Nat} (hr:Run (mm X Y) x y n) (h:∀ (x y:Nat) (v:Int),x < X.length→X[x]?=some v→Y[y]?=some v→v < 50):(∀ t,t < n→∃ v,X[x+t]?=some v∧v < 50)∧∀ t,t < n→∃ v,Y[y+t]?=some v∧v < 50:=by
  constructor <;> intro t ht
  · obtain ⟨v,e1,e2⟩:=mm_some.mp (hr t ht)
    obtain ⟨l1,_⟩:=List.getElem?_eq_some_iff.mp e1
    exact ⟨v,e1,h _ _ v l1 e1 e2⟩
  · obtain ⟨v,e1,e2⟩:=mm_some.mp (hr t ht)
    obtain ⟨l1,_⟩:=List.getElem?_eq_some_iff.mp e1
    exact ⟨v,e2,h _ _ v l1 e1 e2⟩
theorem dom_bwd (B:Bas (mm as bs) as.length bs.length K) (CX:CSide as K nx X PX) (SY:Side as K ny Y (PA K)) (hY:∀ (x:Nat) (v:Int),Y[x]?=some v→v < 50→as[x]?=some v) {x y n:Nat} (hn:0 < n) (hr:Run (mm X Y) x y n)
    (h1:∀ t,t < n→∃ v,X[x+t]?=some v∧v < 50):∃ c:T3,0 < c.2.2∧KRun (Kn nx ny) c.1 c.2.1 c.2.2∧Dom1 c (x,y,n):=by
  obtain ⟨i,j,hp⟩:=CX.run hn h1
  have hM:Run (mm as bs) y j n:=fun t ht=>by
    obtain ⟨v,e1,e2⟩:=mm_some.mp (hr t ht)
    obtain ⟨w,e3,e4⟩:=h1 t ht
    rw [e1] at e3;cases e3
    exact mm_some.mpr ⟨v,hY _ v e2 e4,CX.toSide.isB B (hp t ht) v e1⟩
  obtain ⟨v,e1,e2⟩:=mm_some.mp (hM (n - 1) (by exact aQ 0xf18f1108f011f0081f1800 rfl hn))
  obtain ⟨l1,_⟩:=List.getElem?_eq_some_iff.mp e1
  exact bwd B CX.vs (fun x i j h=>CX.toSide.kn SY h ⟨rfl,CX.vs.sound _ _ _ h⟩) hn (by exact aO 0xf1101210a0f230a1f1811 rfl l1) hp hM
end
noncomputable def upTo (n:Nat):List Int:=(List.range n).map fun (i:Nat)=>(i:Int)
theorem upTo_get {n x:Nat} {v:Int}:(upTo n)[x]?=some v ↔ x < n∧v=x:=by
  unfold upTo
  rw [List.getElem?_map]
  rcases Nat.lt_or_ge x n with h | h
  · rw [List.getElem?_range h]
    simp only [Option.map_some,Option.some.injEq]
    constructor
    · intro e;exact ⟨h,e.symm⟩
    · intro e;exact e.2.symm
  · rw [List.getElem?_eq_none (by rw [List.length_range];exact h)]
    simp only [Option.map_none]
    constructor
    · intro e;cases e
    · intro e;exact (aF 0xf119f011100f rfl h e.1).elim
noncomputable def aN (ed:List Int):List Int:=(List.range ed.length).map fun (j:Nat)=>if 0≤ed.getD j 0 then ed.getD j 0 else 50+(j:Int)
noncomputable def bC (la:Nat) (last:List Int):List Int:=(upTo la).map fun p=>if p∈last then p else 90+p
noncomputable def ltr (as:List Int) (v:Int):Int:=if v < 50 then as.getD v.toNat 0 else v
theorem edit_to {ed:List Int} {la lb:Nat} {b:Bool} {i j:Nat} {S:List T3} (g:Good la lb b i j S) (hl:ed.length=lb) (h:aZ ed j S):(∀ c∈S,∀ t,t < c.2.2→ed[c.2.1+t]?=some ((c.1+t:Nat):Int))∧∀ y v,j≤y→ed[y]?=some v→v < 0∨∃ c∈S,∃ t,t < c.2.2∧v=((c.1+t:Nat):Int)∧y=c.2.1+t:=by
  induction g with
  | nil _ _ =>
    refine ⟨fun c hc=>(by cases hc),fun y v hy e=>?_⟩
    obtain ⟨l,_⟩:=List.getElem?_eq_some_iff.mp e
    obtain ⟨w,e1,e2⟩:=h y hy l
    rw [e] at e1;cases e1;exact .inl e2
  | @cons b i j ai bj n r h1 h2 h3 h4 h5 ih =>
    obtain ⟨q1,q2,q3⟩:=h
    obtain ⟨i1,i2⟩:=ih q3
    refine ⟨fun c hc t ht=>?_,fun y v hy e=>?_⟩
    · rcases List.mem_cons.mp hc with rfl | hc
      · exact q2 t ht
      · exact i1 c hc t ht
    · rcases Nat.lt_or_ge y bj with hlt | hge
      · obtain ⟨w,e1,e2⟩:=q1 y hy hlt
        rw [e] at e1;cases e1;exact .inl e2
      · rcases Nat.lt_or_ge y (bj+n) with hlt' | hge'
        · have:=q2 (y - bj) (by exact aO 0xf1018f1108f031f02a110081f210 rfl h3 hlt')
          rw [show bj+(y - bj)=y by exact aF 0xf11f110ff18f1108ff120a2f100f010 rfl hge,e] at this
          cases this
          exact .inr ⟨_,List.mem_cons_self,y - bj,by simp only;exact aO 0xf1018f1108f031f02a110081f210 rfl h3 hlt',rfl,by simp only;exact aF 0xf18f1108ff11f110ff20a12f100f010 rfl hge⟩
        · rcases i2 y v hge' e with hh | ⟨c,hc,t,ht,e1,e2⟩
          · exact .inl hh
          · exact .inr ⟨c,List.mem_cons_of_mem _ hc,t,ht,e1,e2⟩
structure Gnd (as bs ed:List Int) (S:List T3):Prop where
  good:Good as.length bs.length true 0 0 S
  bas:Bas (mm as bs) as.length bs.length (KS S)
  len:ed.length=bs.length
  ed:aZ ed 0 S
  za:as.length≤40
  zb:bs.length≤40
  sa:∀ v∈as,v < 50
  sb:∀ v∈bs,v < 50
section
variable {as bs ed:List Int} {S:List T3}
theorem Gnd.edK (G:Gnd as bs ed S) {i j:Nat} (h:KS S i j):ed[j]?=some (i:Int):=by
  obtain ⟨c,hc,t,ht,rfl,rfl⟩:=h
  exact (edit_to G.good G.len G.ed).1 c hc t ht
theorem Gnd.edI (G:Gnd as bs ed S) {j:Nat} {v:Int} (h:ed[j]?=some v):v < 0∨∃ i:Nat,v=i∧KS S i j:=by
  rcases (edit_to G.good G.len G.ed).2 j v (Nat.zero_le _) h with h | ⟨c,hc,t,ht,rfl,rfl⟩
  · exact .inl h
  · exact .inr ⟨_,rfl,c,hc,t,ht,rfl,rfl⟩
theorem Gnd.lt (G:Gnd as bs ed S) {i j:Nat} (h:KS S i j):i < as.length∧j < bs.length:=⟨(G.bas.bd _ _ h).1,(G.bas.bd _ _ h).2.1⟩
theorem Gnd.last (G:Gnd as bs ed S) {j:Nat} {v:Int}:(aN ed)[j]?=some v ↔ j < bs.length∧((∃ i:Nat,v=i∧KS S i j)∨(v=50+(j:Int)∧∀ i,¬ KS S i j)):=by
  unfold aN
  rw [List.getElem?_map]
  rcases Nat.lt_or_ge j ed.length with h | h
  · rw [List.getElem?_range h]
    have hg:ed[j]?=some (ed.getD j 0):=by rw [List.getD_eq_getElem?_getD,List.getElem?_eq_getElem h];rfl
    simp only [Option.map_some,Option.some.injEq]
    constructor
    · intro e
      refine ⟨G.len ▸ h,?_⟩
      rcases G.edI hg with h1 | ⟨i,h1,h2⟩
      · rw [if_neg (by exact lqx [] [_] 0xf1100836f0804f rfl h1)] at e
        refine .inr ⟨e.symm,fun i hk=>?_⟩
        have:=G.edK hk
        rw [hg] at this;have:=Option.some.inj this;exact lqx [_] [_] 0xf119f0c050804f rfl h1 this
      · rw [if_pos (by exact lqx [_] [_] 0xf110083f0c05f rfl h1)] at e
        exact .inl ⟨i,by exact lqx [_] [_,_] 0xf181f811f0c15f0c05105f rfl e h1,h2⟩
    · rintro ⟨_,⟨i,rfl,hk⟩ | ⟨rfl,hk⟩⟩
      · have:=G.edK hk
        rw [hg] at this
        have:=Option.some.inj this
        rw [if_pos (by exact lqx [_] [_] 0xf110083f0c05f rfl this)];exact this
      · rcases G.edI hg with h1 | ⟨i,h1,h2⟩
        · rw [if_neg (by exact lqx [] [_] 0xf1100836f0804f rfl h1)]
        · exact absurd h2 (hk i)
  · rw [List.getElem?_eq_none (by rw [List.length_range];exact h)]
    simp only [Option.map_none]
    constructor
    · intro e;cases e
    · rintro ⟨h1,_⟩;rw [← G.len] at h1;exact (aF 0xf119f011100f rfl h h1).elim
theorem Gnd.inLast (G:Gnd as bs ed S) {i:Nat} (hi:i < as.length):((i:Nat):Int)∈aN ed ↔ ∃ j,KS S i j:=by
  have:=G.za
  constructor
  · intro h
    obtain ⟨j,hj⟩:=List.mem_iff_getElem?.mp h
    obtain ⟨_,⟨i',e,hk⟩ | ⟨e,_⟩⟩:=G.last.mp hj
    · have:i=i':=by exact aF 0xf11f81f102f1c0c5f rfl e
      subst this;exact ⟨j,hk⟩
    · exact (aO 0xf1119f2c3209a0c5280910101f rfl hi this e).elim
  · rintro ⟨j,hk⟩
    exact List.mem_iff_getElem?.mpr ⟨j,G.last.mpr ⟨(G.lt hk).2,.inl ⟨i,rfl,hk⟩⟩⟩
theorem Gnd.named (G:Gnd as bs ed S) {i:Nat} {v:Int}:(bC as.length (aN ed))[i]?=some v ↔ i < as.length∧((v=i∧∃ j,KS S i j)∨(v=90+(i:Int)∧∀ j,¬ KS S i j)):=by
  unfold bC
  rw [List.getElem?_map]
  cases e:(upTo as.length)[i]? with
  | none =>
    simp only [Option.map_none]
    constructor
    · intro h;cases h
    · rintro ⟨h,_⟩
      rw [upTo_get.mpr ⟨h,rfl⟩] at e;cases e
  | some w =>
    obtain ⟨hi,rfl⟩:=upTo_get.mp e
    simp only [Option.map_some,Option.some.injEq]
    constructor
    · intro h
      refine ⟨hi,?_⟩
      split at h
      · rename_i hm;exact .inl ⟨h.symm,(G.inLast hi).mp hm⟩
      · rename_i hm;exact .inr ⟨h.symm,fun j hk=>hm ((G.inLast hi).mpr ⟨j,hk⟩)⟩
    · rintro ⟨_,⟨rfl,hk⟩ | ⟨rfl,hk⟩⟩
      · rw [if_pos ((G.inLast hi).mpr hk)]
      · rw [if_neg fun hm=>by obtain ⟨j,h⟩:=(G.inLast hi).mp hm;exact hk j h]
theorem map_get {f:Int→Int} {N:List Int} {x:Nat} {v:Int} (h:(N.map f)[x]?=some v):∃ w,N[x]?=some w∧v=f w:=by
  rw [List.getElem?_map] at h
  cases e:N[x]? with
  | none=>rw [e] at h;cases h
  | some w=>rw [e] at h;cases h;exact ⟨w,rfl,rfl⟩
theorem Gnd.ltrK (G:Gnd as bs ed S) {i j:Nat} (h:KS S i j):some (ltr as (i:Int))=as[i]?:=by
  have:=G.za
  have hl:=(G.lt h).1
  unfold ltr
  rw [if_pos (by exact aF 0xf11132091c4f011280900f rfl this hl),Int.toNat_natCast,List.getD_eq_getElem?_getD,List.getElem?_eq_getElem hl];rfl
theorem Gnd.ltrI (G:Gnd as bs ed S) {w:Int} (h:ltr as w < 50):w < 50:=by
  unfold ltr at h
  split at h
  · assumption
  · exact h
theorem Gnd.ltrS (G:Gnd as bs ed S) {w:Int} (h:w < 50):ltr as w < 50:=by
  unfold ltr
  rw [if_pos h,List.getD_eq_getElem?_getD]
  cases e:as[w.toNat]? with
  | none=>decide
  | some v=>exact G.sa v (List.mem_of_getElem? e)
theorem ltr_big {w:Int} (h:¬ w < 50):ltr as w=w:=by unfold ltr;rw [if_neg h]
theorem Gnd.sOld (G:Gnd as bs ed S):Side as (KS S) (upTo as.length) as (PA (KS S)) where
  len:=by simp [upTo]
  vs:=PA.vs
  nm:=fun x i j h=>by obtain ⟨rfl,hk⟩:=h;exact upTo_get.mpr ⟨(G.lt hk).1,rfl⟩
  lt:=fun x i j h=>by rw [h.1]
theorem Gnd.sNew (G:Gnd as bs ed S):Side as (KS S) (aN ed) bs (PB (KS S)) where
  len:=by simp [aN,G.len]
  vs:=PB.vs G.bas.mono
  nm:=fun y i j h=>by obtain ⟨rfl,hk⟩:=h;exact G.last.mpr ⟨(G.lt hk).2,.inl ⟨i,rfl,hk⟩⟩
  lt:=fun y i j h=>by obtain ⟨rfl,hk⟩:=h;obtain ⟨v,e1,e2⟩:=G.bas.ge hk;rw [e1,e2]
theorem Gnd.sNamed (G:Gnd as bs ed S):Side as (KS S) (bC as.length (aN ed)) ((bC as.length (aN ed)).map (ltr as)) (PA (KS S)) where
  len:=by simp
  vs:=PA.vs
  nm:=fun x i j h=>by obtain ⟨rfl,hk⟩:=h;exact G.named.mpr ⟨(G.lt hk).1,.inl ⟨rfl,j,hk⟩⟩
  lt:=fun x i j h=>by
    obtain ⟨rfl,hk⟩:=h
    rw [List.getElem?_map,G.named.mpr ⟨(G.lt hk).1,.inl ⟨rfl,j,hk⟩⟩];exact G.ltrK hk
theorem Gnd.sLast (G:Gnd as bs ed S):Side as (KS S) (aN ed) ((aN ed).map (ltr as)) (PB (KS S)) where
  len:=by simp
  vs:=PB.vs G.bas.mono
  nm:=fun y i j h=>by obtain ⟨rfl,hk⟩:=h;exact G.last.mpr ⟨(G.lt hk).2,.inl ⟨i,rfl,hk⟩⟩
  lt:=fun y i j h=>by
    obtain ⟨rfl,hk⟩:=h
    rw [List.getElem?_map,G.last.mpr ⟨(G.lt hk).2,.inl ⟨i,rfl,hk⟩⟩];exact G.ltrK hk
theorem Gnd.namedA (G:Gnd as bs ed S) (x:Nat) (v:Int) (h:((bC as.length (aN ed)).map (ltr as))[x]?=some v) (hv:v < 50):as[x]?=some v:=by
  have:=G.za
  obtain ⟨w,h1,rfl⟩:=map_get h
  obtain ⟨hx,⟨rfl,j,hk⟩ | ⟨rfl,_⟩⟩:=G.named.mp h1
  · exact (G.ltrK hk).symm
  · have:=G.ltrI hv;exact (aQ 0xf19f32090c5a09a4f rfl this).elim
theorem Gnd.lastB (G:Gnd as bs ed S) (x:Nat) (v:Int) (h:((aN ed).map (ltr as))[x]?=some v) (hv:v < 50):bs[x]?=some v:=by
  have:=G.za
  obtain ⟨w,h1,rfl⟩:=map_get h
  obtain ⟨hx,⟨i,rfl,hk⟩ | ⟨rfl,_⟩⟩:=G.last.mp h1
  · obtain ⟨u,e1,e2⟩:=G.bas.ge hk
    rw [e2,← e1];exact (G.ltrK hk).symm
  · have:=G.ltrI hv;exact (aQ 0xf19f32090c3209a4f rfl this).elim
structure RowT (S:List T3) (T:List Tg) (N:List Int) (lo hi:Int):Prop where
  ct:CT true S T
  kept:∀ x i j,PT T x i j→N[x]?=some (i:Int)
  other:∀ x v,N[x]?=some v→(∃ i j,PT T x i j)∨(lo≤v∧v < hi)
theorem Gnd.sRow (G:Gnd as bs ed S) {T:List Tg} {N:List Int} {lo hi:Int} (R:RowT S T N lo hi) (hlo:50≤lo):CSide as (KS S) N (N.map (ltr as)) (PT T):=by
  obtain ⟨V,Se⟩:=R.ct.vs G.good.pw
  exact {
    len:=by simp
    vs:=V
    nm:=R.kept
    lt:=fun x i j h=>by rw [List.getElem?_map,R.kept _ _ _ h];exact G.ltrK (V.sound _ _ _ h)
    sep:=Se
    small:=fun x v h hv=>by
      obtain ⟨w,h1,rfl⟩:=map_get h
      rcases R.other x w h1 with h2 | h2
      · exact h2
      · have:=G.ltrI hv;exact (lqx [] [_,_] 0xf1119f320914103032093f rfl hlo h2.1 this).elim }
theorem RowT.val {T:List Tg} {N:List Int} {lo hi:Int} (R:RowT S T N lo hi) (G:Gnd as bs ed S) (hlo:50≤lo) {x:Nat} {v:Int} (h:N[x]?=some v):(∃ i j,PT T x i j∧v=i∧KS S i j)∨(lo≤v∧v < hi):=by
  rcases R.other x v h with ⟨i,j,hp⟩ | h'
  · have:=R.kept _ _ _ hp
    rw [h] at this
    exact .inl ⟨i,j,hp,Option.some.inj this,(G.sRow R hlo).vs.sound _ _ _ hp⟩
  · exact .inr h'
theorem RowT.big {T:List Tg} {N:List Int} {lo hi:Int} (R:RowT S T N lo hi) (G:Gnd as bs ed S) {x:Nat} {v:Int} (h:(N.map (ltr as))[x]?=some v) (hv:¬ v < 50):lo≤v∧v < hi:=by
  have:=G.za
  obtain ⟨w,h1,rfl⟩:=map_get h
  have hw:¬ w < 50:=fun h=>hv (G.ltrS h)
  rw [ltr_big hw]
  rcases R.other x w h1 with ⟨i,j,hp⟩ | h'
  · have:=R.kept _ _ _ hp
    rw [h1] at this
    have:=Option.some.inj this
    have:=(G.lt ((R.ct.vs G.good.pw).1.sound _ _ _ hp)).1
    exact lqx [_,_] [_,_,_] 0xf18112040137f0111c053209046280900f rfl (by assumption) hw (by assumption) this
  · exact h'
section
variable {T T':List Tg} {N N':List Int} {lo hi lo' hi':Int}
theorem Gnd.ask_old_row (G:Gnd as bs ed S) (R:RowT S T N lo hi) (hlo:50≤lo):aZ (idxs (upTo as.length) N) 0 (ro (mm as (N.map (ltr as))) (bO as (N.map (ltr as)))):=by
  have hz:=G.za
  have C:=G.sRow R hlo
  refine ask_sides G.bas G.sOld C.toSide ?_ fun x y n hn hr=>?_
  · rintro x y ⟨v,h1,h2⟩
    obtain ⟨hx,rfl⟩:=upTo_get.mp h1
    rcases R.val G hlo h2 with ⟨i,j,hp,e,hk⟩ | h'
    · have:x=i:=by exact aF 0xf11f81f102f1c0c5f rfl e
      subst this
      exact ⟨x,j,⟨rfl,hk⟩,hp⟩
    · exact (lqx [_,_] [_] 0xf11119f1c03011280900032093f rfl hlo hz hx h'.1).elim
  · obtain ⟨l1,l2⟩:=run_l hr fun x y v _ h _=>G.sa v (List.mem_of_getElem? h)
    exact dom_fwd G.bas PA.vs C.vs (fun x y i j h h'=>G.sOld.kn C.toSide h h') hn hr (readA_a (fun x v h _=>h) l1) (C.readB G.bas hn l2)
theorem Gnd.ask_row_old (G:Gnd as bs ed S) (R:RowT S T N lo hi) (hlo:50≤lo):aZ (idxs N (upTo as.length)) 0 (ro (mm (N.map (ltr as)) as) (bO (N.map (ltr as)) as)):=by
  have hz:=G.za
  have C:=G.sRow R hlo
  refine ask_sides G.bas C.toSide G.sOld ?_ fun x y n hn hr=>?_
  · rintro x y ⟨v,h2,h1⟩
    obtain ⟨hx,rfl⟩:=upTo_get.mp h1
    rcases R.val G hlo h2 with ⟨i,j,hp,e,hk⟩ | h'
    · have:y=i:=by exact aF 0xf11f81f102f1c0c5f rfl e
      subst this
      exact ⟨y,j,hp,⟨rfl,hk⟩⟩
    · exact (lqx [_,_] [_] 0xf11119f1c03011280900032093f rfl hlo hz hx h'.1).elim
  · obtain ⟨l1,l2⟩:=run_l hr fun x y v _ _ h=>G.sa v (List.mem_of_getElem? h)
    exact dom_bwd G.bas C G.sOld (fun x v h _=>h) hn hr l1
theorem Gnd.ask_row_new (G:Gnd as bs ed S) (R:RowT S T N lo hi) (hlo:90≤lo):aZ (idxs N (aN ed)) 0 (ro (mm (N.map (ltr as)) bs) (bO (N.map (ltr as)) bs)):=by
  have hz:=G.za
  have hz':=G.zb
  have C:=G.sRow R (by exact lqx [] [_] 0xf11032093f05a093f rfl hlo)
  refine ask_sides G.bas C.toSide G.sNew ?_ fun x y n hn hr=>?_
  · rintro x y ⟨v,h2,h1⟩
    obtain ⟨hy,⟨i',rfl,hk'⟩ | ⟨rfl,_⟩⟩:=G.last.mp h1
    · rcases R.val G (by exact lqx [] [_] 0xf11032093f05a093f rfl hlo) h2 with ⟨i,j,hp,e,hk⟩ | h'
      · have:i'=i:=by exact aF 0xf11f81f102f1c0c5f rfl e
        subst this
        have:=(G.bas.mono.eq hk hk').mp rfl
        subst this
        exact ⟨i',j,hp,⟨rfl,hk⟩⟩
      · have:=(G.lt hk').1;exact (lqx [_,_] [_] 0xf11119f0111c0328090005a093f rfl hlo hz h'.1 this).elim
    · rcases R.val G (by exact lqx [] [_] 0xf11032093f05a093f rfl hlo) h2 with ⟨i,j,hp,e,hk⟩ | h'
      · have:=(G.lt hk).1;exact (aO 0xf1819f0212c1c3209a5280900f rfl hz e this).elim
      · exact (lqx [_,_] [_] 0xf11119f1c3209a0301128090005a093f rfl hlo hz' hy h'.1).elim
  · obtain ⟨l1,l2⟩:=run_l hr fun x y v _ _ h=>G.sb v (List.mem_of_getElem? h)
    exact dom_fwd G.bas C.vs (PB.vs G.bas.mono) (fun x y i j h h'=>C.toSide.kn G.sNew h h') hn hr (C.readA hn l1) (readB_b (fun x v h _=>h) l2)
theorem Gnd.ask_row_row (G:Gnd as bs ed S) (R:RowT S T N lo hi) (R':RowT S T' N' lo' hi') (hlo:50≤lo) (hlo':50≤lo') (hh:hi≤lo'∨hi'≤lo):aZ (idxs N N') 0 (ro (mm (N.map (ltr as)) (N'.map (ltr as))) (bO (N.map (ltr as)) (N'.map (ltr as)))):=by
  have hz:=G.za
  have C:=G.sRow R hlo
  have C':=G.sRow R' hlo'
  refine ask_sides G.bas C.toSide C'.toSide ?_ fun x y n hn hr=>?_
  · rintro x y ⟨v,h2,h1⟩
    rcases R.val G hlo h2 with ⟨i,j,hp,e,hk⟩ | h'
    · have:=(G.lt hk).1
      rcases R'.val G hlo' h1 with ⟨i',j',hp',e',hk'⟩ | h''
      · have:i'=i:=by exact lqx [_,_] [_] 0xf811f181f012f1c050c05f rfl e e'
        subst this
        have:=(G.bas.mono.eq hk hk').mp rfl
        subst this
        exact ⟨i',j,hp,hp'⟩
      · exact (lqx [_,_] [_,_] 0xf118119f1030111c15280900032093f rfl hlo' hz e this h''.1).elim
    · rcases R'.val G hlo' h1 with ⟨i',j',hp',e',hk'⟩ | h''
      · have:=(G.lt hk').1;exact (lqx [_,_] [_,_] 0xf181119f0111c15103280900032093f rfl hlo hz h'.1 e' this).elim
      · exact (lqx [] [_,_,_,_,_] 0xf10011f1101f9f0433238414133214103f rfl h'.1 h'.2 h''.1 h''.2 hh).elim
  · obtain ⟨l1,l2⟩:=run_l hr fun x y v _ h h'=>by
      rcases Int.lt_or_le v 50 with hv | hv
      · exact hv
      · have a:=R.big G h (by exact lqx [] [_] 0xf113209046f032093f rfl hv)
        have b:=R'.big G h' (by exact lqx [] [_] 0xf113209046f032093f rfl hv)
        exact lqx [] [_,_,_,_,_] 0xf100101f11001f320914f0433238414133214103f rfl a.1 a.2 b.1 b.2 hh
    exact dom_fwd G.bas C.vs C'.vs (fun x y i j h h'=>C.toSide.kn C'.toSide h h') hn hr (C.readA hn l1) (C'.readB G.bas hn l2)
theorem Gnd.ask_named_last (G:Gnd as bs ed S):aZ (idxs (bC as.length (aN ed)) (aN ed)) 0 (ro (mm ((bC as.length (aN ed)).map (ltr as)) ((aN ed).map (ltr as))) (bO ((bC as.length (aN ed)).map (ltr as)) ((aN ed).map (ltr as)))):=by
  have hz:=G.za
  have hz':=G.zb
  refine ask_sides G.bas G.sNamed G.sLast ?_ fun x y n hn hr=>?_
  · rintro x y ⟨v,h1,h2⟩
    obtain ⟨hx,h1⟩:=G.named.mp h1
    obtain ⟨hy,h2⟩:=G.last.mp h2
    rcases h1 with ⟨rfl,j,hk⟩ | ⟨rfl,h1⟩
    · rcases h2 with ⟨i,e,hk'⟩ | ⟨e,_⟩
      · have:x=i:=by exact aF 0xf11f81f102f1c0c5f rfl e
        subst this
        have:=(G.bas.mono.eq hk hk').mp rfl
        subst this
        exact ⟨x,j,⟨rfl,hk⟩,⟨rfl,hk⟩⟩
      · exact (aO 0xf1119f2c3209a1c5011280900f rfl hz hx e).elim
    · rcases h2 with ⟨i,e,hk'⟩ | ⟨e,_⟩
      · have:=(G.lt hk').1;exact (aO 0xf1819f0212c1c5a09a5280900f rfl hz e this).elim
      · exact (aO 0xf8119f1c3209a2c5a09a5011280900f rfl hz' hy e).elim
  · obtain ⟨l1,l2⟩:=run_l hr fun x y v _ h h'=>by
      rcases Int.lt_or_le v 50 with hv | hv
      · exact hv
      · obtain ⟨w,e1,rfl⟩:=map_get h
        obtain ⟨w',e2,e3⟩:=map_get h'
        have hw:¬ w < 50:=fun q=>by have:=G.ltrS q;exact lqx [] [_] 0xf119f320904032093f rfl hv this
        have hw':¬ w' < 50:=fun q=>by have:=G.ltrS q;exact lqx [] [_,_] 0xf1819f320914105032093f rfl hv e3 this
        rw [ltr_big hw,ltr_big hw'] at e3
        obtain ⟨hx,⟨rfl,_⟩ | ⟨rfl,_⟩⟩:=G.named.mp e1
        · exact lqx [_,_] [_] 0xf1110320904f32091c46011280900f rfl hz hx hw
        · obtain ⟨hy,⟨i,rfl,hk⟩ | ⟨rfl,_⟩⟩:=G.last.mp e2
          · have:=(G.lt hk).1;exact lqx [_,_,_] [_] 0xf1810320904f0212c1c5a09a5280900f rfl hz e3 this
          · exact lqx [_,_,_] [_] 0xf8110320904f1c3209a2c5a09a5011280900f rfl hz' hy e3
    exact dom_fwd G.bas PA.vs (PB.vs G.bas.mono) (fun x y i j h h'=>G.sNamed.kn G.sLast h h') hn hr (readA_a G.namedA l1) (readB_b G.lastB l2)
end
end
noncomputable def aT (i ai:Nat):List Tg:=(List.range (ai - i)).map fun t=>(some (i+t),none)
noncomputable def bT (j bj:Nat):List Tg:=(List.range (bj - j)).map fun t=>(none,some (j+t))
noncomputable def bothT (la lb:Nat):Nat→Nat→List T3→List Tg
  | i,j,[]=>aT i la++bT j lb
  | i,j,(ai,bj,n) :: r=>(aT i ai++bT j bj)++(eqT ai bj n++bothT la lb (ai+n) (bj+n) r)
theorem aT_mem {i ai:Nat} {c:Tg}:c∈aT i ai ↔ ∃ x,i≤x∧x < ai∧c=(some x,none):=by
  unfold aT
  rw [List.mem_map]
  constructor
  · rintro ⟨t,ht,rfl⟩
    rw [List.mem_range] at ht
    exact ⟨i+t,by exact aF 0xf110a00ff rfl,by exact aO 0xf118f1008f102a1f301f210 rfl ht,rfl⟩
  · rintro ⟨x,h1,h2,rfl⟩
    exact ⟨x - i,by rw [List.mem_range];exact aO 0xf101018f1110108f431f211100f021010 rfl h1 h2,by rw [show i+(x - i)=x by exact aF 0xf11f110ff18f1108ff120a2f100f010 rfl h1]⟩
theorem bT_mem {j bj:Nat} {c:Tg}:c∈bT j bj ↔ ∃ y,j≤y∧y < bj∧c=(none,some y):=by
  unfold bT
  rw [List.mem_map]
  constructor
  · rintro ⟨t,ht,rfl⟩
    rw [List.mem_range] at ht
    exact ⟨j+t,by exact aF 0xf110a00ff rfl,by exact aO 0xf118f1008f102a1f301f210 rfl ht,rfl⟩
  · rintro ⟨x,h1,h2,rfl⟩
    exact ⟨x - j,by rw [List.mem_range];exact aO 0xf101018f1110108f431f211100f021010 rfl h1 h2,by rw [show j+(x - j)=x by exact aF 0xf11f110ff18f1108ff120a2f100f010 rfl h1]⟩
theorem eqT_mem {a b n:Nat} {c:Tg}:c∈eqT a b n ↔ ∃ t,t < n∧c=(some (a+t),some (b+t)):=by
  unfold eqT
  rw [List.mem_map]
  constructor
  · rintro ⟨t,ht,rfl⟩
    rw [List.mem_range] at ht
    exact ⟨t,ht,rfl⟩
  · rintro ⟨t,h1,rfl⟩
    exact ⟨t,by rw [List.mem_range];exact h1,rfl⟩
theorem bothT_mem {la lb:Nat} {b:Bool} {i j:Nat} {S:List T3} (g:Good la lb b i j S):∀ c:Tg,c∈bothT la lb i j S ↔ (∃ x y,c=(some x,some y)∧KS S x y)∨(∃ x,i≤x∧x < la∧c=(some x,none)∧∀ y,¬ KS S x y)∨(∃ y,j≤y∧y < lb∧c=(none,some y)∧∀ x,¬ KS S x y):=by
  induction g with
  | @nil b i j h1 h2 =>
    intro c
    have no:∀ x y,¬ KS [] x y:=fun x y ⟨c,hc,_⟩=>by cases hc
    unfold bothT
    rw [List.mem_append,aT_mem,bT_mem]
    constructor
    · rintro (⟨x,a1,a2,rfl⟩ | ⟨y,a1,a2,rfl⟩)
      · exact .inr (.inl ⟨x,a1,a2,rfl,no x⟩)
      · exact .inr (.inr ⟨y,a1,a2,rfl,fun x=>no x y⟩)
    · rintro (⟨x,y,_,hk⟩ | ⟨x,a1,a2,rfl,_⟩ | ⟨y,a1,a2,rfl,_⟩)
      · exact absurd hk (no x y)
      · exact .inl ⟨x,a1,a2,rfl⟩
      · exact .inr ⟨y,a1,a2,rfl⟩
  | @cons b i j ai bj n r h1 h2 h3 h4 h5 ih =>
    intro c
    have hle:=h5.le
    have hk:∀ x y,KS ((ai,bj,n) :: r) x y ↔ (∃ t,t < n∧x=ai+t∧y=bj+t)∨KS r x y:=fun x y=>by
      constructor
      · rintro ⟨c,hc,t,ht,e1,e2⟩
        rcases List.mem_cons.mp hc with rfl | hc
        · exact .inl ⟨t,ht,e1,e2⟩
        · exact .inr ⟨c,hc,t,ht,e1,e2⟩
      · rintro (⟨t,ht,e1,e2⟩ | ⟨c,hc,t,ht,e1,e2⟩)
        · exact ⟨_,List.mem_cons_self,t,ht,e1,e2⟩
        · exact ⟨c,List.mem_cons_of_mem _ hc,t,ht,e1,e2⟩
    have hb:∀ x y,KS r x y→ai+n≤x∧bj+n≤y:=fun x y ⟨c,hc,t,ht,e1,e2⟩=>by
      obtain ⟨_,a1,a2,_⟩:=h5.all c hc;exact lq8 0xf10101f1011f3607a0065a07f4607a0165a024a3221a02f rfl e1 e2 a1 a2
    unfold bothT
    rw [List.mem_append,List.mem_append,List.mem_append,aT_mem,bT_mem,eqT_mem,ih c]
    constructor
    · rintro ((⟨x,a1,a2,rfl⟩ | ⟨y,a1,a2,rfl⟩) | ⟨t,a1,rfl⟩ | ⟨x,y,rfl,a1⟩ | ⟨x,a1,a2,rfl,a3⟩ | ⟨y,a1,a2,rfl,a3⟩)
      · refine .inr (.inl ⟨x,a1,by exact bF 0xf111231f031210a0f rfl hle.1 a2,rfl,fun y q=>?_⟩)
        rcases (hk _ _).mp q with ⟨t,_,e,_⟩ | q
        · exact aO 0xf119f21a02101f rfl a2 e
        · have:=hb _ _ q;exact aO 0xf119f021a0101f rfl a2 this.1
      · refine .inr (.inr ⟨y,a1,by exact bF 0xf111231f031210a0f rfl hle.2 a2,rfl,fun x q=>?_⟩)
        rcases (hk _ _).mp q with ⟨t,_,_,e⟩ | q
        · exact aO 0xf119f21a02101f rfl a2 e
        · have:=hb _ _ q;exact aO 0xf119f021a0101f rfl a2 this.2
      · exact .inl ⟨_,_,rfl,(hk _ _).mpr (.inl ⟨t,a1,rfl,rfl⟩)⟩
      · exact .inl ⟨_,_,rfl,(hk _ _).mpr (.inr a1)⟩
      · refine .inr (.inl ⟨x,by exact bF 0xf111300f321a0100f rfl h1 a1,a2,rfl,fun y q=>?_⟩)
        rcases (hk _ _).mp q with ⟨t,_,e,_⟩ | q
        · exact bF 0xf8119f30a22131210a0f rfl a1 (by assumption) e
        · exact a3 y q
      · refine .inr (.inr ⟨y,by exact bF 0xf111300f321a0100f rfl h2 a1,a2,rfl,fun x q=>?_⟩)
        rcases (hk _ _).mp q with ⟨t,_,_,e⟩ | q
        · exact bF 0xf8119f30a22131210a0f rfl a1 (by assumption) e
        · exact a3 x q
    · rintro (⟨x,y,rfl,q⟩ | ⟨x,a1,a2,rfl,a3⟩ | ⟨y,a1,a2,rfl,a3⟩)
      · rcases (hk _ _).mp q with ⟨t,ht,rfl,rfl⟩ | q
        · exact .inr (.inl ⟨t,ht,rfl⟩)
        · exact .inr (.inr (.inl ⟨x,y,rfl,q⟩))
      · rcases Nat.lt_or_ge x ai with h | h
        · exact .inl (.inl ⟨x,a1,h,rfl⟩)
        · rcases Nat.lt_or_ge x (ai+n) with h' | h'
          · exact absurd ((hk _ _).mpr (.inl ⟨x - ai,by exact aO 0xf1018f1108f031f02a110081f210 rfl h3 h',by exact aF 0xf18f1108ff11f110ff20a12f100f010 rfl h,rfl⟩)) (a3 (bj+(x - ai)))
          · exact .inr (.inr (.inr (.inl ⟨x,h',a2,rfl,fun y q=>a3 y ((hk _ _).mpr (.inr q))⟩)))
      · rcases Nat.lt_or_ge y bj with h | h
        · exact .inl (.inr ⟨y,a1,h,rfl⟩)
        · rcases Nat.lt_or_ge y (bj+n) with h' | h'
          · exact absurd ((hk _ _).mpr (.inl ⟨y - bj,by exact aO 0xf1018f1108f031f02a110081f210 rfl h3 h',rfl,by exact aF 0xf18f1108ff11f110ff20a12f100f010 rfl h⟩)) (a3 (ai+(y - bj)))
          · exact .inr (.inr (.inr (.inr ⟨y,h',a2,rfl,fun x q=>a3 x ((hk _ _).mpr (.inr q))⟩)))
noncomputable def TU (c d:Tg):Prop:=(∀ x x',c.1=some x→d.1=some x'→x < x')∧∀ y y',c.2=some y→d.2=some y'→y < y'
theorem range_pw {α:Type} {R:α→α→Prop} {f:Nat→α} (h:∀ i j,i < j→R (f i) (f j)) (n:Nat):((List.range n).map f).Pairwise R:=by
  rw [List.pairwise_map]
  exact List.pairwise_lt_range.imp fun {a b}=>h a b
theorem bothT_pw {la lb:Nat} {b:Bool} {i j:Nat} {S:List T3} (g:Good la lb b i j S):(bothT la lb i j S).Pairwise TU:=by
  have hab:∀ i ai j bj,(aT i ai++bT j bj).Pairwise TU:=fun i ai j bj=>by
    refine List.pairwise_append.mpr ⟨range_pw (fun s t h=>⟨fun x x' e e'=>by cases e;cases e';exact aO 0xf1112a02a1f101f rfl h,fun y y' e=>by cases e⟩) _,range_pw (fun s t h=>⟨fun x x' e=>(by cases e),fun y y' e e'=>by cases e;cases e';exact aO 0xf1112a02a1f101f rfl h⟩) _,fun c hc d hd=>?_⟩
    obtain ⟨x,_,_,rfl⟩:=aT_mem.mp hc
    obtain ⟨y,_,_,rfl⟩:=bT_mem.mp hd
    exact ⟨fun x x' _ e=>(by cases e),fun y y' e=>by cases e⟩
  induction g with
  | nil _ _=>exact hab _ _ _ _
  | @cons b i j ai bj n r h1 h2 h3 h4 h5 ih =>
    unfold bothT
    have hle:=h5.le
    have hlow:∀ c∈bothT la lb (ai+n) (bj+n) r,(∀ x,c.1=some x→ai+n≤x)∧∀ y,c.2=some y→bj+n≤y:=fun c hc=>by
      rcases (bothT_mem h5 c).mp hc with ⟨x,y,rfl,d,hd,t,ht,rfl,rfl⟩ | ⟨x,a1,a2,rfl,_⟩ | ⟨y,a1,a2,rfl,_⟩
      · obtain ⟨_,a1,a2,_⟩:=h5.all d hd
        exact ⟨fun x e=>by cases e;exact bF 0xf1132a10a0f210a0f rfl a1,fun y e=>by cases e;exact bF 0xf1132a10a0f210a0f rfl a2⟩
      · exact ⟨fun x e=>by cases e;exact aO 0xf11210a0f210a0f rfl a1,fun y e=>by cases e⟩
      · exact ⟨fun x e=>(by cases e),fun y e=>by cases e;exact aO 0xf11210a0f210a0f rfl a1⟩
    refine List.pairwise_append.mpr ⟨hab _ _ _ _,List.pairwise_append.mpr ⟨range_pw (fun s t h=>⟨fun x x' e e'=>by cases e;cases e';exact aO 0xf1112a02a1f101f rfl h,fun y y' e e'=>by cases e;cases e';exact aO 0xf1112a02a1f101f rfl h⟩) _,ih,fun c hc d hd=>?_⟩,fun c hc d hd=>?_⟩
    · obtain ⟨t,ht,rfl⟩:=eqT_mem.mp hc
      obtain ⟨q1,q2⟩:=hlow d hd
      exact ⟨fun x x' e e'=>by cases e;have:=q1 x' e';exact bF 0xf111302a1f312a0101f rfl ht this,fun y y' e e'=>by cases e;have:=q2 y' e';exact bF 0xf111302a1f312a0101f rfl ht this⟩
    · have hc':(∀ x,c.1=some x→x < ai)∧∀ y,c.2=some y→y < bj:=by
        rcases List.mem_append.mp hc with hc | hc
        · obtain ⟨x,_,_,rfl⟩:=aT_mem.mp hc
          exact ⟨fun x e=>by cases e;exact aF 0xf11101f101f rfl (by assumption),fun y e=>by cases e⟩
        · obtain ⟨x,_,_,rfl⟩:=bT_mem.mp hc
          exact ⟨fun x e=>(by cases e),fun y e=>by cases e;exact aF 0xf11101f101f rfl (by assumption)⟩
      have hd':(∀ x,d.1=some x→ai≤x)∧∀ y,d.2=some y→bj≤y:=by
        rcases List.mem_append.mp hd with hd | hd
        · obtain ⟨t,ht,rfl⟩:=eqT_mem.mp hd
          exact ⟨fun x e=>by cases e;exact aF 0xf110a00ff rfl,fun y e=>by cases e;exact aF 0xf110a00ff rfl⟩
        · obtain ⟨q1,q2⟩:=hlow d hd
          exact ⟨fun x e=>by have:=q1 x e;exact aO 0xf11200f210a0f rfl this,fun y e=>by have:=q2 y e;exact aO 0xf11200f210a0f rfl this⟩
      exact ⟨fun x x' e e'=>by have:=hc'.1 x e;have:=hd'.1 x' e';exact aO 0xf111201f210101f rfl (by assumption) this,fun y y' e e'=>by have:=hc'.2 y e;have:=hd'.2 y' e';exact aO 0xf111201f210101f rfl (by assumption) this⟩
theorem bothT_ct {la lb:Nat} {b:Bool} {i j:Nat} {S:List T3} (g:Good la lb b i j S):CT b S (bothT la lb i j S):=by
  have un:∀ i ai j bj,∀ c∈aT i ai++bT j bj,Un c:=fun i ai j bj c hc=>by
    rcases List.mem_append.mp hc with hc | hc
    · obtain ⟨x,_,_,rfl⟩:=aT_mem.mp hc
      intro i j e;cases e
    · obtain ⟨x,_,_,rfl⟩:=bT_mem.mp hc
      intro i j e;cases e
  induction g with
  | nil _ _=>exact .nil (un _ _ _ _)
  | @cons b i j ai bj n r h1 h2 h3 h4 h5 ih =>
    refine .cons (un _ _ _ _) (fun hb e=>?_) ih
    have:=congrArg List.length e
    simp only [List.length_append,aT,bT,List.length_map,List.length_range,List.length_nil] at this
    exact h4 hb ⟨by exact bF 0xf8000101f100001f102f0854a2100f321011 rfl h1 this,by exact bF 0xf8010001f100001f102f0854a2100f011321 rfl h2 this⟩
theorem pw_get {α:Type} {R:α→α→Prop}:∀ {l:List α},l.Pairwise R→∀ {x y:Nat} {a b:α},l[x]?=some a→l[y]?=some b→x < y→R a b
  | [],_,x,y,a,b,e,_,_=>by simp at e
  | c :: l,h,x,y,a,b,e,e',hxy=>by
    rw [List.pairwise_cons] at h
    cases y with
    | zero=>exact (aQ 0xf19f0801f rfl hxy).elim
    | succ y =>
      rw [List.getElem?_cons_succ] at e'
      cases x with
      | zero =>
        rw [List.getElem?_cons_zero] at e;cases e
        exact h.1 b (List.mem_of_getElem? e')
      | succ x =>
        rw [List.getElem?_cons_succ] at e
        exact pw_get h.2 e e' (by exact aF 0xf11101f181a180a1f rfl hxy)
section
variable {as bs ed:List Int} {S:List T3}
noncomputable def nmT (named last:List Int):Tg→Int
  | (some x,_)=>named.getD x 0
  | (none,some y)=>last.getD y 0
  | (none,none)=>0
noncomputable def bP (la:Nat) (ed:List Int) (S:List T3):List Int:=(bothT la ed.length 0 0 S).map (nmT (bC la (aN ed)) (aN ed))
theorem getD_of {l:List Int} {x:Nat} {v:Int} (h:l[x]?=some v):l.getD x 0=v:=by rw [List.getD_eq_getElem?_getD,h];rfl
theorem Gnd.goodE (G:Gnd as bs ed S):Good as.length ed.length true 0 0 S:=G.len ▸ G.good
theorem Gnd.bothI (G:Gnd as bs ed S) {x:Nat} {v:Int} (h:(bP as.length ed S)[x]?=some v) :
    (∃ i j,(bothT as.length ed.length 0 0 S)[x]?=some (some i,some j)∧v=i∧KS S i j)∨(∃ i,(bothT as.length ed.length 0 0 S)[x]?=some (some i,none)∧v=90+(i:Int)∧i < as.length∧∀ j,¬ KS S i j)∨(∃ j,(bothT as.length ed.length 0 0 S)[x]?=some (none,some j)∧v=50+(j:Int)∧j < bs.length∧∀ i,¬ KS S i j):=by
  unfold bP at h
  rw [List.getElem?_map] at h
  cases e:(bothT as.length ed.length 0 0 S)[x]? with
  | none=>rw [e] at h;cases h
  | some c =>
    rw [e] at h
    have hv:nmT (bC as.length (aN ed)) (aN ed) c=v:=by cases h;rfl
    rcases (bothT_mem G.goodE c).mp (List.mem_of_getElem? e) with ⟨i,j,rfl,hk⟩ | ⟨i,a1,a2,rfl,a3⟩ | ⟨j,a1,a2,rfl,a3⟩
    · refine .inl ⟨i,j,rfl,?_,hk⟩
      rw [← hv]
      exact getD_of (G.named.mpr ⟨(G.lt hk).1,.inl ⟨rfl,j,hk⟩⟩)
    · refine .inr (.inl ⟨i,rfl,?_,a2,a3⟩)
      rw [← hv]
      exact getD_of (G.named.mpr ⟨a2,.inr ⟨rfl,a3⟩⟩)
    · refine .inr (.inr ⟨j,rfl,?_,G.len ▸ a2,a3⟩)
      rw [← hv]
      exact getD_of (G.last.mpr ⟨G.len ▸ a2,.inr ⟨rfl,a3⟩⟩)
theorem Gnd.bothV (G:Gnd as bs ed S) {x:Nat} {c:Tg} (h:(bothT as.length ed.length 0 0 S)[x]?=some c):(bP as.length ed S)[x]?=some (nmT (bC as.length (aN ed)) (aN ed) c):=by
  unfold bP;rw [List.getElem?_map,h];rfl
theorem Gnd.rBoth (G:Gnd as bs ed S):RowT S (bothT as.length ed.length 0 0 S) (bP as.length ed S) 50 130 where
  ct:=bothT_ct G.goodE
  kept:=fun x i j h=>by
    have hk:=((bothT_ct G.goodE).vs G.good.pw).1.sound _ _ _ h
    rw [G.bothV h]
    exact congrArg some (getD_of (G.named.mpr ⟨(G.lt hk).1,.inl ⟨rfl,j,hk⟩⟩))
  other:=fun x v h=>by
    have:=G.za
    have:=G.zb
    rcases G.bothI h with ⟨i,j,h1,_⟩ | ⟨i,_,rfl,h1,_⟩ | ⟨j,_,rfl,h1,_⟩
    · exact .inl ⟨i,j,h1⟩
    · exact .inr ⟨by exact aQ 0xf10c5a09a32093ff rfl,by exact aF 0xf11182091c5a09a4f011280900f rfl (by assumption) h1⟩
    · exact .inr ⟨by exact aQ 0xf10c3209a32093ff rfl,by exact aF 0xf11182091c3209a4f011280900f rfl this h1⟩
theorem Gnd.kn_nb (G:Gnd as bs ed S) {x y:Nat}:Kn (bC as.length (aN ed)) (bP as.length ed S) x y ↔ ∃ o,(bothT as.length ed.length 0 0 S)[y]?=some (some x,o):=by
  have z1:=G.za
  have z2:=G.zb
  constructor
  · rintro ⟨v,h1,h2⟩
    obtain ⟨hx,h1⟩:=G.named.mp h1
    rcases G.bothI h2 with ⟨i,j,e,rfl,hk⟩ | ⟨i,e,rfl,h3,h4⟩ | ⟨j,e,rfl,h3,h4⟩
    · have:=(G.lt hk).1
      rcases h1 with ⟨e1,_⟩ | ⟨e1,_⟩
      · have:i=x:=by exact aF 0xf11f81f102f1c0c5f rfl e1
        subst this;exact ⟨_,e⟩
      · exact (aO 0xf1119f2c5a09a1c5011280900f rfl z1 this e1).elim
    · rcases h1 with ⟨e1,_⟩ | ⟨e1,_⟩
      · exact (aO 0xf8119f1c2c5a09a5011280900f rfl z1 hx e1).elim
      · have:i=x:=by exact aF 0xf11f81f102f1c5a09a0c5a09a5f rfl e1
        subst this;exact ⟨_,e⟩
    · rcases h1 with ⟨e1,_⟩ | ⟨e1,_⟩ <;> lia
  · rintro ⟨o,h⟩
    refine ⟨_,?_,G.bothV h⟩
    rcases (bothT_mem G.goodE _).mp (List.mem_of_getElem? h) with ⟨i,j,e,hk⟩ | ⟨i,a1,a2,e,a3⟩ | ⟨j,a1,a2,e,a3⟩
    · cases e
      have:=(G.named (i:=x) (v:=(x:Int))).mpr ⟨(G.lt hk).1,.inl ⟨rfl,j,hk⟩⟩
      rw [this];exact congrArg some (getD_of this).symm
    · cases e
      have:=(G.named (i:=x) (v:=90+(x:Int))).mpr ⟨a2,.inr ⟨rfl,a3⟩⟩
      rw [this];exact congrArg some (getD_of this).symm
    · cases e
theorem Gnd.kn_bl (G:Gnd as bs ed S) {x y:Nat}:Kn (bP as.length ed S) (aN ed) x y ↔ ∃ o,(bothT as.length ed.length 0 0 S)[x]?=some (o,some y):=by
  have z1:=G.za
  have z2:=G.zb
  constructor
  · rintro ⟨v,h2,h1⟩
    obtain ⟨hx,h1⟩:=G.last.mp h1
    rcases G.bothI h2 with ⟨i,j,e,rfl,hk⟩ | ⟨i,e,rfl,h3,h4⟩ | ⟨j,e,rfl,h3,h4⟩
    · have:=(G.lt hk).1
      rcases h1 with ⟨i',e1,hk'⟩ | ⟨e1,_⟩
      · have:i=i':=by exact aF 0xf11f81f102f1c0c5f rfl e1
        subst this
        have:=(G.bas.mono.eq hk hk').mp rfl
        subst this;exact ⟨_,e⟩
      · exact (aO 0xf1119f2c3209a1c5011280900f rfl z1 this e1).elim
    · rcases h1 with ⟨i',e1,hk'⟩ | ⟨e1,_⟩
      · have:=(G.lt hk').1;exact (aO 0xf1819f0212c1c5a09a5280900f rfl z1 e1 this).elim
      · exact (aO 0xf8119f1c3209a2c5a09a5011280900f rfl z2 hx e1).elim
    · rcases h1 with ⟨i',e1,hk'⟩ | ⟨e1,_⟩
      · have:=(G.lt hk').1;exact (aO 0xf1819f0212c1c3209a5280900f rfl z1 e1 this).elim
      · have:j=y:=by exact aF 0xf11f81f102f1c3209a0c3209a5f rfl e1
        subst this;exact ⟨_,e⟩
  · rintro ⟨o,h⟩
    refine ⟨_,G.bothV h,?_⟩
    rcases (bothT_mem G.goodE _).mp (List.mem_of_getElem? h) with ⟨i,j,e,hk⟩ | ⟨i,a1,a2,e,a3⟩ | ⟨j,a1,a2,e,a3⟩
    · cases e
      rw [(G.last (j:=y) (v:=(i:Int))).mpr ⟨(G.lt hk).2,.inl ⟨i,rfl,hk⟩⟩]
      exact congrArg some (getD_of ((G.named (i:=i) (v:=(i:Int))).mpr ⟨(G.lt hk).1,.inl ⟨rfl,y,hk⟩⟩)).symm
    · cases e
    · cases e
      have:=(G.last (j:=y) (v:=50+(y:Int))).mpr ⟨G.len ▸ a2,.inr ⟨rfl,a3⟩⟩
      rw [this];exact congrArg some (getD_of this).symm
theorem Gnd.mono_nb (G:Gnd as bs ed S):MonoK (Kn (bC as.length (aN ed)) (bP as.length ed S)):=by
  have key:∀ x y x' y',Kn (bC as.length (aN ed)) (bP as.length ed S) x y→Kn (bC as.length (aN ed)) (bP as.length ed S) x' y'→y < y'→x < x':=fun x y x' y' h h' hy=>by
    obtain ⟨o,h⟩:=G.kn_nb.mp h
    obtain ⟨o',h'⟩:=G.kn_nb.mp h'
    exact (pw_get (bothT_pw G.goodE) h h' hy).1 _ _ rfl rfl
  intro x y x' y' h h'
  refine ⟨fun hx=>?_,key _ _ _ _ h h'⟩
  rcases Nat.lt_trichotomy y y' with h1 | h1 | h1
  · exact h1
  · subst h1
    obtain ⟨o,h⟩:=G.kn_nb.mp h
    obtain ⟨o',h'⟩:=G.kn_nb.mp h'
    rw [h] at h';cases h';exact aF 0xf10111f001f rfl hx
  · have:=key _ _ _ _ h' h h1;exact bF 0xf110321f011101f rfl hx this
theorem Gnd.mono_bl (G:Gnd as bs ed S):MonoK (Kn (bP as.length ed S) (aN ed)):=by
  have key:∀ x y x' y',Kn (bP as.length ed S) (aN ed) x y→Kn (bP as.length ed S) (aN ed) x' y'→x < x'→y < y':=fun x y x' y' h h' hx=>by
    obtain ⟨o,h⟩:=G.kn_bl.mp h
    obtain ⟨o',h'⟩:=G.kn_bl.mp h'
    exact (pw_get (bothT_pw G.goodE) h h' hx).2 _ _ rfl rfl
  intro x y x' y' h h'
  refine ⟨key _ _ _ _ h h',fun hy=>?_⟩
  rcases Nat.lt_trichotomy x x' with h1 | h1 | h1
  · exact h1
  · subst h1
    obtain ⟨o,h⟩:=G.kn_bl.mp h
    obtain ⟨o',h'⟩:=G.kn_bl.mp h'
    rw [h] at h';cases h';exact aF 0xf10111f001f rfl hy
  · have:=key _ _ _ _ h' h h1;exact bF 0xf110321f011101f rfl hy this
theorem Kn.swap {nx ny:List Int} {x y:Nat} (h:Kn nx ny x y):Kn ny nx y x:=let ⟨v,a,b⟩:=h;⟨v,b,a⟩
theorem Gnd.mono_bn (G:Gnd as bs ed S):MonoK (Kn (bP as.length ed S) (bC as.length (aN ed))):=fun x y x' y' h h'=>(G.mono_nb _ _ _ _ h.swap h'.swap).symm
theorem Gnd.big_kn (G:Gnd as bs ed S) {nx ny:List Int} {x y:Nat} {v:Int} (h:(nx.map (ltr as))[x]?=some v) (h':(ny.map (ltr as))[y]?=some v) (hv:¬ v < 50):Kn nx ny x y:=by
  obtain ⟨w,e1,rfl⟩:=map_get h
  obtain ⟨w',e2,e3⟩:=map_get h'
  have hw:¬ w < 50:=fun q=>hv (G.ltrS q)
  have hw':¬ w' < 50:=fun q=>hv (e3 ▸ G.ltrS q)
  rw [ltr_big hw,ltr_big hw'] at e3
  exact ⟨w,e1,e3 ▸ e2⟩
theorem Kn.mm {nx ny:List Int} {f:Int→Int} {x y:Nat} (h:Kn nx ny x y):mm (nx.map f) (ny.map f) x y=true:=by
  obtain ⟨v,h1,h2⟩:=h
  exact mm_some.mpr ⟨f v,by rw [List.getElem?_map,h1];rfl,by rw [List.getElem?_map,h2];rfl⟩
theorem run_or {X Y:List Int} {x y n:Nat} (hr:Run (mm X Y) x y n):((∀ t,t < n→∃ v,X[x+t]?=some v∧v < 50)∧∀ t,t < n→∃ v,Y[y+t]?=some v∧v < 50)∨∃ t v,t < n∧X[x+t]?=some v∧Y[y+t]?=some v∧¬ v < 50:=by
  by_cases h:∃ t v,t < n∧X[x+t]?=some v∧Y[y+t]?=some v∧¬ v < 50
  · exact .inr h
  · refine .inl ⟨fun t ht=>?_,fun t ht=>?_⟩
    · obtain ⟨v,e1,e2⟩:=mm_some.mp (hr t ht)
      exact ⟨v,e1,Classical.not_not.mp fun hv=>h ⟨t,v,ht,e1,e2,hv⟩⟩
    · obtain ⟨v,e1,e2⟩:=mm_some.mp (hr t ht)
      exact ⟨v,e2,Classical.not_not.mp fun hv=>h ⟨t,v,ht,e1,e2,hv⟩⟩
theorem Gnd.namedS (G:Gnd as bs ed S) {x:Nat} {v:Int} (h:((bC as.length (aN ed)).map (ltr as))[x]?=some v) (hv:v < 50):∃ j,KS S x j:=by
  obtain ⟨w,e,rfl⟩:=map_get h
  have:=G.ltrI hv
  obtain ⟨_,⟨_,hk⟩ | ⟨rfl,_⟩⟩:=G.named.mp e
  · exact hk
  · exact (aQ 0xf19f32090c5a09a4f rfl this).elim
theorem Gnd.lastS (G:Gnd as bs ed S) {y:Nat} {v:Int} (h:((aN ed).map (ltr as))[y]?=some v) (hv:v < 50):∃ i,KS S i y:=by
  obtain ⟨w,e,rfl⟩:=map_get h
  have:=G.ltrI hv
  obtain ⟨_,⟨i,_,hk⟩ | ⟨rfl,_⟩⟩:=G.last.mp e
  · exact ⟨i,hk⟩
  · exact (aQ 0xf19f32090c3209a4f rfl this).elim
theorem Gnd.link_nb (G:Gnd as bs ed S) {x y:Nat} (h:mm ((bC as.length (aN ed)).map (ltr as)) ((bP as.length ed S).map (ltr as)) x y=true):(∃ y',Kn (bC as.length (aN ed)) (bP as.length ed S) x y')∧∃ x',Kn (bC as.length (aN ed)) (bP as.length ed S) x' y:=by
  obtain ⟨v,e1,e2⟩:=mm_some.mp h
  rcases Int.lt_or_le v 50 with hv | hv
  · have C:=G.sRow G.rBoth (by decide)
    obtain ⟨j,hk⟩:=G.namedS e1 hv
    obtain ⟨i',j',hp⟩:=C.small _ _ e2 hv
    obtain ⟨y',hp'⟩:=C.vs.onto _ _ hk
    exact ⟨⟨y',G.sNamed.kn C.toSide ⟨rfl,hk⟩ hp'⟩,⟨i',G.sNamed.kn C.toSide ⟨rfl,C.vs.sound _ _ _ hp⟩ hp⟩⟩
  · have:=G.big_kn e1 e2 (by exact lqx [] [_] 0xf113209046f032093f rfl hv)
    exact ⟨⟨_,this⟩,⟨_,this⟩⟩
theorem Gnd.link_bl (G:Gnd as bs ed S) {x y:Nat} (h:mm ((bP as.length ed S).map (ltr as)) ((aN ed).map (ltr as)) x y=true):(∃ y',Kn (bP as.length ed S) (aN ed) x y')∧∃ x',Kn (bP as.length ed S) (aN ed) x' y:=by
  obtain ⟨v,e1,e2⟩:=mm_some.mp h
  rcases Int.lt_or_le v 50 with hv | hv
  · have C:=G.sRow G.rBoth (by decide)
    obtain ⟨i,hk⟩:=G.lastS e2 hv
    obtain ⟨i',j',hp⟩:=C.small _ _ e1 hv
    obtain ⟨x',hp'⟩:=C.vs.onto _ _ hk
    exact ⟨⟨j',C.toSide.kn G.sLast hp ⟨rfl,C.vs.sound _ _ _ hp⟩⟩,⟨x',C.toSide.kn G.sLast hp' ⟨rfl,hk⟩⟩⟩
  · have:=G.big_kn e1 e2 (by exact lqx [] [_] 0xf113209046f032093f rfl hv)
    exact ⟨⟨_,this⟩,⟨_,this⟩⟩
theorem mm_swap {X Y:List Int} {x y:Nat} (h:mm X Y x y=true):mm Y X y x=true:=by
  obtain ⟨v,a,b⟩:=mm_some.mp h
  exact mm_some.mpr ⟨v,b,a⟩
theorem Gnd.ask_named_both (G:Gnd as bs ed S):aZ (idxs (bC as.length (aN ed)) (bP as.length ed S)) 0 (ro (mm ((bC as.length (aN ed)).map (ltr as)) ((bP as.length ed S).map (ltr as))) (bO ((bC as.length (aN ed)).map (ltr as)) ((bP as.length ed S).map (ltr as)))):=by
  have C:=G.sRow G.rBoth (by decide)
  refine ask (by simp) (by simp) (fun x y h=>h.mm) G.mono_nb fun x y n hn hr=>?_
  rcases run_or hr with ⟨l1,l2⟩ | ⟨t,v,ht,e1,e2,hv⟩
  · exact dom_fwd G.bas PA.vs C.vs (fun x y i j h h'=>G.sNamed.kn C.toSide h h') hn hr (readA_a G.namedA l1) (C.readB G.bas hn l2)
  · exact dom_self hn (run_diag G.mono_nb (fun x y h=>G.link_nb h) hr ht (G.big_kn e1 e2 hv))
theorem Gnd.ask_both_named (G:Gnd as bs ed S):aZ (idxs (bP as.length ed S) (bC as.length (aN ed))) 0 (ro (mm ((bP as.length ed S).map (ltr as)) ((bC as.length (aN ed)).map (ltr as))) (bO ((bP as.length ed S).map (ltr as)) ((bC as.length (aN ed)).map (ltr as)))):=by
  have C:=G.sRow G.rBoth (by decide)
  refine ask (by simp) (by simp) (fun x y h=>h.mm) G.mono_bn fun x y n hn hr=>?_
  rcases run_or hr with ⟨l1,l2⟩ | ⟨t,v,ht,e1,e2,hv⟩
  · exact dom_bwd G.bas C G.sNamed G.namedA hn hr l1
  · exact dom_self hn (run_diag G.mono_bn (fun x y h=>by
      obtain ⟨⟨y',a⟩,⟨x',b⟩⟩:=G.link_nb (mm_swap h)
      exact ⟨⟨x',b.swap⟩,⟨y',a.swap⟩⟩) hr ht (G.big_kn e1 e2 hv))
theorem Gnd.ask_both_last (G:Gnd as bs ed S):aZ (idxs (bP as.length ed S) (aN ed)) 0 (ro (mm ((bP as.length ed S).map (ltr as)) ((aN ed).map (ltr as))) (bO ((bP as.length ed S).map (ltr as)) ((aN ed).map (ltr as)))):=by
  have C:=G.sRow G.rBoth (by decide)
  refine ask (by simp) (by simp) (fun x y h=>h.mm) G.mono_bl fun x y n hn hr=>?_
  rcases run_or hr with ⟨l1,l2⟩ | ⟨t,v,ht,e1,e2,hv⟩
  · exact dom_fwd G.bas C.vs (PB.vs G.bas.mono) (fun x y i j h h'=>C.toSide.kn G.sLast h h') hn hr (C.readA hn l1) (readB_b G.lastB l2)
  · exact dom_self hn (run_diag G.mono_bl (fun x y h=>G.link_bl h) hr ht (G.big_kn e1 e2 hv))
end
noncomputable def up (a:Int) (n:Nat):List Int:=(List.range n).map fun (t:Nat)=>a+(t:Int)
theorem up_length (a:Int) (n:Nat):(up a n).length=n:=by simp [up]
theorem up_mem {a:Int} {n:Nat} {v:Int} (h:v∈up a n):a≤v∧v < a+n:=by
  unfold up at h
  obtain ⟨t,ht,rfl⟩:=List.mem_map.mp h
  rw [List.mem_range] at ht;exact lqx [_,_] [_] 0xf11f1f1c0a0c0a40c0a037f101f rfl ht
noncomputable def blotOne (nums:List Int) (b:Int):PyData→List Int
  | .tuple [.str t,.int i1,.int i2,.int _,.int _]=>if PyData.eqv (.str t) (.str "equal") then up i1 (i2 - i1).toNat else up b (1+(nums.getD (i1.toNat % nums.length) 0).fmod 3).toNat
  | _=>[]
noncomputable def bD (nums:List Int):Int→List PyData→List Int
  | _,[]=>[]
  | b,d :: r=>blotOne nums (b+3) d++bD nums (b+3) r
noncomputable def blotRow (nums:List Int) (ahead behind blot:Int) (codes:List PyData):List Int:=up blot (ahead.fmod 3).toNat++bD nums blot codes++up (blot+3 * codes.length+3) (behind.fmod 3).toNat
theorem blotAll_append (nums:List Int):∀ (c d:List PyData) (b:Int),bD nums b (c++d)=bD nums b c++bD nums (b+3 * c.length) d
  | [],d,b=>by simp [bD]
  | x :: c,d,b=>by
    rw [List.cons_append,bD,bD,blotAll_append nums c d,List.append_assoc,List.length_cons]
    congr 3;exact lqx [_] [_] 0xf1f1f180ac03b0a0c03b380aa5ff rfl
theorem blotOne_code (nums:List Int) (b:Int) (t:Str) (i1 i2 j1 j2:Nat):blotOne nums b (code t i1 i2 j1 j2)=if PyData.eqv (.str t) (.str "equal") then up i1 (i2 - i1) else up b (1+(nums.getD (i1 % nums.length) 0).fmod 3).toNat:=by
  show (if _ then up (i1:Int) ((i2:Int) - (i1:Int)).toNat else up b (1+(nums.getD ((i1:Int).toNat % nums.length) 0).fmod 3).toNat)=_
  rw [Int.toNat_natCast,show ((i2:Int) - (i1:Int)).toNat=i2 - i1 by exact aF 0xf1108f10008ff118f1008fff108f181f1810fff322ff100081c0cd5 rfl]
theorem fmod3 (v:Int):0≤v.fmod 3∧v.fmod 3 < 3:=⟨Int.fmod_nonneg_of_pos _ (by decide),Int.fmod_lt_of_pos _ (by decide)⟩
theorem gap_blots (nums:List Int) (b:Int) (i ai j bj:Nat):∃ m,m≤3∧bD nums b (gap i ai j bj)=up (b+3) m∧(gap i ai j bj).length≤1∧(¬ (i=ai∧j=bj)→0 < m∧(gap i ai j bj).length=1)∧((gap i ai j bj).length=0→m=0):=by
  unfold gap
  by_cases h:i=ai∧j=bj
  · rw [if_pos h]
    exact ⟨0,by exact lqx [] [] 0xf138080ff rfl,rfl,by simp,fun h'=>absurd h h',fun _=>rfl⟩
  · rw [if_neg h]
    have h3:=fmod3 (nums.getD (i % nums.length) 0)
    refine ⟨(1+(nums.getD (i % nums.length) 0).fmod 3).toNat,by exact lqx [] [_] 0xf108f118f3800f3804f08018a5 rfl h3.2,?_,by simp,fun _=>⟨by exact lqx [] [_] 0xf1010f111f0081f0083f08018a5 rfl h3.1,by simp⟩,fun h=>by simp at h⟩
    have hne:PyData.eqv (.str (if ai=i then "insert" else if j=bj then "delete" else "replace")) (.str "equal")=false:=by
      split
      · decide
      · split <;> decide
    rw [bD,bD,List.append_nil,blotOne_code,hne];rfl
noncomputable abbrev TV:=Tg×Int
noncomputable def OKp (lo hi:Int) (p:TV):Prop:=(∃ (i j:Nat),p.1=(some i,some j)∧p.2=(i:Int))∨(p.1=(none,none)∧lo≤p.2∧p.2 < hi)
noncomputable def blots (l:List Int):List TV:=l.map fun v=>((none,none),v)
theorem blots_un (l:List Int):∀ c∈(blots l).map (·.1),Un c:=fun c hc=>by
  unfold blots at hc
  rw [List.map_map] at hc
  obtain ⟨v,_,rfl⟩:=List.mem_map.mp hc
  intro i j e;cases e
theorem blots_snd (l:List Int):(blots l).map (·.2)=l:=by
  unfold blots;rw [List.map_map];exact List.map_id' l
theorem blots_ok {lo hi:Int} {l:List Int} (h:∀ v∈l,lo≤v∧v < hi):∀ p∈blots l,OKp lo hi p:=fun p hp=>by
  unfold blots at hp
  obtain ⟨v,hv,rfl⟩:=List.mem_map.mp hp
  exact .inr ⟨rfl,h v hv⟩
noncomputable def eqZ (a b n:Nat):List TV:=(List.range n).map fun t=>((some (a+t),some (b+t)),((a+t:Nat):Int))
theorem eqZ_fst (a b n:Nat):(eqZ a b n).map (·.1)=eqT a b n:=by unfold eqZ eqT;rw [List.map_map];rfl
theorem eqZ_snd (a b n:Nat):(eqZ a b n).map (·.2)=up a n:=by
  unfold eqZ up;rw [List.map_map]
  refine List.map_congr_left fun t _=>?_
  show ((a+t:Nat):Int)=(a:Int)+(t:Int)
  exact aF 0xf1f1f1c0ca10ac5ff rfl
theorem OKp.mono {lo hi lo' hi':Int} {p:TV} (h:OKp lo hi p) (h1:lo'≤lo) (h2:hi≤hi'):OKp lo' hi' p:=by
  rcases h with h | ⟨a,b,c⟩
  · exact .inl h
  · exact .inr ⟨a,by exact lqx [] [_,_,_] 0xf111203f213103f rfl h1 b,by exact lqx [] [_,_,_] 0xf111124f024103f rfl h2 c⟩
theorem row_tags (nums:List Int) {la lb:Nat} {b:Bool} {i j:Nat} {S:List T3} (g:Good la lb b i j S):∀ blot:Int,∃ Z:List TV,CT b S (Z.map (·.1))∧Z.map (·.2)=bD nums blot (opc la lb i j S)∧∀ p∈Z,OKp (blot+3) (blot+3 * (opc la lb i j S).length+3) p:=by
  induction g with
  | @nil b i j _ _ =>
    intro blot
    obtain ⟨m,h1,h2,h3,h4,h5⟩:=gap_blots nums blot i la j lb
    refine ⟨blots (up (blot+3) m),.nil (blots_un _),?_,blots_ok fun v hv=>?_⟩
    · rw [blots_snd];exact h2.symm
    · have hu:=up_mem hv
      show _∧v < blot+3 * ((gap i la j lb).length:Int)+3
      rcases Nat.eq_zero_or_pos m with h0 | h0
      · subst h0;simp [up] at hv
      · have hg:(gap i la j lb).length=1:=by
          rcases Nat.eq_zero_or_pos (gap i la j lb).length with q | q
          · have:=h5 q;exact aF 0xf811812f08020081f rfl h0 this
          · exact aQ 0xf101f11f1802f00811800f rfl h3 q
        exact lqx [_,_] [_,_] 0xf31011f101f381c03b0aa141380a37f18120c380aa141380a33800f rfl h1 hu.1 hu.2 hg
  | @cons b i j ai bj n r h1 h2 h3 h4 h5 ih =>
    intro blot
    obtain ⟨m,g1,g2,g3,g4,g5⟩:=gap_blots nums blot i ai j bj
    obtain ⟨Z,z1,z2,z3⟩:=ih (blot+3 * (gap i ai j bj).length+3)
    have hl:(opc la lb i j ((ai,bj,n) :: r)).length=(gap i ai j bj).length+1+(opc la lb (ai+n) (bj+n) r).length:=by
      conv=>lhs;unfold opc
      rw [List.length_append,List.length_cons];exact aF 0xf1f1f1180aa181a0a2ff rfl
    refine ⟨blots (up (blot+3) m)++(eqZ ai bj n++Z),?_,?_,fun p hp=>?_⟩
    · rw [List.map_append,List.map_append,eqZ_fst]
      refine .cons (blots_un _) (fun hb e=>?_) z1
      have hm:=(g4 (h4 hb)).1
      have:=congrArg List.length e
      rw [List.length_map,show (blots (up (blot+3) m)).length=m by unfold blots;rw [List.length_map,up_length]] at this
      simp only [List.length_nil] at this;exact aQ 0xf819f08020081f rfl hm this
    · rw [List.map_append,List.map_append,eqZ_snd,blots_snd,z2]
      conv=>rhs;unfold opc
      rw [blotAll_append,g2,bD,blotOne_code,show PyData.eqv (.str "equal") (.str "equal")=true by decide,if_pos rfl,show ai+n - ai=n by exact aF 0xf11f110ff18f108ff122ff010a0 rfl]
    · rw [hl]
      rcases List.mem_append.mp hp with hp | hp
      · refine blots_ok (fun v hv=>?_) p hp
        have hu:=up_mem hv
        rcases Nat.eq_zero_or_pos m with h0 | h0
        · subst h0;simp [up] at hv
        · have hg:(gap i ai j bj).length=1:=by
            rcases Nat.eq_zero_or_pos (gap i ai j bj).length with q | q
            · have:=g5 q;exact aF 0xf811812f08020081f rfl h0 this
            · exact aQ 0xf101f11f1802f00811800f rfl g3 q
          exact lqx [_,_,_] [_,_] 0xf1011f101f382181aac03b0aa141380a37f0c380aa141380a33800f rfl g1 hu.1 hu.2
      · rcases List.mem_append.mp hp with hp | hp
        · unfold eqZ at hp
          obtain ⟨t,_,rfl⟩:=List.mem_map.mp hp
          exact .inl ⟨_,_,rfl,rfl⟩
        · exact (z3 p hp).mono (by exact lqx [_] [_] 0xf138380c03b0aaa380a3ff rfl) (by exact lqx [_,_] [_] 0xf1381180aac03b0aa381c03b380c03b0aaaa3ff rfl)
theorem CT.pre {S:List T3} {T G:List Tg} (h:CT true S T) (hG:∀ c∈G,Un c):CT true S (G++T):=by
  cases h with
  | nil h'=>exact .nil fun c hc=>(List.mem_append.mp hc).elim (hG c) (h' c)
  | cons h1 h2 h3 =>
    rw [← List.append_assoc]
    exact .cons (fun c hc=>(List.mem_append.mp hc).elim (hG c) (h1 c)) (fun e=>by cases e) h3
theorem CT.suf {b:Bool} {S:List T3} {T G:List Tg} (h:CT b S T) (hG:∀ c∈G,Un c):CT b S (T++G):=by
  induction h with
  | nil h'=>exact .nil fun c hc=>(List.mem_append.mp hc).elim (h' c) (hG c)
  | cons h1 h2 h3 ih =>
    rw [List.append_assoc,List.append_assoc]
    exact .cons h1 h2 ih
theorem blotRow_tags (nums:List Int) {la lb:Nat} {S:List T3} (g:Good la lb true 0 0 S) (ahead behind blot:Int):∃ T,RowT S T (blotRow nums ahead behind blot (opc la lb 0 0 S)) blot (blot+3 * (opc la lb 0 0 S).length+6):=by
  obtain ⟨Z,z1,z2,z3⟩:=row_tags nums g blot
  have a3:=fmod3 ahead
  have b3:=fmod3 behind
  have hok:∀ p∈blots (up blot (ahead.fmod 3).toNat)++Z++blots (up (blot+3 * (opc la lb 0 0 S).length+3) (behind.fmod 3).toNat),OKp blot (blot+3 * (opc la lb 0 0 S).length+6) p:=fun p hp=>by
    rcases List.mem_append.mp hp with hp | hp
    · rcases List.mem_append.mp hp with hp | hp
      · exact blots_ok (fun v hv=>by have:=up_mem hv;exact lqx [_] [_,_,_] 0xf100108f10118ff101f680c03b1aa242137f1c1a242133804f0805 rfl a3.2 this.1 this.2) p hp
      · exact (z3 p hp).mono (by exact lqx [] [_] 0xf1380a03ff rfl) (by exact lqx [_] [_] 0xf1680c03b0aa380c03b0aa3ff rfl)
    · exact blots_ok (fun v hv=>by have:=up_mem hv;exact lqx [_] [_,_,_] 0xf100108f10118ff101f680c03b1aa242137f1c380c03b1aaa242380c03b1aa33804f0805 rfl b3.2 this.1 this.2) p hp
  have hN:(blots (up blot (ahead.fmod 3).toNat)++Z++blots (up (blot+3 * (opc la lb 0 0 S).length+3) (behind.fmod 3).toNat)).map (·.2)=blotRow nums ahead behind blot (opc la lb 0 0 S):=by
    rw [List.map_append,List.map_append,blots_snd,blots_snd,z2];rfl
  have hT:CT true S ((blots (up blot (ahead.fmod 3).toNat)++Z++blots (up (blot+3 * (opc la lb 0 0 S).length+3) (behind.fmod 3).toNat)).map (·.1)):=by
    rw [List.map_append,List.map_append]
    exact (z1.pre (blots_un _)).suf (blots_un _)
  generalize blots (up blot (ahead.fmod 3).toNat)++Z++blots (up (blot+3 * (opc la lb 0 0 S).length+3) (behind.fmod 3).toNat)=W at hok hN hT
  refine ⟨W.map (·.1),hT,fun x i j h=>?_,fun x v h=>?_⟩
  · unfold PT at h
    rw [List.getElem?_map] at h
    cases e:W[x]? with
    | none=>rw [e] at h;cases h
    | some p =>
      rw [e] at h
      have hp:p.1=(some i,some j):=Option.some.inj h
      rw [← hN,List.getElem?_map,e]
      rcases hok p (List.mem_of_getElem? e) with ⟨i',j',e1,e2⟩ | ⟨e1,_⟩
      · rw [hp] at e1;cases e1
        show some p.2=_
        rw [e2]
      · rw [hp] at e1;cases e1
  · rw [← hN,List.getElem?_map] at h
    cases e:W[x]? with
    | none=>rw [e] at h;cases h
    | some p =>
      rw [e] at h
      have hp:p.2=v:=Option.some.inj h
      rcases hok p (List.mem_of_getElem? e) with ⟨i',j',e1,e2⟩ | ⟨e1,e2⟩
      · refine .inl ⟨i',j',?_⟩
        unfold PT
        rw [List.getElem?_map,e]
        exact congrArg some e1
      · rw [hp] at e2;exact .inr e2
theorem Good.count {la lb:Nat} {b:Bool} {i j:Nat} {S:List T3} (g:Good la lb b i j S):S.length+i≤la∧S.length+j≤lb:=by
  induction g with
  | nil h1 h2=>simp only [List.length_nil];exact bF 0xf101f11f3208a01008a07f320100f rfl h1 h2
  | cons h1 h2 h3 h4 h5 ih=>simp only [List.length_cons];exact lq8 0xf101101f11011f072185aa060185aa07f0743a5a0641a5a04081320100f rfl h1 h2 h3 ih.1 ih.2
theorem ro_count (as bs:List Int):(ro (mm as bs) (bO as bs)).length≤as.length∧(ro (mm as bs) (bO as bs)).length≤bs.length:=by
  have:=(ro_spec (mm as bs) (Nat.zero_le as.length) (Nat.zero_le bs.length)).good'.count
  exact this
theorem pw_len:∀ (l:List Nat) (a m:Nat),a≤m→l.Pairwise (· < ·)→(∀ x∈l,a≤x∧x < m)→l.length+a≤m
  | [],a,m,h,_,_=>by simpa using h
  | x :: l,a,m,h,hp,hb=>by
    rw [List.pairwise_cons] at hp
    have hx:=hb x List.mem_cons_self
    have:=pw_len l (x+1) m (by exact aF 0xf111180a0f101f rfl hx.2) hp.2 fun y hy=>⟨hp.1 y hy,(hb y (List.mem_cons_of_mem _ hy)).2⟩
    rw [List.length_cons];exact bF 0xf11130182aa0f3181a2a0100f rfl hx.1 this
section
variable {as bs ed:List Int} {S:List T3} {T T':List Tg} {N N':List Int} {lo hi lo' hi':Int}
noncomputable def plA (T:List Tg) (x:Nat):Nat:=match T[x]? with
  | some (some i,_)=>i
  | _=>0
theorem plA_of {x i j:Nat} (h:PT T x i j):plA T x=i:=by unfold plA;unfold PT at h;rw [h]
theorem Gnd.count_rows (G:Gnd as bs ed S) (R:RowT S T N lo hi) (R':RowT S T' N' lo' hi') (hlo:50≤lo) (hlo':50≤lo') (hh:hi≤lo'∨hi'≤lo):(ro (mm (N.map (ltr as)) (N'.map (ltr as))) (bO (N.map (ltr as)) (N'.map (ltr as)))).length≤40:=by
  have hz:=G.za
  have C:=G.sRow R hlo
  have hro:=ro_spec (mm (N.map (ltr as)) (N'.map (ltr as))) (Nat.zero_le (N.map (ltr as)).length) (Nat.zero_le (N'.map (ltr as)).length)
  show (ro _ (0,(N.map (ltr as)).length,0,(N'.map (ltr as)).length)).length≤40
  generalize ro (mm (N.map (ltr as)) (N'.map (ltr as))) (0,(N.map (ltr as)).length,0,(N'.map (ltr as)).length)=Q at hro
  have hp:∀ c∈Q,∃ i j,PT T c.1 i j:=fun c hc=>by
    obtain ⟨h0,_,hr⟩:=hro.mem c hc
    obtain ⟨v,e1,e2⟩:=mm_some.mp (hr 0 h0)
    rw [Nat.add_zero] at e1 e2
    refine C.small _ v e1 ?_
    rcases Int.lt_or_le v 50 with hv | hv
    · exact hv
    · have a:=R.big G e1 (by exact lqx [] [_] 0xf113209046f032093f rfl hv)
      have b:=R'.big G e2 (by exact lqx [] [_] 0xf113209046f032093f rfl hv)
      exact lqx [] [_,_,_,_,_] 0xf100101f11001f320914f0433238414133214103f rfl a.1 a.2 b.1 b.2 hh
  have pw:=hro.good'.pw
  have:=pw_len (Q.map fun c=>plA T c.1) 0 40 (by exact lqx [] [] 0xf12809080ff rfl) (by
    rw [List.pairwise_map]
    refine List.Pairwise.imp_of_mem (fun {c d} hc hd h=>?_) pw
    obtain ⟨i,j,h1⟩:=hp c hc
    obtain ⟨i',j',h2⟩:=hp d hd
    rw [plA_of h1,plA_of h2]
    have:=(hro.mem c hc).1
    exact (C.vs.mono _ _ _ _ _ _ h1 h2).mp (by have:=h.1;exact aO 0xf111211f201a00081f rfl (by assumption) this)) (fun x hx=>by
    obtain ⟨c,hc,rfl⟩:=List.mem_map.mp hx
    obtain ⟨i,j,h1⟩:=hp c hc
    rw [plA_of h1]
    have:=(G.lt (C.vs.sound _ _ _ h1)).1
    exact aF 0xf111f1f28091110807f011280900f rfl hz this)
  rw [List.length_map] at this;exact aQ 0xf11280900f2809080a0f rfl this
end
theorem RO.sub {m:Mt} {alo ahi blo bhi:Nat} {S:List T3} (h:RO m alo ahi blo bhi S):∀ (l:List T3) (c:T3) (mid:List T3) (c':T3) (r:List T3) (n0 n1:Nat) (a0 b0:Nat),a0+n0=alo→b0+n0=blo→(a0,b0,n0) :: S++[(ahi,bhi,n1)]=l++c :: mid++c' :: r→RO m (c.1+c.2.2) c'.1 (c.2.1+c.2.2) c'.2.1 mid:=by
  induction h with
  | @none alo ahi blo bhi i j b =>
    intro l c mid c' r n0 n1 a0 b0 e1 e2 e
    have hl:=congrArg List.length e
    simp only [List.length_append,List.length_cons,List.length_nil] at hl
    have h1:l=[]:=List.length_eq_zero_iff.mp (by exact aO 0xf1f11f0802f182a181a0aa1808a1808aa2f rfl hl)
    have h2:mid=[]:=List.length_eq_zero_iff.mp (by exact aO 0xf1f11f0812f182a181a0aa1808a1808aa2f rfl hl)
    have h3:r=[]:=List.length_eq_zero_iff.mp (by exact aO 0xf1f11f0822f182a181a0aa1808a1808aa2f rfl hl)
    subst h1 h2 h3
    simp only [List.nil_append,List.cons_append,List.cons.injEq,and_true] at e
    obtain ⟨rfl,rfl⟩:=e
    simp only
    rw [e1,e2]
    exact .none b
  | @some alo ahi blo bhi i j k lS rS b hk h1 h2 ih1 ih2 =>
    intro l c mid c' r n0 n1 a0 b0 e1 e2 e
    have hS:=RO.some b hk h1 h2
    have e':((a0,b0,n0) :: lS)++((i,j,k) :: (rS++[(ahi,bhi,n1)]))=(l++c :: mid)++c' :: r:=by
      rw [← e];simp
    rcases List.append_eq_append_iff.mp e' with ⟨u,hu1,hu2⟩ | ⟨u,hu1,hu2⟩
    · -- l++c :: mid=((a0,..) :: lS)++u, (i,j,k) :: ..=u++c' :: r
      cases u with
      | nil =>
        rw [List.nil_append,List.cons.injEq] at hu2
        rw [List.append_nil] at hu1
        obtain ⟨rfl,_⟩:=hu2
        exact ih1 l c mid (i,j,k) [] n0 k a0 b0 e1 e2 (by rw [hu1])
      | cons t u =>
        rw [List.cons_append,List.cons.injEq] at hu2
        obtain ⟨rfl,hu2⟩:=hu2
        rcases List.append_eq_append_iff.mp hu1 with ⟨v,hv1,hv2⟩ | ⟨v,hv1,hv2⟩
        · -- (a0..) :: lS=l++v,c :: mid=v++(i,j,k) :: u
          cases v with
          | nil =>
            rw [List.nil_append,List.cons.injEq] at hv2
            obtain ⟨rfl,rfl⟩:=hv2
            exact ih2 [] (i,j,k) mid c' r k n1 i j rfl rfl (by rw [List.nil_append,List.cons_append,hu2,List.cons_append])
          | cons s v =>
            rw [List.cons_append,List.cons.injEq] at hv2
            obtain ⟨rfl,rfl⟩:=hv2
            have A:=ih1 l c v (i,j,k) [] n0 k a0 b0 e1 e2 (by rw [hv1])
            have B:=ih2 [] (i,j,k) u c' r k n1 i j rfl rfl (by rw [List.nil_append,List.cons_append,hu2,List.cons_append])
            refine .some (i:=i) (j:=j) (k:=k) ⟨?_,b.run,fun e=>by exact lq6 0xf8135a4232a127f08020081f rfl hk e,fun x y n hn hw hr=>?_⟩ hk A B
            · have hc:c∈(a0,b0,n0) :: lS:=by rw [hv1];simp
              have hc':c'∈rS++[(ahi,bhi,n1)]:=by rw [hu2];simp
              have g1:c.1+c.2.2≤i∧c.2.1+c.2.2≤j:=by
                rcases List.mem_cons.mp hc with rfl | hc
                · obtain ⟨w1,w2,w3,w4⟩:=b.win
                  simp only;exact lq7 0xf10801f1081f613a0510a07f640520413a2210a2f rfl e1 e2 w1 w3
                · obtain ⟨_,⟨a1,a2,a3,a4⟩,_⟩:=h1.mem c hc
                  exact lq5 0xf101f11f413a0210a07f413a0210a0f rfl a2 a4
              have g2:i+k≤c'.1∧j+k≤c'.2.1:=by
                rcases List.mem_append.mp hc' with hc | hc
                · obtain ⟨_,⟨a1,a2,a3,a4⟩,_⟩:=h2.mem c' hc
                  exact lq5 0xf101f11f413a0210a07f413a0210a0f rfl a1 a3
                · rw [List.mem_singleton] at hc
                  subst hc
                  obtain ⟨w1,w2,w3,w4⟩:=b.win
                  simp only;exact lq5 0xf101f11f413a0210a07f413a0210a0f rfl w2 w4
              exact ⟨g1.1,g2.1,g1.2,g2.2⟩
            · refine b.best x y n hn ?_ hr
              have hc:c∈(a0,b0,n0) :: lS:=by rw [hv1];simp
              have hc':c'∈rS++[(ahi,bhi,n1)]:=by rw [hu2];simp
              obtain ⟨w1,w2,w3,w4⟩:=hw
              have g1:alo≤c.1+c.2.2∧blo≤c.2.1+c.2.2:=by
                rcases List.mem_cons.mp hc with rfl | hc
                · simp only;exact lq5 0xf101f11f13a4010a207f413a2210a2f rfl e1 e2
                · obtain ⟨_,⟨a1,a2,a3,a4⟩,_⟩:=h1.mem c hc
                  exact lq5 0xf101f11f43a2041a007f320100f rfl a1 a3
              have g2:c'.1≤ahi∧c'.2.1≤bhi:=by
                rcases List.mem_append.mp hc' with hc | hc
                · obtain ⟨_,⟨a1,a2,a3,a4⟩,_⟩:=h2.mem c' hc
                  exact lq5 0xf101f11f4302007f413a0210a0f rfl a2 a4
                · rw [List.mem_singleton] at hc
                  subst hc;simp only;exact aF 0xf1f1f1100007ff rfl
              exact ⟨by exact bF 0xf111230f10a30210a0f rfl w1 g1.1,by exact bF 0xf111310a0f320210a0f rfl w2 g2.1,by exact bF 0xf111230f10a30210a0f rfl w3 g1.2,by exact bF 0xf111310a0f320210a0f rfl w4 g2.2⟩
        · -- l=(a0..) :: lS++v,(i,j,k) :: u=v++c :: mid
          cases v with
          | nil =>
            rw [List.nil_append,List.cons.injEq] at hv2
            obtain ⟨rfl,rfl⟩:=hv2
            exact ih2 [] (i,j,k) u c' r k n1 i j rfl rfl (by rw [List.nil_append,List.cons_append,hu2,List.cons_append])
          | cons s v =>
            rw [List.cons_append,List.cons.injEq] at hv2
            obtain ⟨rfl,rfl⟩:=hv2
            exact ih2 ((i,j,k) :: v) c mid c' r k n1 i j rfl rfl (by simp only [List.cons_append,List.append_assoc] at hu2 ⊢;rw [hu2])
    · -- ((a0,..) :: lS)=(l++c :: mid)++u,c' :: r=u++(i,j,k) :: ..
      cases u with
      | nil =>
        rw [List.nil_append,List.cons.injEq] at hu2
        rw [List.append_nil] at hu1
        obtain ⟨rfl,_⟩:=hu2
        exact ih1 l c mid (i,j,k) [] n0 k a0 b0 e1 e2 (by rw [hu1])
      | cons t u =>
        rw [List.cons_append,List.cons.injEq] at hu2
        obtain ⟨rfl,rfl⟩:=hu2
        exact ih1 l c mid c' (u++[(i,j,k)]) n0 k a0 b0 e1 e2 (by rw [hu1];simp)
theorem minT_eq {x:List Int}:∀ (l:List (List Int)) (b:List Int),(b=x∨x∈l)→(b=x∨bM x b=true)→(∀ y∈l,y=x∨bM x y=true)→minT b l=x
  | [],b,h1,h2,h3=>by
    rcases h1 with h | h
    · exact h
    · cases h
  | t :: l,b,h1,h2,h3=>by
    have asym:∀ {y:List Int},bM x y=true→bM y x=false:=fun {y} h=>by
      cases e:bM y x with
      | false=>rfl
      | true=>have:=lexlt_trans _ _ _ h e;rw [lexlt_irrefl] at this;cases this
    unfold minT
    have ht:=h3 t List.mem_cons_self
    have h3':=fun y hy=>h3 y (List.mem_cons_of_mem t hy)
    by_cases hb:b=x
    · subst hb
      have:bM t b=false:=by
        rcases ht with rfl | h
        · exact lexlt_irrefl _
        · exact asym h
      rw [this]
      exact minT_eq l b (.inl rfl) (.inl rfl) h3'
    · have hb':bM x b=true:=h2.resolve_left hb
      rcases ht with rfl | h
      · rw [hb']
        exact minT_eq l t (.inl rfl) (.inl rfl) h3'
      · have hx:x∈l:=by
          rcases h1 with h | h
          · exact absurd h hb
          · rcases List.mem_cons.mp h with rfl | h
            · rw [lexlt_irrefl] at *;contradiction
            · exact h
        split
        · exact minT_eq l t (.inr hx) (.inr h) h3'
        · exact minT_eq l b (.inr hx) (.inr hb') h3'
noncomputable def neg3 (c:T3):List Int:=[-(c.2.2:Int),(c.1:Int),(c.2.1:Int)]
theorem neg3_lt {c d:T3} (h:d.2.2 < c.2.2∨(d.2.2=c.2.2∧(c.1 < d.1∨(c.1=d.1∧c.2.1≤d.2.1)))):neg3 d=neg3 c∨bM (neg3 c) (neg3 d)=true:=by
  obtain ⟨a,b,n⟩:=c
  obtain ⟨a',b',n'⟩:=d
  simp only at h
  unfold neg3
  simp only [bM]
  rcases h with h1 | ⟨rfl,h2 | ⟨rfl,h3⟩⟩
  · right;rw [if_neg (by exact aF 0xf110ce1ce56f101f rfl h1)];exact decide_eq_true (by exact aF 0xf110ce1ce4f101f rfl h1)
  · right;rw [if_pos rfl,if_neg (by exact aF 0xf111c0c56f101f rfl h2)];exact decide_eq_true (by exact aF 0xf111c0c4f101f rfl h2)
  · by_cases h4:b=b'
    · subst h4;exact .inl rfl
    · right;rw [if_pos rfl,if_pos rfl,if_neg (by exact aF 0xf11f81f1c0c56f1026f rfl h4)];exact decide_eq_true (by exact aF 0xf11f101f1c0c4f1026100f rfl h3 h4)
theorem neg3_zero {c:T3} (h:0 < c.2.2):bM (neg3 c) [0,0,0]=true:=by
  unfold neg3
  simp only [bM]
  rw [if_neg (by exact aQ 0xf11080ce56f0081f rfl h)];exact decide_eq_true (by exact aQ 0xf11080ce4f0081f rfl h)
theorem RO.min {m:Mt} {alo ahi blo bhi:Nat} {S:List T3} (h:RO m alo ahi blo bhi S) {W:List T3} (hw:∀ c,c∈W ↔ (0 < c.2.2∧InW alo ahi blo bhi c.1 c.2.1 c.2.2∧Run m c.1 c.2.1 c.2.2)):minT [0,0,0] (W.map neg3)=minT [0,0,0] (S.map neg3):=by
  cases h with
  | none b =>
    have:W=[]:=List.eq_nil_iff_forall_not_mem.mpr fun c hc=>by
      obtain ⟨h1,h2,h3⟩:=(hw c).mp hc
      have:=b.best _ _ _ h1 h2 h3;exact lq5 0xf1008f108f1f9f4302127211808027080180081f rfl h1 this
    rw [this]
  | @some _ _ _ _ i j k l r b hk h1 h2 =>
    have key:∀ V:List T3,(i,j,k)∈V→(∀ c∈V,0 < c.2.2∧InW alo ahi blo bhi c.1 c.2.1 c.2.2∧Run m c.1 c.2.1 c.2.2)→minT [0,0,0] (V.map neg3)=neg3 (i,j,k):=fun V hV hc =>
      minT_eq _ _ (.inr (List.mem_map.mpr ⟨_,hV,rfl⟩)) (.inr (neg3_zero hk)) fun y hy=>by
        obtain ⟨d,hd,rfl⟩:=List.mem_map.mp hy
        obtain ⟨a1,a2,a3⟩:=hc d hd
        exact neg3_lt (b.best _ _ _ a1 a2 a3)
    have hm:=(RO.some b hk h1 h2).mem
    rw [key W ((hw _).mpr ⟨hk,b.win,b.run⟩) (fun c hc=>(hw c).mp hc),key _ (by simp) hm]
noncomputable def runsN (as bs:List Int) (x y:Nat):List T3:=(List.range (min as.length bs.length)).flatMap fun i=>if x+(i+1)≤as.length∧(as.drop x).take (i+1)=(bs.drop y).take (i+1) then [(x,y,i+1)] else []
noncomputable def runsOf (as bs:List Int):List T3:=(List.range as.length).flatMap fun x=>(List.range bs.length).flatMap fun y=>runsN as bs x y
theorem flatMap_congr' {α β:Type} {f g:α→List β}:∀ {l:List α},(∀ x∈l,f x=g x)→l.flatMap f=l.flatMap g
  | [],_=>rfl
  | x :: l,h=>by
    rw [List.flatMap_cons,List.flatMap_cons,h x List.mem_cons_self,flatMap_congr' fun y hy=>h y (List.mem_cons_of_mem _ hy)]
theorem runs_data (as bs:List Int):(aY 0 1 as.length).flatMap (gX as bs (min as.length bs.length))=(runsOf as bs).map tup3:=by
  have hN:∀ x y:Nat,(aY 1 1 (min as.length bs.length)).flatMap (gN as bs x y)=(runsN as bs x y).map tup3:=fun x y=>by
    unfold aY runsN
    rw [List.flatMap_map,List.map_flatMap]
    refine flatMap_congr' fun i _=>?_
    rw [show (1+(i:Int) * 1)=((i+1:Nat):Int) by exact aQ 0xf1f1f180ac0c01f18a5ff rfl,gN_nat]
    by_cases h:x+(i+1)≤as.length∧(as.drop x).take (i+1)=(bs.drop y).take (i+1)
    · rw [if_pos h,if_pos]
      · rfl
      · rw [Bool.and_true,Bool.and_eq_true,decide_eq_true_eq,decide_eq_true_eq];exact ⟨by exact aO 0xf112c181ac0ca3f2181a0a0f rfl h.1,h.2⟩
    · rw [if_neg h,if_neg]
      · rfl
      · rw [Bool.and_true,Bool.and_eq_true,decide_eq_true_eq,decide_eq_true_eq];intro q;exact h ⟨by exact aO 0xf112181a0a0f2c181ac0ca3f rfl q.1,q.2⟩
  unfold runsOf
  rw [List.map_flatMap]
  rw [show aY 0 1 as.length=(List.range as.length).map fun (i:Nat)=>PyData.int (0+(i:Int) * 1) from rfl,List.flatMap_map]
  refine flatMap_congr' fun x _=>?_
  rw [show (0+(x:Int) * 1)=(x:Int) by exact aQ 0xf1f1f0c0c01f08a5ff rfl]
  show (aY 0 1 bs.length).flatMap (gY as bs _ (x:Int).toNat)=_
  rw [Int.toNat_natCast,show aY 0 1 bs.length=(List.range bs.length).map fun (i:Nat)=>PyData.int (0+(i:Int) * 1) from rfl,List.flatMap_map,List.map_flatMap]
  refine flatMap_congr' fun y _=>?_
  rw [show (0+(y:Int) * 1)=(y:Int) by exact aQ 0xf1f1f0c0c01f08a5ff rfl]
  show (aY 1 1 _).flatMap (gN as bs x (y:Int).toNat)=_
  rw [Int.toNat_natCast,hN]
theorem runs_mem (as bs:List Int) (c:T3):c∈runsOf as bs ↔ (0 < c.2.2∧Run (mm as bs) c.1 c.2.1 c.2.2):=by
  obtain ⟨x,y,n⟩:=c
  unfold runsOf runsN
  simp only [List.mem_flatMap,List.mem_range]
  constructor
  · rintro ⟨x',hx,y',hy,i,hi,h⟩
    split at h
    · rename_i hc
      rw [List.mem_singleton] at h
      cases h
      refine ⟨by exact aQ 0xf1180a081ff rfl,fun t ht=>mm_some.mpr ?_⟩
      (try simp only at ht)
      have h2:=congrArg (fun l:List Int=>l[t]?) hc.2
      simp only [List.getElem?_take,List.getElem?_drop,if_pos ht] at h2
      have hlt:x+t < as.length:=by exact bF 0xf111230a1f181a312181a0a0f rfl hc.1 ht
      exact ⟨as[x+t],List.getElem?_eq_getElem hlt,by rw [← h2];exact List.getElem?_eq_getElem hlt⟩
    · cases h
  · rintro ⟨hn,hr⟩
    (try simp only at hn hr)
    have hlast:=hr (n - 1) (by exact aQ 0xf18f1108f011f0081f1800 rfl hn)
    obtain ⟨v,e1,e2⟩:=mm_some.mp hlast
    obtain ⟨l1,_⟩:=List.getElem?_eq_some_iff.mp e1
    obtain ⟨l2,_⟩:=List.getElem?_eq_some_iff.mp e2
    refine ⟨x,by exact aO 0xf1001201f230a1f1811 rfl l1,y,by exact aO 0xf1001201f230a1f1811 rfl l2,n - 1,by exact lq5 0xf1000101f100101f651f453a1250a1f4231811 rfl l1 l2,?_⟩
    have ht:(as.drop x).take (n - 1+1)=(bs.drop y).take (n - 1+1):=by
      refine List.ext_getElem? fun t=>?_
      rw [List.getElem?_take,List.getElem?_take]
      split
      · obtain ⟨v,e1,e2⟩:=mm_some.mp (hr t (by exact aF 0xf1018f11108f011f182a110081f1800 rfl hn (by assumption)))
        rw [List.getElem?_drop,List.getElem?_drop,e1,e2]
      · rfl
    rw [if_pos ⟨by exact aO 0xf10012183a0a0f230a1f1811 rfl l1,ht⟩,List.mem_singleton,show n - 1+1=n by exact aQ 0xf11f110ff18f1108ff0181a2f0081f1800 rfl hn]
noncomputable def fdLaw (i:Nat) (nm:Str) (a b c:Value):FuncData:=fnOf nm nm (defArgs (aD topBody i)) (aH (aD topBody i)) (bL (aD topBody i)) (.none) (.none) (.none) a none b c
noncomputable def LDef (X:Cx) (i:Nat) (f:Addr) (nm:Str) (names:List Str):Prop:=X.gl nm=some (.ref f)∧∃ a b c,DefAt X f (fdLaw i nm a b c) (aH (aD topBody i)) names∧∀ vs:List Value,vs.length=names.length→bindArgs (fdLaw i nm a b c) ⟨vs,[]⟩=pure (names.zip vs)
theorem LDef.on {X:Cx} {i:Nat} {f:Addr} {nm:Str} {names:List Str} (d:LDef X i f nm names) {h:Heap} {D:PyData→Value→Prop} (k:∀ b o,X.h₀.get? b=some o→h.get? b=some o):LDef (X.on h D) i f nm names:=⟨d.1,let ⟨a,b,c,e,g⟩:=d.2;⟨a,b,c,e.on k,g⟩⟩
structure LG (X:Cx):Prop extends LF X where
  told:LDef X 7 253 "_law_told" ["size","edit"]
  edit:LDef X 8 258 "_law_edit" ["a","b"]
  blot:LDef X 9 265 "_law_blotted" ["codes","ahead","behind","numbers","blot"]
theorem LG.on {X:Cx} (F:LG X) {h:Heap} {D:PyData→Value→Prop} (k:∀ b o,X.h₀.get? b=some o→h.get? b=some o):LG (X.on h D):={ toLF:=F.toLF.on k,told:=F.told.on k,edit:=F.edit.on k,blot:=F.blot.on k }
section
variable {X:Cx} {k:Nat} {env:Env} {ρ:List (Str×B)} {Q:Fl→List (Str×B)→Prop}
theorem ev_callB {i:Nat} {f:Addr} {nm:Str} {names:List Str} {p pos:Pos} {e:Expr} {es:List Expr} {ds:List PyData} {d:PyData} (D:LDef X i f nm names) (hk:env.kindOf nm=some .globalImplicit) (ha:EvL X (k+1) env ρ pos (e :: es) ds) (hl:ds.length=names.length)
    (h:∀ L a b c,Exs X k (callEnvC (fdLaw i nm a b c) L f) (names.zip (ds.map B.val)) (aH (aD topBody i)) fun fl _=>fl=.ret d) (hd:(nm == ("__debug__":Str))=false:=by decide)
    (he:starEach (e :: es) env=(false,eval e env) :: starEach es env:=by rfl):Ev X (k+1) env ρ (.Call (.Name nm p) (e :: es) [] pos) d:=by
  obtain ⟨hx,a,b,c,D,hbnd⟩:=D
  obtain ⟨o,ho,hdat⟩:=D.obj
  exact ev_call hx hk ho hdat (fun_of_body (F:=fun ds' d'=>ds'=ds∧d'=d) ho hdat D.code D.body D.clo D.g D.b hbnd D.nodup D.par (fun ds' d' q=>by rw [q.1];exact hl) D.co D.gen D.kind (fun L ds' d' q=>by obtain ⟨rfl,rfl⟩:=q;exact h L a b c)) ha ⟨rfl,rfl⟩ hd he
noncomputable def SubL (env:Env):List (Str×Addr)→Prop
  | []=>True
  | (n,c) :: r=>env.cells.lookup n=some c∧SubL env r
theorem SubL.sub:∀ {cl:List (Str×Addr)},SubL env cl→∀ n c,cl.lookup n=some c→env.cells.lookup n=some c
  | [],_,n,c,e=>by cases e
  | (m,a) :: r,h,n,c,e=>by
    rw [List.lookup_cons] at e
    split at e
    · rename_i hh;have:=eq_of_beq hh;subst this;cases e;exact h.1
    · exact SubL.sub h.2 n c e
noncomputable def CapL (env:Env) (ρ:List (Str×B)) (sc:Scope) (cl:List (Str×Addr)):List (Str×B)→Prop
  | []=>True
  | (y,b) :: r=>(¬ b.owns∧ρ.lookup y=some b∧env.kindOf y=some .cell∧(relabel sc env).names.lookup y=some .cell∧∃ c,cl.lookup y=some c)∧CapL env ρ sc cl r
theorem CapL.cap {sc:Scope} {cl:List (Str×Addr)}:∀ {ρc:List (Str×B)},CapL env ρ sc cl ρc→∀ y b,ρc.lookup y=some b→¬ b.owns∧ρ.lookup y=some b∧env.kindOf y=some .cell∧(relabel sc env).names.lookup y=some .cell∧∃ c,cl.lookup y=some c
  | [],_,y,b,e=>by cases e
  | (z,b') :: r,h,y,b,e=>by
    rw [List.lookup_cons] at e
    split at e
    · rename_i hh;have:=eq_of_beq hh;subst this;cases e;exact h.1
    · exact CapL.cap h.2 y b e
theorem ev_end {x:Str} {es:List T3} {p:Nat} {c:T3} {e:Expr} {p1 p2:Pos} (h:aM ρ x (.val (.list (es.map tup3)))) (hc:es[p]?=some c) (hi:Ev X k env ρ e (.int p)) (hz:es.length≤1000) (hd:(x == ("__debug__":Str))=false:=by decide)
    (hs:∀ a u,subscripted e false (.ref a) (.int (p:Int) u)=operate [.ref a,.int (p:Int) u] (getItem (.ref a) (.int (p:Int) u)):=by intro _ _;with_unfolding_all rfl):Ev X k env ρ (.Subscript (.Name x p1) e p2) (tup3 c):=by
  have hsl:5000≤sizeLine:=by decide
  obtain ⟨hlt,_⟩:=List.getElem?_eq_some_iff.mp hc
  refine ev_item (bB (aA h hd)) hi (by exact aF 0xf11c0ce3ff rfl) (by rw [List.length_map];exact aF 0xf111c0c4f101f rfl hlt) (by rw [List.length_map];exact aF 0xf111100f113882903e81900f rfl hz hsl) ?_ hs
  unfold placeOf
  rw [if_neg (by exact aQ 0xf1080c46ff rfl),Int.toNat_natCast,List.getElem?_map,hc];rfl
theorem ev_end0 {e:Expr} {c:T3} {n:Nat} {p1 p2:Pos} (h:Ev X k env ρ e (tup3 c)):Ev X k env ρ (.Subscript e (.Constant (.int 0) n p1) p2) (.int c.1):=ev_itemT h aJ (by decide) (by simp) (by simp only [List.length_cons,List.length_nil];decide) rfl
theorem ev_end1 {e:Expr} {c:T3} {n:Nat} {p1 p2:Pos} (h:Ev X k env ρ e (tup3 c)):Ev X k env ρ (.Subscript e (.Constant (.int 1) n p1) p2) (.int c.2.1):=ev_itemT h aJ (by decide) (by simp) (by simp only [List.length_cons,List.length_nil];decide) rfl
theorem ev_end2 {e:Expr} {c:T3} {n:Nat} {p1 p2:Pos} (h:Ev X k env ρ e (tup3 c)):Ev X k env ρ (.Subscript e (.Constant (.int 2) n p1) p2) (.int c.2.2):=ev_itemT h aJ (by decide) (by simp) (by simp only [List.length_cons,List.length_nil];decide) rfl
end
section
variable {X:Cx} {k:Nat} {as bs:List Int}
noncomputable def inWb (i j a b:Nat) (c:T3):Bool:=decide (i≤c.1) && (decide (c.1+c.2.2≤a) && (decide (j≤c.2.1) && (decide (c.2.1+c.2.2≤b) && true)))
noncomputable def gW (i j a b:Nat):PyData→List PyData
  | .tuple [.int x,.int y,.int n]=>if inWb i j a b (x.toNat,y.toNat,n.toNat) then [.tuple [.int (-n),.int x,.int y]] else []
  | _=>[]
theorem gW_tup (i j a b:Nat) (c:T3):gW i j a b (tup3 c)=if inWb i j a b c then [tupI (neg3 c)] else []:=rfl
noncomputable def gM:PyData→List PyData
  | .tuple [.int x,.int y,.int n]=>[.tuple [.int (-n),.int x,.int y]]
  | _=>[]
theorem gW_all (i j a b:Nat) (R:List T3):(R.map tup3).flatMap (gW i j a b)=((R.filter (inWb i j a b)).map neg3).map tupI:=by
  induction R with
  | nil=>rfl
  | cons c R ih =>
    rw [List.map_cons,List.flatMap_cons,ih,gW_tup,List.filter_cons]
    split <;> rfl
theorem gM_all (R:List T3):(R.map tup3).flatMap gM=(R.map neg3).map tupI:=by
  induction R with
  | nil=>rfl
  | cons c R ih=>rw [List.map_cons,List.flatMap_cons,ih];rfl
theorem runs_len (as bs:List Int) (hza:as.length≤40) (hzb:bs.length≤40):(runsOf as bs).length≤64000:=by
  have h:=congrArg List.length (runs_data as bs)
  rw [List.length_map] at h
  rw [← h]
  have h1:=flatMap_len (l:=aY 0 1 as.length) (f:=gX as bs (min as.length bs.length)) fun y _=>gX_len as bs _ y
  rw [bI] at h1
  have h2:bs.length * min as.length bs.length≤40 * 40:=Nat.mul_le_mul hzb (Nat.le_trans (Nat.min_le_left ..) hza)
  have h3:=Nat.mul_le_mul hza h2
  exact aF 0xf111fa002900f280928b28b10100f rfl h1 h3
structure EH (as bs:List Int) (S:List T3) (ρ:List (Str×B)):Prop where
  a:aM ρ "a" (.val (.list (as.map .int)))
  b:aM ρ "b" (.val (.list (bs.map .int)))
  codes:aM ρ "codes" (.val (.list (opc as.length bs.length 0 0 S)))
  ends:aM ρ "ends" (.val (.list (((0,0,0) :: S++[(as.length,bs.length,0)]).map tup3)))
  runs:aM ρ "runs" (.val (.list ((runsOf as bs).map tup3)))
theorem EH.put {S:List T3} {ρ:List (Str×B)} (h:EH as bs S ρ) {x:Str} (v:B) (hx:x ≠ "a"∧x ≠ "b"∧x ≠ "codes"∧x ≠ "ends"∧x ≠ "runs"):EH as bs S (put ρ x v):=by
  obtain ⟨h1,h2,h3,h4,h5⟩:=hx
  exact ⟨(bA v h1.symm ρ).trans h.a,(bA v h2.symm ρ).trans h.b,(bA v h3.symm ρ).trans h.codes,(bA v h4.symm ρ).trans h.ends,(bA v h5.symm ρ).trans h.runs⟩
noncomputable abbrev eEnv (z1 z2 z3:Value) (L f:Addr):Env:=callEnvC (fdEdit z1 z2 z3) L f
noncomputable abbrev eSt (i:Nat):Stmt:=aD (aH editSt) i
theorem ints_get {a c:Int} {m i:Nat} {d:PyData} (h:(aY a c m)[i]?=some d):i < m∧d=.int (a+(i:Int) * c):=by
  have hl:i < m:=by
    obtain ⟨l,_⟩:=List.getElem?_eq_some_iff.mp h
    rwa [bI] at l
  rw [intsBy_get hl] at h
  exact ⟨hl,(Option.some.inj h).symm⟩
theorem edit_pair {S:List T3} {ρ:List (Str×B)} {L f:Addr} {z1 z2 z3:Value} {p q:Nat} (F:LG X) (hro:RO (mm as bs) 0 as.length 0 bs.length S) (hS:S.length < 64) (hza:as.length≤40) (hzb:bs.length≤40)
    (hp:p < q) (hq:q < S.length+2) (h:EH as bs S ρ) (h1:aM ρ "p" (.val (.int p))) (h2:aM ρ "q" (.val (.int q))) :
    Exs X (k+6) (eEnv z1 z2 z3 L f) ρ (forBody (aD (forBody (eSt 4)) 0)) fun fl ρ'=>fl=.next∧EH as bs S ρ'∧aM ρ' "p" (.val (.int p)):=by
  have hsl:5000≤sizeLine:=by decide
  have hsl':70000≤sizeLine:=by decide
  generalize hE:(0,0,0) :: S++[(as.length,bs.length,0)]=E at *
  have hEl:E.length=S.length+2:=by rw [← hE];simp
  have hpl:p < E.length:=by exact bF 0xf1111301f282a32282a11101f rfl hp hq hEl
  have hql:q < E.length:=by exact aO 0xf111201f281a22281a01f rfl hq hEl
  have gp:E[p]?=some E[p]:=List.getElem?_eq_getElem hpl
  have gq:E[q]?=some E[q]:=List.getElem?_eq_getElem hql
  have hEn:aM ρ "ends" (.val (.list (E.map tup3))):=by rw [← hE];exact h.ends
  generalize hcp:E[p]=cp at *
  generalize hcq:E[q]=cq at *
  have hmid:E=E.take p++cp :: (E.drop (p+1)).take (q - (p+1))++cq :: E.drop (q+1):=by
    have e1:E=E.take p++cp :: E.drop (p+1):=by
      conv=>lhs;rw [← List.take_append_drop p E,List.drop_eq_getElem_cons hpl,hcp]
    have e2:E.drop (p+1)=(E.drop (p+1)).take (q - (p+1))++cq :: E.drop (q+1):=by
      conv=>lhs;rw [← List.take_append_drop (q - (p+1)) (E.drop (p+1))]
      rw [List.drop_drop,show p+1+(q - (p+1))=q by exact aF 0xf11f110ff18f1108ff12180aa2f101f180a10 rfl hp,List.drop_eq_getElem_cons hql,hcq]
    conv=>lhs;rw [e1,e2]
    rw [List.append_assoc,List.cons_append]
  generalize hM:(E.drop (p+1)).take (q - (p+1))=M at *
  have hMl:M.length≤70:=by rw [← hM,List.length_take];simp;exact bF 0xf110001118f110001108f460960f280a11400901f543182a31182a11 rfl hS hq
  have hsub:=hro.sub (E.take p) cp M cq (E.drop (q+1)) 0 0 0 0 rfl rfl (by rw [hE];exact hmid)
  have hmin:=hsub.min (W:=(runsOf as bs).filter (inWb (cp.1+cp.2.2) (cp.2.1+cp.2.2) cq.1 cq.2.1)) fun c=>by
    rw [List.mem_filter,runs_mem]
    unfold inWb InW
    simp only [Bool.and_eq_true,decide_eq_true_eq,Bool.and_true]
    constructor
    · rintro ⟨⟨a1,a2⟩,a3,a4,a5,a6⟩;exact ⟨a1,⟨a3,a4,a5,a6⟩,a2⟩
    · rintro ⟨a1,⟨a3,a4,a5,a6⟩,a2⟩;exact ⟨⟨a1,a2⟩,a3,a4,a5,a6⟩
  have hz:E.length≤1000:=by exact aF 0xf8113e81910f280a12400901f rfl hS hEl
  refine aC (ex_assignT (aV (aB (aU (ev_end0 (ev_end hEn gp (aA h1) hz)) (ev_end2 (ev_end hEn gp (aA h1) hz))) (aB (aU (ev_end1 (ev_end hEn gp (aA h1) hz)) (ev_end2 (ev_end hEn gp (aA h1) hz))) aG)) (by simp only [List.length_cons,List.length_nil];exact aQ 0xf110181808aa0f011170390f rfl hsl')) (asg_tuple (aP (aK (.inr ⟨rfl,_,rfl⟩)) (aP (aK (.inr ⟨rfl,_,rfl⟩)) asgl_nil)) rfl rfl) ?_ rfl rfl)
  obtain ⟨ha,hb,hc,he,hr⟩:=id h
  have hW:((runsOf as bs).map tup3).flatMap (gW (cp.1+cp.2.2) (cp.2.1+cp.2.2) cq.1 cq.2.1)=(((runsOf as bs).filter (inWb (cp.1+cp.2.2) (cp.2.1+cp.2.2) cq.1 cq.2.1)).map neg3).map tupI:=gW_all _ _ _ _ _
  have hWl:(((runsOf as bs).filter (inWb (cp.1+cp.2.2) (cp.2.1+cp.2.2) cq.1 cq.2.1)).map neg3).length≤64000:=by
    rw [List.length_map];exact Nat.le_trans (List.length_filter_le _ _) (runs_len as bs hza hzb)
  refine aC (ex_assignC (ρc:=[("i",.val (.int ((cp.1:Int)+(cp.2.2:Int)))),("j",.val (.int ((cp.2.1:Int)+(cp.2.2:Int)))),("q",.val (.int q)),("ends",.val (.list (E.map tup3)))]) (gW (cp.1+cp.2.2) (cp.2.1+cp.2.2) cq.1 cq.2.1) (items:=(runsOf as bs).map tup3) (evi_list (aA (by k_mem))).weak ⟨rfl,by decide,rfl,by decide,SubL.sub ⟨rfl,rfl,rfl,rfl,trivial⟩,CapL.cap ⟨⟨fun h=>h,by k_mem,rfl,rfl,_,rfl⟩,⟨fun h=>h,by k_mem,rfl,rfl,_,rfl⟩,⟨fun h=>h,by k_mem,rfl,rfl,_,rfl⟩,⟨fun h=>h,by k_mem,rfl,rfl,_,rfl⟩,trivial⟩⟩ ?hb (by rw [hW,List.length_map];exact aF 0xf111010ffa002910011170390f rfl hsl' hWl) (.inl rfl) ?_)
  case hb =>
    intro C d hd
    obtain ⟨c,hcm,rfl⟩:=List.mem_map.mp hd
    refine ⟨_,_,asgc_tuple (asgcl_cons (bE rfl) (asgcl_cons (bE rfl) (asgcl_cons (bE rfl) asgcl_nil))) rfl rfl,fun y b e=>?_,tstl_one (aW (aL (aA (d:=.int ((cp.1:Int)+(cp.2.2:Int))) (by k_mem)) (aA (d:=.int c.1) (by k_mem)) rfl) fun _=>aW (aL (aU (aA (d:=.int c.1) (by k_mem)) (aA (d:=.int c.2.2) (by k_mem))) (ev_end0 (ev_end (es:=E) (by k_mem) gq (aA (by k_mem)) hz)) rfl) fun _=>aW (aL (aA (d:=.int ((cp.2.1:Int)+(cp.2.2:Int))) (by k_mem)) (aA (d:=.int c.2.1) (by k_mem)) rfl) fun _=>aW (aL (aU (aA (d:=.int c.2.1) (by k_mem)) (aA (d:=.int c.2.2) (by k_mem))) (ev_end1 (ev_end (es:=E) (by k_mem) gq (aA (by k_mem)) hz)) rfl) fun _=>tst_and0),fun hb=>?_,fun hb=>?_⟩
    · have n1:y ≠ "x":=fun q=>by subst q;cases e
      have n2:y ≠ "y":=fun q=>by subst q;cases e
      have n3:y ≠ "n":=fun q=>by subst q;cases e
      rw [bA _ n3,bA _ n2,bA _ n1];exact e
    · rw [gW_tup,if_pos]
      · exact cmb_item (aV (aB (ev_neg (aA (d:=.int c.2.2) (by k_mem))) (aB (aA (d:=.int c.1) (by k_mem)) (aB (aA (d:=.int c.2.1) (by k_mem)) aG))) (by show 3≤sizeLine;exact aQ 0xf110380f011170390f rfl hsl'))
      · unfold inWb
        simp only [Bool.and_eq_true,decide_eq_true_eq,Bool.and_true] at hb ⊢
        exact lq8 0xf10001f1001f101f11f0736a0615a07432a07210a07f07c3c6ca36c1c5ca34c3c2ca32c1c0ca3f rfl hb.1 hb.2.1 hb.2.2.1 hb.2.2.2
    · rw [gW_tup,if_neg]
      unfold inWb
      intro q
      rw [← Bool.not_eq_true] at hb
      apply hb
      simp only [Bool.and_eq_true,decide_eq_true_eq,Bool.and_true] at q ⊢
      exact lq8 0xf10001f1001f101f11f07c3c6ca36c1c5ca374c3c2ca372c1c0ca37f0736a0615a0432a0210a0f rfl q.1 q.2.1 q.2.2.1 q.2.2.2
  refine aC (ex_if (b:=false) ?_ (fun hb=>by cases hb) fun _=>aE (aE ⟨rfl,((((h.put _ (by decide)).put _ (by decide)).put _ (by decide))),by k_mem⟩))
  have hpick:pickD (E.map tup3) (some ((p:Int)+1)) (some (q:Int)) none=M.map tup3:=by
    rw [show (p:Int)+1=((p+1:Nat):Int) by exact aQ 0xf1f1f180ac180ca5ff rfl,pickD_run,← hM,List.map_take,List.map_drop]
  refine tst_of_eq (tst_ne
    (ev_minT (b:=[0,0,0]) (rest:=((runsOf as bs).filter (inWb (cp.1+cp.2.2) (cp.2.1+cp.2.2) cq.1 cq.2.1)).map neg3) F.mn rfl (bH (ev_cat (bB (ev_list (aB (aV (aB aJ (aB aJ (aB aJ aG))) (by simp only [List.length_cons,List.length_nil];exact aQ 0xf11018181808aaa0f011170390f rfl hsl')) aG) (by simp only [List.length_cons,List.length_nil];exact aQ 0xf1101808a0f011170390f rfl hsl'))) (evs_own (x:="within") (by k_mem)) ?z1) ?e1))
    (ev_minT (b:=[0,0,0]) (rest:=M.map neg3) F.mn rfl (bH (ev_cat (bB (ev_list (aB (aV (aB aJ (aB aJ (aB aJ aG))) (by simp only [List.length_cons,List.length_nil];exact aQ 0xf11018181808aaa0f011170390f rfl hsl')) aG) (by simp only [List.length_cons,List.length_nil];exact aQ 0xf1101808a0f011170390f rfl hsl'))) (bB (evf_comp (ρc:=[]) (cl:=[]) (items:=M.map tup3) gM (evi_list (bH (ev_slice (bB (aA (x:="ends") (d:=.list (E.map tup3)) (by k_mem))) (evp_some (aU (aA (x:="p") (d:=.int p) (by k_mem)) aJ)) (evp_some (aA (x:="q") (d:=.int q) (by k_mem))) evp_none (by simp) (by rw [List.length_map];exact aF 0xf111010f3e81910011170390f rfl hsl' hz)) (congrArg PyData.list hpick))).weak ⟨rfl,by decide,rfl,by decide,(fun n c e=>by cases e),(fun y b e=>by cases e)⟩ ?hb2 ?z2).ev) ?z3) ?e2))
    (tupI_shaped _) (tupI_shaped _) (by exact aQ 0xf1680a081ff rfl)) ?fin
  case fin =>
    rw [eqv_tupI,hmin];simp
  case z1=>simp only [List.length_cons,List.length_nil];rw [hW,List.length_map];exact aF 0xf111011808aa0ffa002910011170390f rfl hsl' hWl
  case e1=>rw [hW];rfl
  case hb2 =>
    intro C d hd
    obtain ⟨c,hcm,rfl⟩:=List.mem_map.mp hd
    refine ⟨_,true,asgc_tuple (asgcl_cons (bE rfl) (asgcl_cons (bE rfl) (asgcl_cons (bE rfl) asgcl_nil))) rfl rfl,(fun y b e=>by cases e),tstl_nil,fun hb=>?_,fun hb=>by cases hb⟩
    exact cmb_item (aV (aB (ev_neg (aA (d:=.int c.2.2) (by k_mem))) (aB (aA (d:=.int c.1) (by k_mem)) (aB (aA (d:=.int c.2.1) (by k_mem)) aG))) (by show 3≤sizeLine;exact aQ 0xf110380f011170390f rfl hsl'))
  case z2=>rw [gM_all,List.length_map,List.length_map];exact aF 0xf111010f460910011170390f rfl hsl' hMl
  case z3=>rw [gM_all,List.length_map,List.length_map];simp only [List.length_cons,List.length_nil];exact aF 0xf111011808aa0f460910011170390f rfl hsl' hMl
  case e2=>rw [gM_all];rfl
end
section
variable {X:Cx} {k:Nat} {as bs:List Int}
structure EI (lb:Nat) (done:List T3) (cur:T3) (d:Nat) (ed:List Int):Prop where
  len:ed.length=lb
  old:∀ c∈done,∀ t,t < c.2.2→ed[c.2.1+t]?=some ((c.1+t:Nat):Int)
  now:∀ t,t < d→ed[cur.2.1+t]?=some ((cur.1+t:Nat):Int)
  inv:∀ (y:Nat) (v:Int),ed[y]?=some v→v < 0∨(∃ c∈done,c.2.1≤y∧y < c.2.1+c.2.2)∨(cur.2.1≤y∧y < cur.2.1+d)
theorem EI.set {lb:Nat} {done:List T3} {cur:T3} {d:Nat} {ed:List Int} (h:EI lb done cur d ed) (hd:d < cur.2.2) (hb:cur.2.1+cur.2.2≤lb) (hap:∀ c∈done,c.2.1+c.2.2≤cur.2.1):EI lb done cur (d+1) (ed.set (cur.2.1+d) ((cur.1+d:Nat):Int)) where
  len:=by rw [List.length_set];exact h.len
  old:=fun c hc t ht=>by
    have:=hap c hc
    rw [List.getElem?_set_ne (by exact lq5 0xf11802a43a26f312a0101f rfl ht this)];exact h.old c hc t ht
  now:=fun t ht=>by
    rcases Nat.lt_or_ge t d with h' | h'
    · rw [List.getElem?_set_ne (by exact aO 0xf1802a12a26f101f rfl h')];exact h.now t h'
    · have:t=d:=by exact aF 0xf101f11f102f010181a01f rfl ht h'
      subst this
      rw [List.getElem?_set_self (by rw [h.len];exact bF 0xf111230a1f131210a0f rfl hb hd)]
  inv:=fun y v hv=>by
    by_cases hy:cur.2.1+d=y
    · exact .inr (.inr (by exact aO 0xf11f81f181a0a212007f210a2f rfl hy))
    · rw [List.getElem?_set_ne hy] at hv
      rcases h.inv y v hv with h1 | h1 | h1
      · exact .inl h1
      · exact .inr (.inl h1)
      · exact .inr (.inr (by exact aO 0xf101f11f182a0a111007f20a11100f rfl h1.1 h1.2))
theorem EI.next {lb:Nat} {done:List T3} {cur cur':T3} {ed:List Int} (h:EI lb done cur cur.2.2 ed):EI lb (done++[cur]) cur' 0 ed where
  len:=h.len
  old:=fun c hc t ht=>by
    rcases List.mem_append.mp hc with hc | hc
    · exact h.old c hc t ht
    · rw [List.mem_singleton] at hc;subst hc;exact h.now t ht
  now:=fun t ht=>absurd ht (Nat.not_lt_zero _)
  inv:=fun y v hv=>by
    rcases h.inv y v hv with h1 | ⟨c,hc,h1⟩ | h1
    · exact .inl h1
    · exact .inr (.inl ⟨c,List.mem_append.mpr (.inl hc),h1⟩)
    · exact .inr (.inl ⟨cur,List.mem_append.mpr (.inr List.mem_cons_self),h1⟩)
noncomputable def setN (ed:List Int) (c:T3) (d:Nat):List Int:=(List.range d).foldl (fun e t=>e.set (c.2.1+t) ((c.1+t:Nat):Int)) ed
theorem setN_succ (ed:List Int) (c:T3) (d:Nat):setN ed c (d+1)=(setN ed c d).set (c.2.1+d) ((c.1+d:Nat):Int):=by
  unfold setN;rw [List.range_succ,List.foldl_append];rfl
noncomputable def edGo (lb:Nat) (l:List T3):List Int:=l.foldl (fun e c=>setN e c c.2.2) (List.replicate lb (-1))
theorem edGo_snoc (lb:Nat) (l:List T3) (c:T3):edGo lb (l++[c])=setN (edGo lb l) c c.2.2:=by
  unfold edGo;rw [List.foldl_append];rfl
theorem ei_setN {lb:Nat} {done:List T3} {cur:T3} {ed:List Int} (h:EI lb done cur 0 ed) (hb:cur.2.1+cur.2.2≤lb) (hap:∀ c∈done,c.2.1+c.2.2≤cur.2.1):∀ d,d≤cur.2.2→EI lb done cur d (setN ed cur d)
  | 0,_=>h
  | d+1,hd=>by rw [setN_succ];exact (ei_setN h hb hap d (by exact aF 0xf11100f1180a0f rfl hd)).set (by exact aF 0xf11101f1180a0f rfl hd) hb hap
theorem EI.cur {lb:Nat} {done:List T3} {cur cur':T3} {ed:List Int} (h:EI lb done cur 0 ed):EI lb done cur' 0 ed :=
  ⟨h.len,h.old,fun t ht=>absurd ht (Nat.not_lt_zero _),fun y v hv=>by
    rcases h.inv y v hv with h1 | h1 | h1
    · exact .inl h1
    · exact .inr (.inl h1)
    · exact (aF 0xf119f080a11100f rfl h1.1 h1.2).elim⟩
theorem ei_go {lb:Nat}:∀ (rest done:List T3) (ed:List Int),EI lb done (0,0,0) 0 ed→(∀ c∈rest,c.2.1+c.2.2≤lb)→(done++rest).Pairwise (fun c d=>c.2.1+c.2.2≤d.2.1)→EI lb (done++rest) (0,0,0) 0 (rest.foldl (fun e c=>setN e c c.2.2) ed)
  | [],done,ed,h,_,_=>by rw [List.append_nil];exact h
  | c :: rest,done,ed,h,hb,hp=>by
    have h':=(ei_setN (cur:=c) h.cur (hb c List.mem_cons_self) (fun d hd=>(List.pairwise_append.mp hp).2.2 d hd c List.mem_cons_self) c.2.2 (Nat.le_refl _)).next (cur':=(0,0,0))
    have:=ei_go rest (done++[c]) _ h' (fun d hd=>hb d (List.mem_cons_of_mem _ hd)) (by rw [List.append_assoc];exact hp)
    rw [List.append_assoc] at this
    exact this
theorem ends_pw {la lb:Nat} {S:List T3} (g:Good la lb true 0 0 S):(((0,0,0):T3) :: S++[(la,lb,0)]).Pairwise (fun (c d:T3)=>c.2.1+c.2.2≤d.2.1)∧∀ c∈((0,0,0):T3) :: S++[(la,lb,0)],c.2.1+c.2.2≤lb:=by
  have h:=g.all
  constructor
  · rw [List.cons_append]
    refine .cons (fun c _=>Nat.zero_le _) (List.pairwise_append.mpr ⟨g.pw.imp fun {c d} h=>h.2.1,List.pairwise_singleton _ _,fun c hc d hd=>?_⟩)
    rw [List.mem_singleton] at hd;subst hd
    exact (h c hc).2.2.2.2.2
  · intro c hc
    rw [List.cons_append] at hc
    rcases List.mem_cons.mp hc with rfl | hc
    · exact Nat.zero_le _
    · rcases List.mem_append.mp hc with hc | hc
      · exact (h c hc).2.2.2.2.2
      · rw [List.mem_singleton] at hc;subst hc;exact Nat.le_refl _
theorem edGo_len {lb:Nat} (l:List T3):(edGo lb l).length=lb:=by
  have key:∀ (d:Nat) (ed:List Int) (c:T3),(setN ed c d).length=ed.length:=fun d=>by
    induction d with
    | zero=>intro ed c;rfl
    | succ d ih=>intro ed c;rw [setN_succ,List.length_set,ih]
  unfold edGo
  have:∀ (l:List T3) (ed:List Int),(l.foldl (fun e c=>setN e c c.2.2) ed).length=ed.length:=fun l=>by
    induction l with
    | nil=>intro ed;rfl
    | cons c l ih=>intro ed;rw [List.foldl_cons,ih,key]
  rw [this,List.length_replicate]
theorem setN_len (d:Nat) (ed:List Int) (c:T3):(setN ed c d).length=ed.length:=by
  induction d with
  | zero=>rfl
  | succ d ih=>rw [setN_succ,List.length_set,ih]
noncomputable def edOf (la lb:Nat) (S:List T3):List Int:=edGo lb ((0,0,0) :: S++[(la,lb,0)])
theorem edOf_from {la lb:Nat} {S:List T3} (g:Good la lb true 0 0 S):aZ (edOf la lb S) 0 S:=by
  obtain ⟨p1,p2⟩:=ends_pw g
  have h:=ei_go (lb:=lb) ((0,0,0) :: S++[(la,lb,0)]) [] (List.replicate lb (-1)) ⟨List.length_replicate,fun c hc=>(by cases hc),fun t ht=>absurd ht (Nat.not_lt_zero _),fun y v hv=>by
    rw [List.getElem?_replicate] at hv
    split at hv
    · cases hv;exact .inl (by decide)
    · cases hv⟩ p2 p1
  refine edit_of_mem g (fun c hc t ht=>h.old c ?_ t ht) fun y v hv _=>?_
  · rw [List.nil_append,List.cons_append]
    exact List.mem_cons_of_mem _ (List.mem_append.mpr (.inl hc))
  · rcases h.inv y v hv with h1 | ⟨c,hc,h1⟩ | h1
    · exact .inl h1
    · rw [List.nil_append,List.cons_append] at hc
      rcases List.mem_cons.mp hc with rfl | hc
      · simp only at h1;exact (aQ 0xf19f0808a01f rfl h1.2).elim
      · rcases List.mem_append.mp hc with hc | hc
        · exact .inr ⟨c,hc,h1⟩
        · rw [List.mem_singleton] at hc;subst hc;simp only at h1;exact (aF 0xf119f080a11100f rfl h1.1 h1.2).elim
    · exact (aF 0xf119f080a11100f rfl h1.1 h1.2).elim
theorem has_skip {ρ:List (Str×B)} {x z:Str} {b v:B} (h:aM ρ z b) (hz:z ≠ x):aM (put ρ x v) z b:=(bA v hz ρ).trans h
theorem evi_of_eq {env:Env} {ρ:List (Str×B)} {e:Expr} {l l':List PyData} (h:EvI X k env ρ e l) (q:l=l'):EvI X k env ρ e l':=q ▸ h
theorem edit_tail {S:List T3} {ρ:List (Str×B)} {L f:Addr} {z1 z2 z3:Value} (F:LG X) (hro:RO (mm as bs) 0 as.length 0 bs.length S) (hS:S.length < 64) (hza:as.length≤40) (hzb:bs.length≤40)
    (h:EH as bs S ρ):Exs X (k+6) (eEnv z1 z2 z3 L f) ρ ((aH editSt).drop 4) fun fl ρ'=>fl=.ret (.list ((edOf as.length bs.length S).map .int)):=by
  have hsl:5000≤sizeLine:=by decide
  have hg:=hro.good'
  have hlen:(((0,0,0):T3) :: S++[(as.length,bs.length,0)]).length=S.length+2:=by simp
  have hlE:∀ {ρ:List (Str×B)} {p p2 p4:Pos},EH as bs S ρ→Ev X (k+6) (eEnv z1 z2 z3 L f) ρ (.Call (.Name "len" p) [.Name "ends" p2] [] p4) (.int ((S.length+2:Nat):Int)):=fun h=>by
    rw [← hlen,← List.length_map (f:=tup3)]
    exact ev_len F.df.len rfl (bB (aA h.ends)) (by rw [List.length_map,hlen];exact aF 0xf1111280a0f11388290400901f rfl hS hsl)
  refine aC (ex_for (items:=aY 0 1 (S.length+2)) (evi_range1 (n:=((S.length+2:Nat):Int)) F.df.range rfl (hlE h) (by exact aQ 0xf11f1f1000000000099280ac3280ac1000000000099e37f400901f rfl hS)) (fun _ ρ=>EH as bs S ρ) h ?_ ?_)
  · intro p d ρ₁ hd h Q1 H1
    obtain ⟨hp,rfl⟩:=ints_get hd
    have hn:(0+(p:Int) * 1)=(p:Int):=by exact aQ 0xf1f1f0c0c01f08a5ff rfl
    rw [hn]
    refine ⟨_,aK (.inl rfl),aC (ex_for (items:=aY (((p+1:Nat):Int)) 1 (S.length+2 - (p+1))) (evi_of_eq (evi_range2 F.df.range rfl (aU (aA (d:=.int p) (by k_mem)) aJ) (hlE (h.put _ (by decide))) (by exact aF 0xf111f1f1000000000099181ca3181ca1000000000099e37f280a11400901f rfl hS hp) (by exact aQ 0xf11f1f1000000000099280ac3280ac1000000000099e37f400901f rfl hS)) ?_) (fun _ ρ=>EH as bs S ρ∧aM ρ "p" (.val (.int p))) ⟨h.put _ (by decide),by k_mem⟩ ?_ fun ρ' h'=>aE (H1.next h'.1))⟩
    · rw [show (((S.length+2:Nat):Int) - ((p:Int)+1)).toNat=S.length+2 - (p+1) by exact aF 0xf1108f10008ff118f1008fff108f181f1810fff322ff181a280a008181ca280acd5 rfl];rfl
    · intro i d ρ₂ hd h Q2 H2
      obtain ⟨hi,rfl⟩:=ints_get hd
      have hn:(((p+1:Nat):Int)+(i:Int) * 1)=((p+1+i:Nat):Int):=by exact aF 0xf1f1f1180aac1c01f180aca5ff rfl
      rw [hn]
      refine ⟨_,aK (.inr ⟨rfl,_,rfl⟩),Exs.mono (edit_pair (p:=p) (q:=p+1+i) F hro hS hza hzb (by exact aF 0xf11180aa01ff rfl) (by exact aO 0xf118f1008f281a0182aa1f301f182a281a0 rfl hi) (h.1.put _ (by decide)) (has_skip h.2 (by decide)) (by k_mem)) fun fl ρ' q=>?_⟩
      obtain ⟨rfl,q1,q2⟩:=q
      exact H2.next ⟨q1,q2⟩
  · intro ρ₁ h
    have he0:(bs.map PyData.int).flatMap (fun _=>[PyData.int (-1)])=(edGo bs.length []).map .int:=by
      show _=(List.replicate bs.length (-1:Int)).map PyData.int
      rw [List.map_replicate,List.flatMap_map]
      generalize bs=l
      induction l with
      | nil=>rfl
      | cons x l ih=>rw [List.flatMap_cons,ih,List.length_cons,List.replicate_succ];rfl
    refine aC (ex_assignC (ρc:=[]) (cl:=[]) (items:=bs.map .int) (fun _=>[.int (-1)]) (evi_list (aA h.b)).weak ⟨rfl,by decide,rfl,by decide,(fun n c e=>by cases e),(fun y b e=>by cases e)⟩ ?hb ?hz (.inl rfl) ?_)
    case hb =>
      intro C d hd
      obtain ⟨c,hcm,rfl⟩:=List.mem_map.mp hd
      refine ⟨_,true,bE rfl,(fun y b e=>by cases e),tstl_nil,fun hb=>?_,fun hb=>by cases hb⟩
      exact cmb_item (ev_neg aJ)
    case hz =>
      rw [he0,List.length_map,edGo_len];exact aF 0xf111100f11388290280900f rfl hzb hsl
    rw [he0]
    have h':=h.put (x:="edit") (.own ((edGo bs.length []).map .int)) (by decide)
    have hown:aM (put ρ₁ "edit" (.own ((edGo bs.length []).map .int))) "edit" (.own ((edGo bs.length []).map .int)):=by k_mem
    generalize put ρ₁ "edit" (.own ((edGo bs.length []).map .int))=ρ₂ at h' hown ⊢
    clear h ρ₁
    obtain ⟨p1,p2⟩:=ends_pw hg
    refine aC (ex_for (items:=(((0,0,0):T3) :: S++[(as.length,bs.length,0)]).map tup3) (evi_list (aA h'.ends)) (fun i ρ=>EH as bs S ρ∧aM ρ "edit" (.own ((edGo bs.length ((((0,0,0):T3) :: S++[(as.length,bs.length,0)]).take i)).map .int))) ⟨h',hown⟩ ?_ ?_)
    · intro i d ρ₁ hd h Q1 H1
      rw [List.getElem?_map] at hd
      obtain ⟨c,hc,rfl⟩:=Option.map_eq_some_iff.mp hd
      obtain ⟨hil,_⟩:=List.getElem?_eq_some_iff.mp hc
      have hcm:=p2 c (List.mem_of_getElem? hc)
      obtain ⟨hE,hO⟩:=h
      have hnext:edGo bs.length ((((0,0,0):T3) :: S++[(as.length,bs.length,0)]).take (i+1))=setN (edGo bs.length ((((0,0,0):T3) :: S++[(as.length,bs.length,0)]).take i)) c c.2.2:=by
        rw [← edGo_snoc,List.take_add_one,hc];rfl
      have hl0:(edGo bs.length ((((0,0,0):T3) :: S++[(as.length,bs.length,0)]).take i)).length=bs.length:=edGo_len _
      rw [hnext] at H1
      clear hnext
      generalize edGo bs.length ((((0,0,0):T3) :: S++[(as.length,bs.length,0)]).take i)=e0 at hO hl0 H1
      refine ⟨_,asg_tuple (aP (aK (.inl rfl)) (aP (aK (.inl rfl)) (aP (aK (.inl rfl)) asgl_nil))) rfl rfl,aC (ex_for (items:=aY 0 1 c.2.2) (evi_range1 (n:=(c.2.2:Int)) F.df.range rfl (aA (by k_mem)) (by exact aO 0xf111f1f10000000000992c32c1000000000099e37f021a0280900f rfl hzb hcm)) (fun d ρ=>EH as bs S ρ∧aM ρ "x" (.val (.int c.1))∧aM ρ "y" (.val (.int c.2.1))∧aM ρ "edit" (.own ((setN e0 c d).map .int)))
        ⟨((hE.put _ (by decide)).put _ (by decide)).put _ (by decide),by k_mem,by k_mem,has_skip (has_skip (has_skip hO (by decide)) (by decide)) (by decide)⟩ ?_ fun ρ' h'=>aE (H1.next ⟨h'.1,by have:=h'.2.2.2;rwa [bI] at this⟩))⟩
      rintro t d ρ₂ hd ⟨h1,h2,h3,h4⟩ Q2 H2
      obtain ⟨ht,rfl⟩:=ints_get hd
      have hn:(0+(t:Int) * 1)=(t:Int):=by exact aQ 0xf1f1f0c0c01f08a5ff rfl
      rw [hn]
      refine ⟨_,aK (.inl rfl),aC (ex_setitem (ds:=(setN e0 c t).map .int) (d:=.int ((c.1+t:Nat):Int)) (j:=c.2.1+t) (has_skip h4 (by decide)) (bH (aU (aA (d:=.int c.2.1) (by k_mem)) (aA (d:=.int t) (by k_mem))) ?_) (bH (aU (aA (d:=.int c.1) (by k_mem)) (aA (d:=.int t) (by k_mem))) ?_) ?_ ?_ (aE (H2.next ⟨(h1.put _ (by decide)).put _ (by decide),by k_mem,by k_mem,?_⟩)))⟩
      · rw [show ((c.2.1+t:Nat):Int)=(c.2.1:Int)+(t:Int) by exact aF 0xf1f1f1c0ca10ac5ff rfl]
      · rw [show ((c.1+t:Nat):Int)=(c.1:Int)+(t:Int) by exact aF 0xf1f1f1c0ca10ac5ff rfl]
      · rw [List.length_map,setN_len];exact lq5 0xf1111340a1f141232210a0f rfl hcm hl0 ht
      · rw [List.length_map,setN_len];exact aO 0xf8111120f02211388290280900f rfl hzb hsl hl0
      · rw [setN_succ,List.map_set];k_mem
    · intro ρ₁ h
      obtain ⟨hE,hO⟩:=h
      rw [List.length_map,List.take_length] at hO
      refine exs_freeze hO (aC (ex_return (bH (ev_if (tst_eq (aA (d:=.list (opc as.length bs.length 0 0 S)) (hE.put _ (by decide)).codes) (ev_callB (k:=k+5) (ds:=[.int as.length,.list ((edOf as.length bs.length S).map .int)]) (d:=.list (opc as.length bs.length 0 0 S)) F.told rfl (aB ?_ (aB (aA (by k_mem)) aG)) rfl ?_) (opc_shaped _ _ _ _ _) (opc_shaped _ _ _ _ _) (by exact aQ 0xf1680a081ff rfl)) (fun _=>aA (d:=.list ((edOf as.length bs.length S).map .int)) (by k_mem)) (fun _=>ev_none)) ?_) rfl))
      · rw [show (as.length:Int)=((as.map PyData.int).length:Int) by rw [List.length_map]]
        exact ev_len F.df.len rfl (bB (aA (hE.put _ (by decide)).a)) (by rw [List.length_map];exact aF 0xf111100f11388290280900f rfl hza hsl)
      · intro L a b c
        have hl:(edOf as.length bs.length S).length=bs.length:=edGo_len _
        have hw:=told_walk (X:=X) (k:=k+5) (L:=L) (f:=253) (a:=a) (b:=b) (c:=c) F.df.len (la:=as.length) (ed:=edOf as.length bs.length S) (bs:=S) (by rw [hl];exact hg) (edOf_from hg) (by exact aO 0xf8111120f02211388290280900f rfl hzb hsl hl) (by have:=opc_len (la:=as.length) (lb:=(edOf as.length bs.length S).length) S 0 0;lia)
        rw [hl] at hw
        exact hw
      · rw [eqv_self (opc_shaped _ _ _ _ _)];rfl
end
section
variable {X:Cx} {k:Nat} {as bs:List Int}
theorem edit_walk (F:LG X) {L f:Addr} {z1 z2 z3:Value} (hza:as.length≤40) (hzb:bs.length≤40) :
    Exs X (k+6) (eEnv z1 z2 z3 L f) [("a",.val (.list (as.map .int))),("b",.val (.list (bs.map .int)))] (aH editSt) fun fl _=>fl=.ret (.list ((edOf as.length bs.length (ro (mm as bs) (bO as bs))).map .int)):=by
  have hro:=ro_spec (mm as bs) (Nat.zero_le as.length) (Nat.zero_le bs.length)
  have hc:=hro.good'.count
  have hS:(ro (mm as bs) (bO as bs)).length < 64:=by
    show (ro (mm as bs) (0,as.length,0,bs.length)).length < 64
    exact aF 0xf111400911f0081a0280900f rfl hzb hc.2
  refine edit_head F.toLF (by exact aQ 0xf113e81900f280900f rfl hza) (by exact aQ 0xf113e81900f280900f rfl hzb) hS fun h' rr t u w ρ sub hr h1 h2 h3 h4 h5=>?_
  refine aC (st:=(aH editSt).getD 3 (.Pass ⟨0,0,0,0⟩)) (ss:=(aH editSt).drop 4) (edit_runs (F.toLF.on sub) hza hzb hr h1 h2 h5 ?_)
  have hq:=runs_data as bs
  show Exs _ _ _ _ _ _
  rw [hq]
  refine exs_freeze (x:="runs") (by k_mem) (edit_tail (F.on sub) hro hS hza hzb ⟨by k_mem,by k_mem,by k_mem,?_,by k_mem⟩)
  have:=h4
  unfold endsOf at this
  k_mem
end
section
variable {prog:Program} {w:World} {A:Around} {R:Result→Shared→Prop} {I:Addr} {fp wr:List Addr} {G:Array GenState→Array GenState→Prop} {n:Nat} {P:Nat→Value→Prop} {St:Nat→Shared→Prop}
theorem ext_loop (W:WalksS prog w A.in1 I fp wr G n P St) (pre:Array Value) (hn:pre.size+n≤sizeLine) (S:Addr) (hSf:S ∉ fp) (res:Value) :
    ∀ (k i:Nat) (s:Shared) (acc:Array Value) (c:Nat),n - i=k→i≤n→St i s→s.heap.get? S=some { cls:=.type "list",dict:=none,data:=.seq (pre++acc) c,slots:=#[] }→ItemsOf P acc i →
    (∀ s' acc' c',Moved (S :: wr) G s s'→s'.heap.get? S=some { cls:=.type "list",dict:=none,data:=.seq (pre++acc') c',slots:=#[] }→ItemsOf P acc' n→R (.ok (.ret res)) s') →
    codeAny (model prog w) A (.builtin "list.extend.loop" ⟨[.ref S,.ref I,res],[]⟩) R s:=by
  have hSw:S ∉ wr:=fun h=>hSf (W.sub _ h)
  have hsub:∀ b∈wr,b∈S :: wr:=fun b hb=>List.mem_cons_of_mem _ hb
  intro k
  induction k with
  | zero =>
    intro i s acc c hk hi hst hS hacc hR
    have hin:i=n:=by exact aF 0xf8101f10001f012f0100822f101 rfl hk hi
    subst hin
    refine codeAny_builtin PySem.F.entry_extend_loop ?_
    rw [Around.under_plainId PySem.F.plain_extend_loop _]
    show wpAny _ A.in1 (pyNext (.ref I) >>= _) _ _ s
    refine wpAny_bind (W.done s _ _ hst fun s' hm=>?_)
    exact wpAny_pure (hR s' acc c (hm.mono hsub) (hm.heap S _ hSw hS) hacc)
  | succ k ih =>
    intro i s acc c hk hi hst hS hacc hR
    have hlt:i < n:=by exact aO 0xf118f1008f011f182a32f100 rfl hk
    refine codeAny_builtin PySem.F.entry_extend_loop ?_
    rw [Around.under_plainId PySem.F.plain_extend_loop _]
    show wpAny _ A.in1 (pyNext (.ref I) >>= _) _ _ s
    refine wpAny_bind (W.item i s _ _ hlt hst fun v s' hP hst' hm=>?_)
    have hS':=hm.heap S _ hSw hS
    show wpAny _ A.in1 (updateSeq S (·.push v) >>= _) _ _ _
    refine wpAny_bind ?_
    have hpp:(pre++acc).push v=pre++acc.push v:=by rw [Array.push_append]
    obtain ⟨c2,hS2⟩:∃ c2,(s'.heap.update S (Obj.mapSeq (·.push v))).get? S=some { cls:=.type "list",dict:=none,data:=.seq ((pre++acc).push v) c2,slots:=#[] }:=⟨_,Heap.get?_update_self _ hS' rfl⟩
    rw [hpp] at hS2
    refine wpAny_updateSeq hS' rfl (wpAny_pure ⟨plainId_quiet PySem.F.plain_extend_loop _,ih (i+1) _ (acc.push v) c2 (by exact aO 0xf1118f11008ff11108f110008fff8181f1810ff108ff232f182a42f100181a00 rfl hk) hlt (W.frame _ s' _ s'.toks hst' (Nat.le_refl _) fun b hb o e=>?_) ?_ (hacc.push hP) fun s'' acc' c' hm'' hS'' hacc'=>?_⟩)
      (by rw [Array.size_append,hacc.1];exact bF 0xf111230a0f131210a0f rfl hn hlt) (by show ((pre++acc).push v).size≤sizeLine+1;rw [Array.size_push,Array.size_append,hacc.1];exact bF 0xf111182a1830aa0f131210a0f rfl hn hlt)
    · exact (Heap.get?_update_other _ _ (fun h:S=b=>hSf (by rw [h];exact hb))).trans e
    · exact hS2
    · refine hR s'' acc' c' (Moved.trans W.gtrans ((hm.mono hsub).then_heap (by first | exact Nat.le_refl _ | exact Nat.le_succ _ | lia) fun b o hb e=>?_) hm'') hS'' hacc'
      exact (Heap.get?_update_other _ _ (fun h:S=b=>hb (by rw [h];exact List.mem_cons_self))).trans e
end
section
variable {prog:Program} {w:World} {A:Around} {E:Value→Shared→Prop} {s:Shared}
theorem extend_range_more {R:Result→Shared→Prop} {r:Addr} {a b c:Int} {t u v:Tok} {n:Nat} (hh:A.handled=none) (hr:IsRange s.heap r a b c t u v) (hsmall:Builtin.Range.small a b c=true)
    (hn:Builtin.Range.rangeSize a b c=n) (hlen:n≤2 ^ 16) (S:Addr) (res:Value) (pre:Array Value) (hpre:pre.size≤2 ^ 16) (c₀:Nat) (hS:s.heap.get? S=some { cls:=.type "list",data:=.seq pre c₀ })
    (hR:∀ h' tk acc' c',(∀ b o,b ≠ S→s.heap.get? b=some o→h'.get? b=some o)→h'.get? S=some { cls:=.type "list",dict:=none,data:=.seq (pre++acc') c',slots:=#[] } →
      ItemsOf (fun i v=>∃ t,v=.int (a+i * c) t) acc' n→R (.ok (.ret res)) { s with heap:=h',toks:=tk }) :
    wpAny (model prog w) A.in1 (Builtin.List.listExtendWith (.ref S) (.ref r) res)
      (fun fin s'=>match fin with | .done f=>R (.ok f) s' | .again c'=>c'.quiet=true∧codeAny (model prog w) A c' R s') (fun e s'=>R (.error e) s') s:=by
  have hsz:2 ^ 16+2 ^ 16≤sizeLine:=by decide
  have hSr:S ≠ r:=fun e=>by rw [e,hr] at hS;simp at hS
  have hSlt:S < s.heap.objs.size:=Heap.lt_size hS
  have hSI:S ≠ s.heap.objs.size:=Nat.ne_of_lt hSlt
  have hSf:S ∉ [s.heap.objs.size]:=fun hm=>hSI (List.mem_singleton.mp hm)
  have W:=(Walks.range (prog:=prog) (w:=w) (A:=A.in1) hh s.heap.objs.size a c n).toS
  have key:∀ (h:Heap) (c₁ tk:Nat),IsRangeIter h s.heap.objs.size (a+((0:Nat):Int) * c) ((n:Int) - ((0:Nat):Int)) c→(∀ b o,b ≠ S→s.heap.get? b=some o→h.get? b=some o) →
      h.get? S=some { cls:=.type "list",data:=.seq (pre++#[]) c₁ }→codeAny (model prog w) A (.builtin "list.extend.loop" ⟨[.ref S,.ref s.heap.objs.size,res],[]⟩) R { s with heap:=h,toks:=tk }:=by
    intro h c₁ tk hit hk hS₁
    refine ext_loop W pre (by exact aO 0xf1111201a0f210000391000039a0100003910100003900f rfl hlen hpre hsz) S hSf res n 0 _ #[] c₁ rfl (Nat.zero_le _) hit hS₁ (ItemsOf.nil _) fun s' acc' c' hm hS' hacc=>?_
    rw [Moved.eq_with hm]
    refine hR s'.heap s'.toks acc' c' (fun b o hb e=>hm.heap b o (fun hmem=>?_) (hk b o hb e)) hS' hacc
    rcases List.mem_cons.mp hmem with e' | hmem
    · exact hb e'
    · exact absurd (Heap.lt_size e) (by rw [List.mem_singleton.mp hmem];exact Nat.lt_irrefl _)
  unfold Builtin.List.listExtendWith
  refine wpAny_bind (wpAny_typeOf (T:="range") ⟨_,hr,rfl⟩ ?_)
  have h1:Builtin.List.listSameRef (.ref S) (.ref r)=false:=by simp [Builtin.List.listSameRef,hSr]
  have h2:(Value.type "range" == Value.type "list")=false:=by decide
  have h3:(Value.type "range" == Value.type "tuple")=false:=by decide
  simp only [h1,h2,h3,Bool.or_false,Bool.false_eq_true,if_false]
  refine wpAny_bind (wpAny_pyIter_range hr hsmall ?_)
  refine wpAny_bind (wpAny_holding (wpAny_hint_range (n:=n) (Heap.get?_push_of_some _ hr) hn (by exact aQ 0xf1110000005900f100003900f rfl hlen) ?_))
  have hit₁:IsRangeIter (s.heap.push { cls:=.type "range_iterator",data:=.fields #[rawInt a,rawInt (Builtin.Range.rangeSize a b c),rawInt c] }) s.heap.objs.size (a+((0:Nat):Int) * c) ((n:Int) - ((0:Nat):Int)) c:=by
    show IsRangeIter _ _ _ _ _;rw [hn];simpa using Heap.get?_push_size _ rfl
  have hS₁:=Heap.get?_push_of_some { cls:=.type "range_iterator",data:=.fields #[rawInt a,rawInt (Builtin.Range.rangeSize a b c),rawInt c] } hS
  refine wpAny_ite_split (fun _=>?_) (fun _=>wpAny_pure ⟨plainId_quiet PySem.F.plain_extend_loop _,key _ c₀ _ hit₁ (fun b o _ e=>Heap.get?_push_of_some _ e) (by rw [Array.append_empty];exact hS₁)⟩)
  refine wpAny_bind (wpAny_rule ?_)
  refine wpAny_bind ?_
  show wpAny _ _ (updateSeq S (·.push .none) >>= fun _=>updateSeq S (·.pop)) _ _ _
  refine wpAny_bind (wpAny_updateSeq hS₁ rfl ?_ (by exact aF 0xf111100f110000391000039a0100003900f rfl hpre hsz) (by show (pre.push .none).size≤_;rw [Array.size_push];exact aF 0xf111181a180a0f110000391000039a0100003900f rfl hpre hsz))
  have hS₂:=Heap.get?_update_self (Obj.mapSeq (·.push Value.none)) hS₁ rfl
  refine wpAny_updateSeq (hz:=by show (pre.push .none).size≤_;rw [Array.size_push];exact aF 0xf1111180a0f110000391000039a0100003900f rfl hpre hsz) hS₂ rfl ?_ (by show ((pre.push Value.none).pop).size≤_;rw [Array.size_pop,Array.size_push];exact aF 0xf11011181a20f110000391000039a0100003900f18180a1 rfl hpre hsz)
  obtain ⟨c2,hS₃⟩:∃ c2,(((s.heap.push { cls:=.type "range_iterator",data:=.fields #[rawInt a,rawInt (Builtin.Range.rangeSize a b c),rawInt c] }).update S (Obj.mapSeq (·.push Value.none))).update S (Obj.mapSeq (·.pop))).get? S=some { cls:=.type "list",data:=.seq ((pre.push .none).pop) c2 }:=⟨_,Heap.get?_update_self (Obj.mapSeq (·.pop)) hS₂ rfl⟩
  rw [Array.pop_push] at hS₃
  refine wpAny_pure ⟨plainId_quiet PySem.F.plain_extend_loop _,key _ c2 _ ?_ (fun b o hb e=>?_) (by rw [Array.append_empty];exact hS₃)⟩
  · exact (Heap.get?_update_other _ _ hSI).trans ((Heap.get?_update_other _ _ hSI).trans hit₁)
  · exact (Heap.get?_update_other _ _ (Ne.symm hb)).trans ((Heap.get?_update_other _ _ (Ne.symm hb)).trans (Heap.get?_push_of_some _ e))
end
theorem code_extend_range {prog:Program} {w:World} {A:Around} {s:Shared} {R:Result→Shared→Prop} {r:Addr} {a b c:Int} {t u v:Tok} {n:Nat} (hh:A.handled=none) (hr:IsRange s.heap r a b c t u v) (hsmall:Builtin.Range.small a b c=true)
    (hn:Builtin.Range.rangeSize a b c=n) (hlen:n≤2 ^ 16) (S:Addr) (pre:Array Value) (hpre:pre.size≤2 ^ 16) (c₀:Nat) (hS:s.heap.get? S=some { cls:=.type "list",data:=.seq pre c₀ })
    (hR:∀ h' tk acc' c',(∀ b o,b ≠ S→s.heap.get? b=some o→h'.get? b=some o)→h'.get? S=some { cls:=.type "list",dict:=none,data:=.seq (pre++acc') c',slots:=#[] } →
      ItemsOf (fun i v=>∃ t,v=.int (a+i * c) t) acc' n→R (.ok (.ret .none)) { s with heap:=h',toks:=tk }) :
    codeAny (model prog w) A (.call (.builtin "list.extend") ⟨[.ref S,.ref r],[]⟩) R s:=by
  refine codeAny_call_builtin PySem.F.slot_list_extend.plain PySem.F.entry_list_extend (PySem.F.slot_list_extend.check _ _ _ _ _ _ _ _ ⟨_,hS,rfl⟩ (PySem.F.args_list_extend_2 _ _) ?_)
  exact extend_range_more hh hr hsmall hn hlen S .none pre hpre c₀ hS hR
theorem RepL.of_items {bad:Addr→Prop} {h:Heap} {a c:Int}:∀ {n:Nat} {acc:Array Value},ItemsOf (fun (i:Nat) (v:Value)=>∃ t,v=Value.int (a+(i:Int) * c) t) acc n→RepL bad h (aY a c n) acc.toList:=by
  intro n acc hi
  obtain ⟨h1,h2⟩:=hi
  have:∀ (l:List Value) (m:Nat),(∀ j v,l[j]?=some v→∃ t,v=Value.int (a+((m+j:Nat):Int) * c) t)→RepL bad h ((List.range' m l.length).map fun (i:Nat)=>PyData.int (a+(i:Int) * c)) l:=by
    intro l
    induction l with
    | nil=>intro m _;exact .nil
    | cons v l ih =>
      intro m hm
      rw [List.length_cons,List.range'_succ,List.map_cons]
      obtain ⟨t,ht⟩:=hm 0 v rfl
      rw [ht]
      refine .cons (.int _ _) (ih (m+1) fun j v hj=>?_)
      obtain ⟨t,ht⟩:=hm (j+1) v hj
      exact ⟨t,by rw [ht,show m+(j+1)=m+1+j by exact aF 0xf1f1f1180aa181a0a2ff rfl]⟩
  have:=this acc.toList 0 fun j v hj=>by
    obtain ⟨t,ht⟩:=h2 j v (by rw [← Array.getElem?_toList];exact hj)
    exact ⟨t,by rw [ht,Nat.zero_add]⟩
  unfold aY
  rw [List.range_eq_range',← h1,← Array.length_toList]
  exact this
section
variable {X:Cx} {k:Nat} {env:Env} {ρ:List (Str×B)} {Q:Fl→List (Str×B)→Prop}
theorem evf_listR {p pos:Pos} {e:Expr} {items:List PyData} (hx:X.gl ("list":Str)=some (.type "list")) (hk:env.kindOf ("list":Str)=some .globalImplicit) (he:EvR X k env ρ e items) (hz:items.length≤2 ^ 16)
    (hs:starEach [e] env=[(false,eval e env)]:=by rfl):EvF X k env ρ (.Call (.Name "list" p) [e] [] pos) items:=fun A bad O s R r=>by
  refine wpAny_Call_Name_kw (glob_use r hx hk ?_)
  refine PySem.callWith_type (by rw [hs];rfl) ?_
  have h1:wpAny (model X.prog X.w) A (spliced (backTo pos (starEach [e] env))) (fun vs s'=>wpAny (model X.prog X.w) A (call (.type "list") ([]++vs)) (fun v s'=>Ext s s'∧∃ l vs n,v=.ref l∧s.heap.get? l=none∧s'.heap.get? l=some { cls:=.type "list",data:=.seq vs n }∧RepL (fun a=>aS bad O a∨a=l) s'.heap items vs.toList) noE s') noE s:=by
    refine wpAny_items_cons (wpAny_mono (he A bad O s R r) (fun v s1 q=>?_) fun _ _ x=>x) hs
    obtain ⟨rr,a,b,c,t,u,w,m,rfl,x1,hr,hsm,hm,rfl⟩:=q
    rw [bI] at hz
    refine wpAny_items_nil ?_
    show wpAny _ _ (call (.type "list") [.ref rr]) _ _ s1
    refine call_list_range R.handled hr hsm hm (Nat.le_trans hz (by decide)) fun h' tk acc' c' hk' hS hacc=>?_
    refine ⟨x1.trans ⟨hk',rfl,rfl⟩,_,acc',c',rfl,?_,hS,RepL.of_items hacc⟩
    exact x1.none (get_size _)
  rw [hs] at h1 ⊢
  exact Calls.evalArgs_plain h1
theorem ex_extendR {pl:Sem Bool} {x:Str} {px apos cpos pos:Pos} {e:Expr} {ds items:List PyData} (hx:ρ.lookup x=some (.own ds)) (he:EvR X k env ρ e items) (hz:ds.length≤2 ^ 16) (hz':items.length≤2 ^ 16) (hq:Q .next (put ρ x (.own (ds++items)))) (hd:(x == ("__debug__":Str))=false:=by decide)
    (hm:eval (.Call (.Attribute (.Name x px) "extend" apos) [e] [] cpos) env=(do
      let ov ← eval (.Name x px) env
      standAt apos.atName
      let (f,first) ← holding [ov] (getMethod ov "extend" pl)
      callWith cpos f first (backTo cpos (starEach [e] env)) []):=by rfl)
    (hst:starEach [e] env=[(false,eval e env)]:=by rfl) (hi:interactive env=false:=by rfl) (hs:swapsWith (.Call (.Attribute (.Name x px) "extend" apos) [e] [] cpos) none pos.line env=pure false:=by rfl) :
    Ex1 X k env ρ (.Expr (.Call (.Attribute (.Name x px) "extend" apos) [e] [] cpos) pos) Q:=fun A bad O s R r=>by
  obtain ⟨l,vs,n,ho,lk,g,q⟩:=own_at r hx
  refine wpAny_Expr (MethodCall_ (wpAny_Name (Lk.load r.ok.kind lk ?_) hd) hm) hi hs
  refine getMethod_list_of PySem.F.slot_list_extend PySem.F.type_list_extend ⟨_,g,rfl,_,rfl⟩ ⟨_,g,rfl⟩ (callWith_method1 (wpAny_items_cons (wpAny_mono (he A bad O s R r) (fun v s1 h1=>wpAny_items_nil ?_) fun _ _ x=>x) hst) (by rw [hst];rfl) (by rfl))
  obtain ⟨rr,a,b,c,t,u,w,m,rfl,x1,hr,hsm,hm',rfl⟩:=h1
  rw [bI] at hz'
  have hvs:vs.size=ds.length:=by rw [← Array.length_toList,q.length]
  have g1:=x1.keep _ _ g
  have r1:=r.ext x1
  show wpAny _ _ (call (.builtin "list.extend") [.ref l,.ref rr]) _ _ s1
  refine wpAny_call (code_extend_range R.handled hr hsm hm' hz' l vs (by exact aF 0xf811100003910f012100003900f rfl hz hvs) n g1 fun h' tk acc' c' hk hS hacc=>?_)
  have hl0:X.h₀.get? l=none:=(r.good x l ho).2.1
  have hmid:∀ b o,s1.heap.get? b=some o→(h'.update l (fun _=>{ cls:=.type "list",data:=.seq vs n })).get? b=some o:=fun b o e=>by
    by_cases hb:b=l
    · subst hb
      rw [g1] at e;cases e
      exact Heap.get?_update_self _ hS rfl
    · exact (Heap.get?_update_other _ _ (Ne.symm hb)).trans (hk b o hb e)
  have x2:Ext s1 { s1 with heap:=h'.update l (fun _=>{ cls:=.type "list",data:=.seq vs n }),toks:=tk }:=⟨hmid,rfl,rfl⟩
  have r2:=r1.ext x2
  obtain ⟨st,r3⟩:=r2.turn (t:=tk) (h':=h') hx ho ⟨(by simp),fun b hb=>(Heap.get?_update_other _ _ (Ne.symm hb)).symm⟩ hS (ds':=ds++aY a c m) (by
    rw [Array.toList_append]
    exact ((q.ext x1).ext x2).append (RepL.of_items hacc))
  exact ⟨.next,_,O,hq,rfl,(Step.of_ext (x1.trans x2)).trans st,r3⟩
end
theorem ints_up (a:Int) (n:Nat):aY a 1 n=(up a n).map .int:=by
  unfold aY up
  rw [List.map_map]
  refine List.map_congr_left fun t _=>?_
  show PyData.int (a+(t:Int) * 1)=PyData.int (a+(t:Int))
  rw [Int.mul_one]
theorem evr_of_eq {X:Cx} {k:Nat} {env:Env} {ρ:List (Str×B)} {e:Expr} {l l':List PyData} (h:EvR X k env ρ e l) (q:l=l'):EvR X k env ρ e l':=q ▸ h
theorem gap_mem' {i ai j bj:Nat} {x:PyData} (h1:i≤ai) (h2:j≤bj) (h:x∈gap i ai j bj):∃ t i1 i2 j1 j2,x=code t i1 i2 j1 j2∧Tag t∧i1≤i2∧i2≤ai∧j1≤j2∧j2≤bj:=by
  unfold gap at h
  split at h
  · cases h
  · rw [List.mem_singleton] at h
    refine ⟨_,_,_,_,_,h,?_,h1,Nat.le_refl _,h2,Nat.le_refl _⟩
    split
    · exact .inl rfl
    · split
      · exact .inr (.inl rfl)
      · exact .inr (.inr (.inl rfl))
theorem opc_mem' {la lb:Nat} {b:Bool} {i j:Nat} {S:List T3} (g:Good la lb b i j S):∀ x∈opc la lb i j S,∃ t i1 i2 j1 j2,x=code t i1 i2 j1 j2∧Tag t∧i1≤i2∧i2≤la∧j1≤j2∧j2≤lb:=by
  induction g with
  | nil h1 h2=>intro x hx;exact gap_mem' h1 h2 hx
  | @cons b i j ai bj n r h1 h2 h3 h4 h5 ih =>
    intro x hx
    have hle:=h5.le
    unfold opc at hx
    rcases List.mem_append.mp hx with hx | hx
    · obtain ⟨t,i1,i2,j1,j2,e,ht,a1,a2,a3,a4⟩:=gap_mem' h1 h2 hx
      exact ⟨t,i1,i2,j1,j2,e,ht,a1,by exact bF 0xf111230f030210a0f rfl hle.1 a2,a3,by exact bF 0xf111230f030210a0f rfl hle.2 a4⟩
    · rcases List.mem_cons.mp hx with rfl | hx
      · exact ⟨"equal",_,_,_,_,rfl,.inr (.inr (.inr rfl)),by exact aF 0xf110a00ff rfl,by exact aO 0xf11210a0f210a0f rfl hle.1,by exact aF 0xf110a00ff rfl,by exact aO 0xf11210a0f210a0f rfl hle.2⟩
      · exact ih x hx
theorem blotOne_len (nums:List Int) (b:Int) {t:Str} {i1 i2 j1 j2 la:Nat} (h:i2≤la) (hla:la≤40):(blotOne nums b (code t i1 i2 j1 j2)).length≤40:=by
  rw [blotOne_code]
  have:=fmod3 (nums.getD (i1 % nums.length) 0)
  split <;> rw [up_length] <;> lia
theorem blotAll_len (nums:List Int) {la lb:Nat} (hla:la≤40):∀ (cs:List PyData) (b:Int),(∀ x∈cs,∃ t i1 i2 j1 j2,x=code t i1 i2 j1 j2∧Tag t∧i1≤i2∧i2≤la∧j1≤j2∧j2≤lb)→(bD nums b cs).length≤40 * cs.length
  | [],b,_=>by simp [bD]
  | x :: cs,b,h=>by
    obtain ⟨t,i1,i2,j1,j2,rfl,_,_,h2,_⟩:=h _ List.mem_cons_self
    have h1:=blotOne_len nums (b+3) (t:=t) (i1:=i1) (j1:=j1) (j2:=j2) h2 hla
    have h3:=blotAll_len nums hla cs (b+3) fun y hy=>h y (List.mem_cons_of_mem _ hy)
    rw [bD,List.length_append,List.length_cons];exact aO 0xf111182a28b10a0f228b10280900f rfl h1 h3
theorem blotAll_snoc (nums:List Int) (c:List PyData) (d:PyData) (b:Int):bD nums b (c++[d])=bD nums b c++blotOne nums (b+3 * c.length+3) d:=by
  rw [blotAll_append,bD,bD,List.append_nil]
section
variable {X:Cx} {k:Nat}
noncomputable abbrev blotSt:Stmt:=aD topBody 9
theorem blot_walk (F:LG X) {L f:Addr} {z1 z2 z3:Value} {la lb:Nat} {cs:List PyData} {nums:List Int} {ahead behind blot:Int} (hla:la≤40)
    (hcs:∀ x∈cs,∃ t i1 i2 j1 j2,x=code t i1 i2 j1 j2∧Tag t∧i1≤i2∧i2≤la∧j1≤j2∧j2≤lb) (hcl:cs.length≤200) (hnl:0 < nums.length) (hnl':nums.length≤200) (hb0:0≤blot) (hb1:blot≤2000) :
    Exs X (k+1) (callEnvC (fdLaw 9 "_law_blotted" z1 z2 z3) L f) [("codes",.val (.list cs)),("ahead",.val (.int ahead)),("behind",.val (.int behind)),("numbers",.val (.list (nums.map .int))),("blot",.val (.int blot))] (aH blotSt) fun fl _=>fl=.ret (.list ((blotRow nums ahead behind blot cs).map .int)):=by
  have hsl:50000≤sizeLine:=by decide
  have a3:=fmod3 ahead
  have b3:=fmod3 behind
  refine aC (ex_assignF (ds:=(up blot (ahead.fmod 3).toNat).map .int) (evf_listR F.df.list rfl (evr_of_eq (evr_range2 (a:=blot) (b:=blot+ahead.fmod 3) F.df.range rfl (aA (by k_mem)) (aU (aA (by k_mem)) (ev_mod (aA (by k_mem)) aJ (by decide))) (by exact lqx [] [_] 0xf101f11f10000000000990301000000000099e37f7d019030083f rfl hb0 hb1) (by exact lqx [] [_,_] 0xf10101f1011f100000000009910a310a1000000000099e37f381410837d019030083f rfl hb0 hb1 a3.1 a3.2)) ?_) ?_) (.inl rfl) ?_)
  · rw [ints_up,show blot+ahead.fmod 3 - blot=ahead.fmod 3 by exact lqx [] [_,_] 0xf1f1f1010ad5ff rfl]
  · rw [List.length_map,up_length];exact lqx [] [_] 0xf108f118f100003900f3804f0805 rfl a3.2
  refine aC (ex_for (items:=cs) (evi_list (aA (by k_mem))) (fun i ρ=>aM ρ "behind" (.val (.int behind))∧aM ρ "numbers" (.val (.list (nums.map .int)))∧aM ρ "blot" (.val (.int (blot+3 * (i:Int))))∧aM ρ "row" (.own ((up blot (ahead.fmod 3).toNat++bD nums blot (cs.take i)).map .int))) ⟨by k_mem,by k_mem,?_,?_⟩ ?_ ?_)
  · rw [show blot+3 * ((0:Nat):Int)=blot by exact lqx [] [_] 0xf1f1f008c03b0a5ff rfl];k_mem
  · rw [show cs.take 0=[] from rfl,bD,List.append_nil];k_mem
  · rintro i d ρ hd ⟨h1,h2,h3,h4⟩ Q1 H1
    obtain ⟨hil,_⟩:=List.getElem?_eq_some_iff.mp hd
    obtain ⟨t,i1,i2,j1,j2,rfl,ht,q1,q2,q3,q4⟩:=hcs d (List.mem_of_getElem? hd)
    have hsh:SeqAt.shaped (.str t)=true:=by rcases ht with rfl | rfl | rfl | rfl <;> first | rfl | decide +kernel
    have htk:cs.take (i+1)=cs.take i++[code t i1 i2 j1 j2]:=by rw [List.take_add_one,hd];rfl
    have hlt:(cs.take i).length=i:=by rw [List.length_take];exact aF 0xf1101f101ff1010f108ff022f101f103 rfl hil
    have hlen:=blotAll_len nums hla (cs.take i) blot fun x hx=>hcs x (List.mem_of_mem_take hx)
    rw [hlt] at hlen
    have hnew:up blot (ahead.fmod 3).toNat++bD nums blot (cs.take (i+1))=(up blot (ahead.fmod 3).toNat++bD nums blot (cs.take i))++(if PyData.eqv (.str t) (.str "equal") then up i1 (i2 - i1) else up (blot+3 * (i:Int)+3) (1+(nums.getD (i1 % nums.length) 0).fmod 3).toNat):=by
      rw [htk,blotAll_snoc,blotOne_code,hlt,List.append_assoc]
    have hrl:((up blot (ahead.fmod 3).toNat++bD nums blot (cs.take i)).map PyData.int).length≤2 ^ 16:=by
      rw [List.length_map,List.length_append,up_length];lia
    rw [hnew] at H1
    clear hnew
    generalize up blot (ahead.fmod 3).toNat++bD nums blot (cs.take i)=row at h4 hrl H1
    refine ⟨_,asg_tuple (aP (aK (.inl rfl)) (aP (aK (.inl rfl)) (aP (aK (.inl rfl)) (aP (aK (.inl rfl)) (aP (aK (.inl rfl)) asgl_nil))))) rfl rfl,?_⟩
    refine aC (ex_iadd (a:=blot+3 * (i:Int)) (b:=3) (by k_mem) aJ (.inl rfl) ?_)
    have hb3:blot+3 * (i:Int)+3=blot+3 * ((i+1:Nat):Int):=by exact lqx [_] [_] 0xf1f1f180ac03b0a380c03b0aa5ff rfl
    have fm:=fmod3 (nums.getD (i1 % nums.length) 0)
    refine aC (ex_if (tst_eq (aA (d:=.str t) (by k_mem)) ev_str hsh (by first | rfl | decide +kernel) (by exact aQ 0xf1180a081ff rfl)) (fun hb=>?_) fun hb=>?_)
    · rw [if_pos hb] at H1
      refine aC (ex_extendR (ds:=row.map .int) (items:=(up i1 (i2 - i1)).map .int) (by k_mem) (evr_of_eq (evr_range2 (a:=i1) (b:=i2) F.df.range rfl (aA (by k_mem)) (aA (by k_mem)) (by exact aO 0xf1111f1f10000000000991c31c1000000000099e37f020210280900f rfl hla q1 q2) (by exact aF 0xf111f1f10000000000991c31c1000000000099e37f010280900f rfl hla q2)) ?_) hrl ?_ (aE (aE (H1.next ⟨by k_mem,by k_mem,?_,?_⟩))))
      · rw [ints_up,show ((i2:Int) - (i1:Int)).toNat=i2 - i1 by exact aF 0xf1108f10008ff118f1008fff108f181f1810fff322ff100081c0cd5 rfl]
      · rw [List.length_map,up_length];exact aO 0xf11011100003930f010280900f211 rfl hla q2
      · rw [← hb3];k_mem
      · rw [List.map_append];k_mem
    · rw [if_neg (by rw [hb];decide)] at H1
      refine aC (ex_extendR (ds:=row.map .int) (items:=(up (blot+3 * (i:Int)+3) (1+(nums.getD (i1 % nums.length) 0).fmod 3).toNat).map .int) (by k_mem) (evr_of_eq (evr_range2 (a:=blot+3 * (i:Int)+3) (b:=blot+3 * (i:Int)+3+1+(nums.getD (i1 % nums.length) 0).fmod 3) F.df.range rfl (aA (by k_mem)) (aU (aU (aA (d:=.int (blot+3 * (i:Int)+3)) (by k_mem)) aJ) (ev_mod (ev_item (ds:=nums.map .int) (n:=((i1 % nums.length:Nat):Int)) (d:=.int (nums.getD (i1 % nums.length) 0)) (bB (aA (by k_mem))) (bH (ev_mod (aA (d:=.int i1) (by k_mem)) (ev_len F.df.len rfl (bB (aA (d:=.list (nums.map .int)) (by k_mem))) ?_) ?_) ?_) ?_ ?_ ?_ ?_) aJ (by decide))) (by exact lqx [_,_] [_] 0xf31031f101f1000000000099381c03b0aa3381c03b0aa1000000000099e37f0117d019030083c80900f rfl hcl hb0 hb1 hil) (by exact lqx [_,_] [_,_] 0xf1031031f100101f1000000000099118381c03b0aaaa3118381c03b0aaaa1000000000099e37f381410830117d019030083c80900f rfl hcl hb0 hb1 hil fm.1 fm.2)) ?_) hrl ?_ (aE (aE (H1.next ⟨by k_mem,by k_mem,?_,?_⟩))))
      · rw [List.length_map];exact aF 0xf111100f1c350290c80900f rfl hnl' hsl
      · rw [List.length_map];exact aQ 0xf18080c56f0081f rfl hnl
      · rw [List.length_map]
        exact congrArg PyData.int (by rw [Int.fmod_eq_emod_of_nonneg _ (by exact aQ 0xf10c083ff rfl)];lia)
      · exact aF 0xf11c0ce3ff rfl
      · rw [List.length_map]
        have:=Nat.mod_lt i1 hnl
        exact aF 0xf111c0c4f101f rfl this
      · rw [List.length_map];exact aF 0xf111100f1c350290c80900f rfl hnl' hsl
      · exact item_int (Nat.mod_lt i1 hnl)
      · rw [ints_up];congr 3;exact lqx [_] [_,_] 0xf1f1f118a380c03b0aa118380c03b0aaaad5ff rfl
      · rw [List.length_map,up_length];exact lqx [] [_] 0xf108f118f100003900f3804f08018a5 rfl fm.2
      · rw [← hb3];k_mem
      · rw [List.map_append];k_mem
  · rintro ρ ⟨h1,h2,h3,h4⟩
    rw [List.take_length] at h4
    have hlen:=blotAll_len nums hla cs blot hcs
    refine aC (ex_return (bH (ev_cat (evs_own h4) (bB (evf_listR F.df.list rfl (items:=(up (blot+3 * (cs.length:Int)+3) (behind.fmod 3).toNat).map .int) (evr_of_eq (evr_range2 (a:=blot+3 * (cs.length:Int)+3) (b:=blot+3 * (cs.length:Int)+3+behind.fmod 3) F.df.range rfl (aU (aA (by k_mem)) aJ) (aU (aU (aA (by k_mem)) aJ) (ev_mod (aA (by k_mem)) aJ (by decide))) (by exact lqx [_] [_] 0xf1031f101f1000000000099380c03b0aa3380c03b0aa1000000000099e37f7d019030083c80900f rfl hcl hb0 hb1) (by exact lqx [_] [_,_] 0xf101031f10101f10000000000991380c03b0aaa31380c03b0aaa1000000000099e37f381410837d019030083c80900f rfl hcl hb0 hb1 b3.1 b3.2)) ?_) ?_).ev) ?_) ?_) rfl)
    · rw [ints_up,show blot+3 * (cs.length:Int)+3+behind.fmod 3 - (blot+3 * (cs.length:Int)+3)=behind.fmod 3 by exact lqx [_] [_,_] 0xf1f1f1380c03b0aa1380c03b0aaad5ff rfl]
    · rw [List.length_map,up_length];exact lqx [] [_] 0xf108f118f100003900f3804f0805 rfl b3.2
    · rw [List.length_map,List.length_map,List.length_append,up_length,up_length];lia
    · unfold blotRow
      simp only [List.map_append]
end
section
variable {X:Cx} {k:Nat} {env:Env} {ρ:List (Str×B)} {Q:Fl→List (Str×B)→Prop}
theorem Rel.thaw {bad:Addr→Prop} {O:Str→Option Addr} {s:Shared} {key x:Str} {l:Addr} {vs:Array Value} {n:Nat} {ds:List PyData} (r:Rel X bad O env ρ s) (hk:ρ.lookup key=some (.at l { cls:=.type "list",data:=.seq vs n })) (hx:ρ.lookup x=some (.raw (.ref l))) (hne:x ≠ key) (q:RepL (aS bad O) s.heap ds vs.toList) :
    Rel X bad (ins (del O key) x l) env (put (put ρ key .free) x (.own ds)) s∧Step env O (ins (del O key) x l) s s:=by
  obtain ⟨hO,hcur⟩:=r.pt _ _ _ hk
  obtain ⟨g1,g2,g3,_⟩:=r.good _ _ hO
  obtain ⟨st,r'⟩:=r.moved (y:=x) (b:=.own ds) hO trivial (.own ins_self (r.raw _ _ hx) hcur (q.imp fun b _ _ h=>badO_moved hO h))
  exact ⟨r',st⟩
theorem ex_two {x y:Str} {p1 p2 p3 q1 q2 q3 pos:Pos} {n n':Nat} (hx:Own env x) (hy:Own env y) (hxy:x ≠ y) (hk:x ≠ "#1"∧x ≠ "#2"∧y ≠ "#1"∧y ≠ "#2") (hq:∀ ρ',aM ρ' x (.own [])→aM ρ' y (.own [])→(∀ z b,z ≠ x→z ≠ y→z ≠ "#1"→z ≠ "#2"→ρ.lookup z=some b→ρ'.lookup z=some b)→Q .next ρ')
    (hs:swapsWithSole [.Tuple [.Name x p1,.Name y p2] n p3] (.Tuple [.List [] q1,.List [] q2] n' q3) pos.line env=pure false:=by rfl) (hw:swappedStores [.Tuple [.Name x p1,.Name y p2] n p3] (.Tuple [.List [] q1,.List [] q2] n' q3) env=pure none:=by rfl) (hm:(assignEach [.Tuple [.Name x p1,.Name y p2] n p3] env).map (·.2)=[assign (.Tuple [.Name x p1,.Name y p2] n p3) env]:=by rfl)
    (he1:starEach [.List [] q1,.List [] q2] env=(false,eval (.List [] q1) env) :: starEach [.List [] q2] env:=by rfl) (he2:starEach [.List [] q2] env=[(false,eval (.List [] q2) env)]:=by rfl)
    (ha:(assignEach [.Name x p1,.Name y p2] env).map (·.2)=[assign (.Name x p1) env,assign (.Name y p2) env]:=by rfl) (hal:(assignEach [.Name x p1,.Name y p2] env).length=2:=by rfl) (hst:(assignEach [.Name x p1,.Name y p2] env).findIdx? (·.1)=none:=by rfl) :
    Ex1 X k env ρ (.Assign [.Tuple [.Name x p1,.Name y p2] n p3] (.Tuple [.List [] q1,.List [] q2] n' q3) pos) Q:=fun A bad O s R r=>by
  obtain ⟨k1,k2,k3,k4⟩:=hk
  refine wpAny_Assign_stores (wpAny_Tuple (wpAny_items_cons (wpAny_mono (evn_list (X:=X) (k:=k) (ρ:=ρ) A bad O s R r) (fun u s1 h1=>?_) fun _ _ x=>x) he1)) hs hw
  obtain ⟨x1,l1,o1,rfl,f1,g1,_,rfl⟩:=h1
  obtain ⟨st1,r1⟩:=r.at_new "#1" x1 f1 g1
  refine wpAny_items_cons (wpAny_mono (evn_list A bad _ s1 R r1) (fun u s2 h2=>?_) fun _ _ x=>x) he2
  obtain ⟨x2,l2,o2,rfl,f2,g2,_,rfl⟩:=h2
  obtain ⟨st2,r2⟩:=r1.at_new "#2" x2 f2 g2
  refine wpAny_items_nil ⟨by simp only [List.length_cons,List.length_nil];decide,?_⟩
  rw [hm]
  have x3:Ext s2 { s2 with heap:=s2.heap.push { cls:=.type "tuple",data:=.seq [Value.ref l1,Value.ref l2].toArray } }:=Ext.push _ _
  have r3:=r2.ext x3
  refine wpAny_mono (Q:=fun _ s'=>Post X env bad O s Q .next s') ?_ (fun _ s' p=>p) fun _ _ x=>x
  refine wpAny_assign_Tuple R.handled (items:=#[.ref l1,.ref l2]) ⟨_,Heap.get?_push_size _ rfl,rfl,_,rfl⟩ (by rw [hal];rfl) hst fun h' hh=>?_
  have x4:Ext { s2 with heap:=s2.heap.push { cls:=.type "tuple",data:=.seq [Value.ref l1,Value.ref l2].toArray } } { s2 with heap:=h' }:=⟨fun b o e=>hh b o (Nat.ne_of_lt (Heap.lt_size e)) e,rfl,rfl⟩
  have r4:=r3.ext x4
  rw [ha]
  show wpAny _ _ (assignInOrder _ [.ref l1,.ref l2]) _ _ _
  unfold assignInOrder
  refine wpAny_bind (wpAny_holding (wpAny_assign_Name (store_raw r4 hx fun s5 st5 r5 _=>?_)))
  unfold assignInOrder
  refine wpAny_bind (wpAny_holding (wpAny_assign_Name (store_raw r5 hy fun s6 st6 r6 _=>?_)))
  unfold assignInOrder
  refine wpAny_pure ?_
  obtain ⟨r7,st7⟩:=r6.thaw (key:="#1") (x:=x) (l:=l1) (ds:=[]) (by rw [bA _ k3.symm,bA _ k1.symm,bA _ (by decide),put_self]) (by rw [bA _ hxy,put_self]) k1 .nil
  obtain ⟨r8,st8⟩:=r7.thaw (key:="#2") (x:=y) (l:=l2) (ds:=[]) (by rw [bA _ k2.symm,bA _ (by decide),bA _ k4.symm,bA _ k2.symm,put_self]) (by rw [bA _ hxy.symm,bA _ k3,put_self]) k4 .nil
  refine ⟨.next,_,_,hq _ ?_ ?_ ?_,rfl,((((((st1.trans st2).trans (Step.of_ext (x3.trans x4))).trans st5).trans st6).trans st7).trans st8),r8⟩
  · show List.lookup _ _=_
    rw [bA _ hxy,bA _ k2,put_self]
  · show List.lookup _ _=_
    rw [put_self]
  · intro z b h1 h2 h3 h4 e
    rw [bA _ h2,bA _ h4,bA _ h1,bA _ h3,bA _ h2,bA _ h1,bA _ h4,bA _ h3];exact e
end
end Mine
open PySem.SeqAt
namespace Mine
theorem index_ints {prog:Program} {w:World} {A:Around} {E:Value→Shared→Prop} {s:Shared} {l:Addr} {vs:List Value} {ns:List Int} {k:Int} {t:Tok} {Q:Value→Shared→Prop} (hl:s.heap.IsList l vs.toArray) (hi:IntsAre vs ns)
    (hb:ns.length≤2 ^ 20) (hk:k∈ns) (h:Q (.int (ns.idxOf k:Nat) s.toks) { s with toks:=s.toks+1 }) :
    wpAny (model prog w) A (call (.builtin "list.index") [.ref l,.int k t]) Q E s:=by
  obtain ⟨⟨cls,dd,data,sl⟩,ho,hc,n,hd⟩:=id hl
  simp only at hc hd
  subst hc hd
  have hlen:=hi.length
  have hj:ns.idxOf k < ns.length:=List.idxOf_lt_length_iff.mpr hk
  refine call_meets PySem.F.slot_list_index ⟨_,ho,rfl⟩ PySem.F.entry_list_index (PySem.F.args_list_index_2 _ _)
    (list_indexAt l vs.toArray n dd sl (.int k t) (isInt k) (ns.idxOf k) (by simpa [hlen] using hj) (by exact aF 0xf111188000000000000000e9d1c4f0111000004900f rfl hb hj) ?_ ?_) ⟨ho,fun y hy=>(eq_isInt k t hi y (by simpa using hy)).at _ _,h⟩
  · show isInt k vs[ns.idxOf k]=true
    rw [isInt_at k hi _ (by exact aO 0xf111021f121102f rfl hlen hj) hj]
    simpa using List.getElem_idxOf hj
  · intro j hjs hlt
    show isInt k vs[j]=false
    rw [isInt_at k hi j (by simpa using hjs) (by exact aO 0xf111121f021101f rfl hj hlt)]
    exact ne_of_lt_idxOf hlt _
section
variable {X:Cx} {k:Nat} {env:Env} {ρ:List (Str×B)}
theorem ev_index {pl:Sem Bool} {e e':Expr} {apos cpos:Pos} {ns:List Int} {v:Int} (he:EvS X k env ρ e (ns.map .int)) (he':Ev X k env ρ e' (.int v)) (hv:v∈ns) (hz:ns.length≤2 ^ 20)
    (hm:eval (.Call (.Attribute e "index" apos) [e'] [] cpos) env=(do
      let ov ← eval e env
      standAt apos.atName
      let (f,first) ← holding [ov] (getMethod ov "index" pl)
      callWith cpos f first (backTo cpos (starEach [e'] env)) []):=by rfl)
    (hst:starEach [e'] env=[(false,eval e' env)]:=by rfl):Ev X k env ρ (.Call (.Attribute e "index" apos) [e'] [] cpos) (.int (ns.idxOf v:Nat)):=fun A bad O s R r=>by
  refine MethodCall_ (he.use R r fun a vs s1 x1 r1 l1 q1=>?_) hm
  obtain ⟨n,g⟩:=id l1
  refine getMethod_list_of PySem.F.slot_list_index PySem.F.type_list_index (PL_is l1) ⟨_,g,rfl⟩ (callWith_method1 (wpAny_items_cons (he'.use R r1 fun u s2 x2 r2 q2=>wpAny_items_nil ?_) hst) (by rw [hst];rfl) (by rfl))
  refine q2.intE fun t=>?_
  show wpAny _ _ (call (.builtin "list.index") [.ref a,.int v t]) _ _ s2
  refine index_ints (vs:=vs.toList) (by simpa using IsList_ext x2 l1) (q1.ints) hz hv ⟨(x1.trans x2).trans (Ext.toks _ _),.int _ _⟩
theorem eqv_int (a b:Int):PyData.eqv (.int a) (.int b)=decide (a=b):=by
  show (a == b)=_
  by_cases h:a=b <;> simp [h]
theorem any_ints (ns:List Int) (v:Int):(ns.map PyData.int).any (fun y=>PyData.eqv y (.int v))=decide (v∈ns):=by
  rw [List.any_map]
  induction ns with
  | nil=>simp
  | cons n ns ih =>
    rw [List.any_cons,ih]
    show (PyData.eqv (.int n) (.int v) || _)=_
    rw [eqv_int]
    by_cases h:n=v
    · subst h;simp
    · simp [h,Ne.symm h]
theorem tst_in {l r:Expr} {pos:Pos} {v:Int} {ns:List Int} (hl:Ev X k env ρ l (.int v)) (hr:EvS X k env ρ r (ns.map .int))
    (hm:behindInMarks .In r=false:=by with_unfolding_all rfl):Tst X k env ρ (.Compare l [.In] [r] pos) (decide (v∈ns)):=fun A bad O s R q =>
  wpAny_isTrue_Compare1 (hl.use R q fun u s1 x1 r1 q1=>hr.use R r1 fun a vs s2 x2 r2 l2 q2=>by
    obtain ⟨as,ra⟩:=(q1.ext x2).reads (by rfl)
    obtain ⟨bs,rb⟩:=q2.reads (canLay_ints ns)
    obtain ⟨n,g⟩:=id l2
    have hd:=depth_ints ns
    refine in_list_reads (.list g rfl rfl rb) ra (canLay_ints ns) (by rfl) ?_ (wpAny_truthy_bool ⟨x1.trans x2,any_ints ns v⟩)
    have:=R.units
    have hc:9100 < cLine:=by decide
    show A.units+1+min _ _ < cLine
    have:=Nat.min_le_left (PyData.depthAll (ns.map .int)) (PyData.depth (.int v))
    lia) hm
theorem ev_catI {x:Str} {r:Expr} {p pos:Pos} {a:Addr} {vs:Array Value} {ns:List Int} {es:List PyData} (hx:ρ.lookup x=some (.raw (.ref a))) (ha:X.h₀.IsList a vs) (hv:IntsAre vs.toList ns) (hr:EvS X k env ρ r es) (hz:ns.length+es.length≤sizeLine) (hd:(x == ("__debug__":Str))=false:=by decide):Ev X k env ρ (.BinOp (.Name x p) .Add r pos) (.list (ns.map .int++es)):=fun A bad O s R q =>
  wpAny_BinOp ((bG hx hd).use R q fun s1 x1 r1=>hr.use R r1 fun b ws s2 x2 r2 l2 q2=>by
    have hl:vs.size=ns.length:=by rw [← Array.length_toList,hv.length]
    have hl':ws.size=es.length:=by rw [← Array.length_toList,q2.length]
    have ha':s2.heap.IsList a vs:=by
      obtain ⟨o,h1,h2⟩:=ha
      exact ⟨o,r2.base _ _ h1,h2⟩
    refine add_lists_at ha' (PL_is l2) (by exact lq5 0xf8811243a0f142032210a0f rfl hz hl hl') ⟨(x1.trans x2).trans (Ext.push _ _),?_⟩
    refine rep_newList r2 ?_
    rw [Array.toList_append]
    refine RepL.append ?_ q2
    clear hl ha' ha
    generalize vs.toList=us at hv
    induction hv with
    | nil=>exact .nil
    | cons n t h ih=>exact .cons (.int _ _) (ih (by rw [List.length_cons] at hz;exact aO 0xf11210a0f21180aa0f rfl hz)))
end
noncomputable def tailN:List Int:=[0,4,2,4,8,5,0,3,8,8,10,1]
noncomputable def stepA (l:List Int) (x:Int):List Int:=if x.fmod 4 ≠ 2∧l.length < 30 then l++[1+(x.fdiv 4).fmod 3] else l
noncomputable def stepB (l:List Int) (x:Int):List Int:=if x.fmod 4 ≠ 1∧l.length < 30 then l++[1+(x.fdiv 4+(x.fmod 4).fdiv 3).fmod 3] else l
structure Sml (l:List Int):Prop where
  len:l.length≤30
  val:∀ v∈l,v < 50
theorem stepA_ok {l:List Int} (h:Sml l) (x:Int):Sml (stepA l x):=by
  unfold stepA
  split
  · rename_i hc
    have:=fmod3 (x.fdiv 4)
    refine ⟨by rw [List.length_append];simp;exact aQ 0xf111d0900f1e0901f rfl hc.2,fun v hv=>?_⟩
    rcases List.mem_append.mp hv with hv | hv
    · exact h.val v hv
    · rw [List.mem_singleton] at hv;exact lqx [] [_,_] 0xf811320914f018a153804f rfl this.2 hv
  · exact h
theorem stepB_ok {l:List Int} (h:Sml l) (x:Int):Sml (stepB l x):=by
  unfold stepB
  split
  · rename_i hc
    have:=fmod3 (x.fdiv 4+(x.fmod 4).fdiv 3)
    refine ⟨by rw [List.length_append];simp;exact aQ 0xf111d0900f1e0901f rfl hc.2,fun v hv=>?_⟩
    rcases List.mem_append.mp hv with hv | hv
    · exact h.val v hv
    · rw [List.mem_singleton] at hv;exact lqx [] [_,_] 0xf811320914f018a153804f rfl this.2 hv
  · exact h
theorem fold_ok {f:List Int→Int→List Int} (hf:∀ l x,Sml l→Sml (f l x)):∀ (ns:List Int) (l:List Int),Sml l→Sml (ns.foldl f l)
  | [],l,h=>h
  | x :: ns,l,h=>fold_ok hf ns _ (hf l x h)
noncomputable def txA (ns:List Int):List Int:=ns.foldl stepA []
noncomputable def txB (ns:List Int):List Int:=ns.foldl stepB []
theorem txA_ok (ns:List Int):Sml (txA ns):=fold_ok (fun l x h=>stepA_ok h x) ns [] ⟨by simp,fun v hv=>by cases hv⟩
theorem txB_ok (ns:List Int):Sml (txB ns):=fold_ok (fun l x h=>stepB_ok h x) ns [] ⟨by simp,fun v hv=>by cases hv⟩
theorem take_fold {f:List Int→Int→List Int} {ns:List Int} {i:Nat} {x:Int} (h:ns[i]?=some x) (l:List Int):(ns.take (i+1)).foldl f l=f ((ns.take i).foldl f l) x:=by
  rw [List.take_add_one,h,List.foldl_append];rfl
section
variable {X:Cx} {k:Nat}
noncomputable abbrev lEnv (z1 z2 z3:Value) (L f:Addr):Env:=callEnvC (fdLaw 10 "law" z1 z2 z3) L f
noncomputable abbrev lBody:List Stmt:=aH (aD topBody 10)
noncomputable def intsOf:List Expr→Option (List Int)
  | []=>some []
  | .Constant (.int i) _ _ :: r=>(intsOf r).map (i :: ·)
  | _=>none
theorem evl_ints {env:Env} {ρ:List (Str×B)} {pos:Pos}:∀ (es:List Expr) (ns:List Int),intsOf es=some ns→EvL X k env ρ pos es (ns.map .int)
  | [],ns,h=>by cases h;exact aG
  | e :: r,ns,h=>by
    unfold intsOf at h
    split at h
    · rename_i heq;cases heq
    · rename_i i n p r' heq
      cases heq
      cases e2:intsOf r with
      | none=>rw [e2] at h;cases h
      | some ms =>
        rw [e2] at h;cases h
        exact aB aJ (evl_ints r ms e2)
    · cases h
theorem law_texts (F:LG X) {L f sa:Addr} {z1 z2 z3:Value} {vs:Array Value} {ns:List Int} {Q:Fl→List (Str×B)→Prop} (ha:X.h₀.IsList sa vs) (hv:IntsAre vs.toList ns) (hn:ns.length≤63)
    (hrest:∀ ρ,aM ρ "numbers" (.val (.list ((ns++tailN).map .int)))→aM ρ "a" (.val (.list ((txA (ns++tailN)).map .int)))→aM ρ "b" (.val (.list ((txB (ns++tailN)).map .int)))→Exs X (k+10) (lEnv z1 z2 z3 L f) ρ (lBody.drop 3) Q) :
    Exs X (k+10) (lEnv z1 z2 z3 L f) [("script",.raw (.ref sa))] lBody Q:=by
  have hsl:5000≤sizeLine:=by decide
  refine aC (bK (d:=.list (ns.map .int++tailN.map .int)) (ev_catI (by k_mem) ha hv (bB (ev_list (evl_ints _ tailN rfl) (by rw [List.length_map];show 12≤sizeLine;exact aQ 0xf110c80f01388290f rfl hsl))) (by rw [List.length_map];show _+12≤sizeLine;exact aF 0xf1111c80a0f113882903f0900f rfl hn hsl)) (.inl rfl) ?_)
  refine aC (ex_two (.inr ⟨rfl,_,rfl⟩) (.inl rfl) (by decide) (by decide) fun ρ ha hb hk=>?_)
  have hN:aM ρ "numbers" (.val (.list ((ns++tailN).map .int))):=by
    rw [List.map_append]
    exact hk _ _ (by decide) (by decide) (by decide) (by decide) (by k_mem)
  clear hk
  generalize hnums:ns++tailN=nums at *
  have hnl:nums.length≤80:=by rw [← hnums,List.length_append];simp [tailN];exact aQ 0xf11440900f3f0900f rfl hn
  refine aC (ex_for (items:=nums.map .int) (evi_list (aA hN)) (fun i ρ=>aM ρ "numbers" (.val (.list (nums.map .int)))∧aM ρ "a" (.own (((nums.take i).foldl stepA []).map .int))∧aM ρ "b" (.own (((nums.take i).foldl stepB []).map .int))) ⟨hN,ha,hb⟩ ?_ ?_)
  · rintro i d ρ₁ hd ⟨h1,h2,h3⟩ Q1 H1
    rw [List.getElem?_map] at hd
    obtain ⟨x,hx,rfl⟩:=Option.map_eq_some_iff.mp hd
    rw [take_fold hx,take_fold hx] at H1
    have sA:=fold_ok (fun l x h=>stepA_ok h x) (nums.take i) [] ⟨by simp,fun v hv=>by cases hv⟩
    have sB:=fold_ok (fun l x h=>stepB_ok h x) (nums.take i) [] ⟨by simp,fun v hv=>by cases hv⟩
    generalize (nums.take i).foldl stepA []=la at h2 sA H1
    generalize (nums.take i).foldl stepB []=lb at h3 sB H1
    have zA:=sA.len
    have zB:=sB.len
    have p4:∀ y:Int,Builtin.divisionGoesByPylong y 4=false:=fun y=>PyProof.noPylong_small (by decide)
    have p3:∀ y:Int,Builtin.divisionGoesByPylong y 3=false:=fun y=>PyProof.noPylong_small (by decide)
    have lA:∀ {ρ:List (Str×B)} {p p2 p4:Pos},aM ρ "a" (.own (la.map .int))→Ev X (k+10) (lEnv z1 z2 z3 L f) ρ (.Call (.Name "len" p) [.Name "a" p2] [] p4) (.int la.length):=fun h=>by
      rw [show (la.length:Int)=((la.map PyData.int).length:Int) by rw [List.length_map]]
      exact ev_len F.df.len rfl (evs_own h) (by rw [List.length_map];exact aF 0xf111010f1e091001388290f rfl hsl zA)
    have lB:∀ {ρ:List (Str×B)} {p p2 p4:Pos},aM ρ "b" (.own (lb.map .int))→Ev X (k+10) (lEnv z1 z2 z3 L f) ρ (.Call (.Name "len" p) [.Name "b" p2] [] p4) (.int lb.length):=fun h=>by
      rw [show (lb.length:Int)=((lb.map PyData.int).length:Int) by rw [List.length_map]]
      exact ev_len F.df.len rfl (evs_own h) (by rw [List.length_map];exact aF 0xf111010f1e091001388290f rfl hsl zB)
    refine ⟨_,aK (.inr ⟨rfl,_,rfl⟩),?_⟩
    have stA:∀ ρ',aM ρ' "numbers" (.val (.list (nums.map .int)))→aM ρ' "x" (.val (.int x))→aM ρ' "a" (.own ((stepA la x).map .int))→aM ρ' "b" (.own (lb.map .int))→Exs X (k+10) (lEnv z1 z2 z3 L f) ρ' ((forBody (aD lBody 2)).drop 1) Q1:=fun ρ' g1 g2 g3 g4=>by
      refine aC (ex_if (aW (aL (ev_mod (aA (d:=.int x) (by k_mem)) aJ (by decide)) aJ rfl) fun _=>aW (aL (lB g4) aJ rfl) fun _=>tst_and0) (fun hb=>?_) fun hb=>?_)
      · have hc:x.fmod 4 ≠ 1∧lb.length < 30:=by
          simp only [Bool.and_eq_true,bne_iff_ne,decide_eq_true_eq,Bool.and_true] at hb
          exact ⟨hb.1,by exact aQ 0xf111e0901f1e090c4f rfl hb.2⟩
        have e:stepB lb x=lb++[1+(x.fdiv 4+(x.fmod 4).fdiv 3).fmod 3]:=by unfold stepB;rw [if_pos hc]
        exact aC (ex_append (ds:=lb.map .int) (d:=.int (1+(x.fdiv 4+(x.fmod 4).fdiv 3).fmod 3)) (by k_mem) (aU aJ (ev_mod (aU (ev_div (aA (d:=.int x) (by k_mem)) aJ (by decide) (p4 _)) (ev_div (ev_mod (aA (d:=.int x) (by k_mem)) aJ (by decide)) aJ (by decide) (p3 _))) aJ (by decide))) (by rw [List.length_map];exact aF 0xf111010f1e091101388290f rfl hsl hc.2) (aE (aE (H1.next ⟨by k_mem,by k_mem,by rw [e,List.map_append];k_mem⟩))))
      · have hc:¬ (x.fmod 4 ≠ 1∧lb.length < 30):=fun q=>by
          rw [← Bool.not_eq_true] at hb
          apply hb
          simp only [Bool.and_eq_true,bne_iff_ne,decide_eq_true_eq,Bool.and_true]
          exact ⟨q.1,by exact aQ 0xf111e090c4f1e0901f rfl q.2⟩
        have e:stepB lb x=lb:=by unfold stepB;rw [if_neg hc]
        exact aE (aE (H1.next ⟨by k_mem,by k_mem,by rw [e];k_mem⟩))
    refine aC (ex_if (aW (aL (ev_mod (aA (d:=.int x) (by k_mem)) aJ (by decide)) aJ rfl) fun _=>aW (aL (lA (by k_mem)) aJ rfl) fun _=>tst_and0) (fun hb=>?_) fun hb=>?_)
    · have hc:x.fmod 4 ≠ 2∧la.length < 30:=by
        simp only [Bool.and_eq_true,bne_iff_ne,decide_eq_true_eq,Bool.and_true] at hb
        exact ⟨hb.1,by exact aQ 0xf111e0901f1e090c4f rfl hb.2⟩
      have e:stepA la x=la++[1+(x.fdiv 4).fmod 3]:=by unfold stepA;rw [if_pos hc]
      refine aC (ex_append (ds:=la.map .int) (d:=.int (1+(x.fdiv 4).fmod 3)) (by k_mem) (aU aJ (ev_mod (ev_div (aA (d:=.int x) (by k_mem)) aJ (by decide) (p4 _)) aJ (by decide))) (by rw [List.length_map];exact aF 0xf111010f1e091101388290f rfl hsl hc.2) (aE (stA _ (by k_mem) (by k_mem) (by rw [e,List.map_append];k_mem) (by k_mem))))
    · have hc:¬ (x.fmod 4 ≠ 2∧la.length < 30):=fun q=>by
        rw [← Bool.not_eq_true] at hb
        apply hb
        simp only [Bool.and_eq_true,bne_iff_ne,decide_eq_true_eq,Bool.and_true]
        exact ⟨q.1,by exact aQ 0xf111e090c4f1e0901f rfl q.2⟩
      have e:stepA la x=la:=by unfold stepA;rw [if_neg hc]
      exact aE (stA _ (by k_mem) (by k_mem) (by rw [e];k_mem) (by k_mem))
  · rintro ρ₁ ⟨h1,h2,h3⟩
    rw [List.length_map,List.take_length] at h2 h3
    refine exs_freeze (x:="a") h2 (exs_freeze (x:="b") (has_skip h3 (by decide)) (hrest _ (has_skip (has_skip h1 (by decide)) (by decide)) ?_ ?_))
    · k_mem
    · k_mem
end
section
variable {X:Cx} {k:Nat}
theorem tst_isNoneL {env:Env} {ρ:List (Str×B)} {l r:Expr} {pos:Pos} {ds:List PyData} (hl:Ev X k env ρ l (.list ds)) (hr:EvV X k env ρ r .none) (hm:behindInMarks .Is r=false:=by with_unfolding_all rfl):Tst X k env ρ (.Compare l [.Is] [r] pos) false:=fun A bad O s R q =>
  wpAny_isTrue_Compare1 (hl.use R q fun v s1 x1 r1 q1=>hr.use R r1 fun s2 x2 r2=>by cases q1;exact is_none_gen (wpAny_truthy_bool ⟨x1.trans x2,rfl⟩)) hm
noncomputable def Sof (as bs:List Int):List T3:=ro (mm as bs) (bO as bs)
structure LH (nums as bs:List Int) (ρ:List (Str×B)):Prop where
  numbers:aM ρ "numbers" (.val (.list (nums.map .int)))
  a:aM ρ "a" (.val (.list (as.map .int)))
  b:aM ρ "b" (.val (.list (bs.map .int)))
theorem gnd_of {as bs:List Int} (ha:Sml as) (hb:Sml bs):Gnd as bs (edOf as.length bs.length (Sof as bs)) (Sof as bs):=by
  have hro:=ro_spec (mm as bs) (Nat.zero_le as.length) (Nat.zero_le bs.length)
  have h1:=ha.len
  have h2:=hb.len
  exact ⟨hro.good',hro.bas,edGo_len _,edOf_from hro.good',by exact aQ 0xf11280900f1e0900f rfl h1,by exact aQ 0xf11280900f1e0900f rfl h2,ha.val,hb.val⟩
theorem lastN_data (ed:List Int):(aY 0 1 ed.length).flatMap (fun d=>match d with
    | .int j=>[PyData.int (if 0≤ed.getD j.toNat 0 then ed.getD j.toNat 0 else 50+j)]
    | _=>[])=(aN ed).map .int:=by
  unfold aY aN
  rw [List.flatMap_map,List.map_map]
  rw [List.map_eq_flatMap]
  refine flatMap_congr' fun j _=>?_
  show [PyData.int (if 0≤ed.getD ((0+(j:Int) * 1)).toNat 0 then ed.getD ((0+(j:Int) * 1)).toNat 0 else 50+(0+(j:Int) * 1))]=[PyData.int (if 0≤ed.getD j 0 then ed.getD j 0 else 50+(j:Int))]
  rw [show (0+(j:Int) * 1)=(j:Int) by exact aQ 0xf1f1f0c0c01f08a5ff rfl,Int.toNat_natCast]
theorem namedN_data (la:Nat) (last:List Int):((upTo la).map PyData.int).flatMap (fun d=>match d with
    | .int p=>[PyData.int (if p∈last then p else 90+p)]
    | _=>[])=(bC la last).map .int:=by
  unfold bC
  rw [List.flatMap_map,List.map_map,List.map_eq_flatMap]
  rfl
theorem upTo_data (n:Nat):aY 0 1 n=(upTo n).map .int:=by
  rw [ints_up]
  unfold up upTo
  congr 1
  refine List.map_congr_left fun t _=>by exact aQ 0xf1f1f0c0c08a5ff rfl
theorem upTo_len (n:Nat):(upTo n).length=n:=by simp [upTo]
theorem lastN_len (ed:List Int):(aN ed).length=ed.length:=by simp [aN]
theorem namedN_len (n:Nat) (last:List Int):(bC n last).length=n:=by unfold bC;rw [List.length_map,upTo_len]
theorem law_names (F:LG X) {L f:Addr} {z1 z2 z3:Value} {nums as bs:List Int} {Q:Fl→List (Str×B)→Prop} {ρ:List (Str×B)} (ha:Sml as) (hb:Sml bs) (h:LH nums as bs ρ)
    (hrest:∀ ρ' ed,Gnd as bs ed (Sof as bs)→LH nums as bs ρ'→aM ρ' "codes" (.val (.list (opc as.length bs.length 0 0 (Sof as bs))))→aM ρ' "first" (.val (.list ((upTo as.length).map .int)))→aM ρ' "last" (.val (.list ((aN ed).map .int)))→aM ρ' "named" (.val (.list ((bC as.length (aN ed)).map .int))) →
      Exs X (k+10) (lEnv z1 z2 z3 L f) ρ' (lBody.drop 9) Q) :
    Exs X (k+10) (lEnv z1 z2 z3 L f) ρ (lBody.drop 3) Q:=by
  have hsl:5000≤sizeLine:=by decide
  have G:=gnd_of ha hb
  have za:=ha.len
  have zb:=hb.len
  obtain ⟨h1,h2,h3⟩:=h
  refine aC (bK (d:=.list ((edOf as.length bs.length (Sof as bs)).map .int)) (ev_callB (k:=k+9) (ds:=[.list (as.map .int),.list (bs.map .int)]) F.edit rfl (aB (aA h2) (aB (aA h3) aG)) rfl fun L a b c=>edit_walk (k:=k+3) F (by exact aQ 0xf11280900f1e0900f rfl za) (by exact aQ 0xf11280900f1e0900f rfl zb)) (.inr ⟨rfl,_,rfl⟩) ?_)
  generalize edOf as.length bs.length (Sof as bs)=ed at G
  have hed:=G.len
  refine aC (ex_if (tst_isNoneL (ds:=ed.map .int) (aA (by k_mem)) evv_none) (fun hb=>by cases hb) fun _=>aE ?_)
  refine aC (bK (d:=.list (opc as.length bs.length 0 0 (Sof as bs))) (ev_callB (k:=k+9) (ds:=[.int as.length,.list (ed.map .int)]) F.told rfl (aB ?_ (aB (aA (by k_mem)) aG)) rfl fun L a b c=>?_) (.inl rfl) ?_)
  · rw [show (as.length:Int)=((as.map PyData.int).length:Int) by rw [List.length_map]]
    exact ev_len F.df.len rfl (bB (aA (by k_mem))) (by rw [List.length_map];exact aF 0xf111010f1e091001388290f rfl hsl za)
  · have hw:=told_walk (X:=X) (k:=k+9) (L:=L) (f:=253) (a:=a) (b:=b) (c:=c) F.df.len (la:=as.length) (ed:=ed) (bs:=Sof as bs) (by rw [hed];exact G.good) G.ed (by exact aO 0xf8111020f1221e091001388290f rfl hsl zb hed) (by have:=opc_len (la:=as.length) (lb:=ed.length) (Sof as bs) 0 0;have:=G.good.count;lia)
    rw [hed] at hw
    exact hw
  refine aC (ex_assignF (ds:=(upTo as.length).map .int) (evf_listR F.df.list rfl (evr_of_eq (evr_range1 (n:=(as.length:Int)) F.df.range rfl ?_ (by exact aQ 0xf11f1f10000000000990c30c1000000000099e37f1e0900f rfl za)) ?_) ?_) (.inl rfl) ?_)
  · rw [show (as.length:Int)=((as.map PyData.int).length:Int) by rw [List.length_map]]
    exact ev_len F.df.len rfl (bB (aA (by k_mem))) (by rw [List.length_map];exact aF 0xf111010f1e091001388290f rfl hsl za)
  · rw [Int.toNat_natCast];exact upTo_data _
  · rw [List.length_map,upTo_len];exact aQ 0xf11100003900f1e0900f rfl za
  refine exs_freeze (x:="first") (by k_mem) ?_
  refine aC (ex_assignF (evf_comp (ρc:=[("edit",.val (.list (ed.map .int)))]) (items:=aY 0 1 ed.length) (fun d=>match d with
    | .int j=>[PyData.int (if 0≤ed.getD j.toNat 0 then ed.getD j.toNat 0 else 50+j)]
    | _=>[]) (evi_of_eq (evi_range1 (n:=(bs.length:Int)) F.df.range rfl ?_ (by exact aQ 0xf11f1f10000000000990c30c1000000000099e37f1e0900f rfl zb)) ?_).weak ⟨rfl,by decide,rfl,by decide,SubL.sub ⟨rfl,trivial⟩,CapL.cap ⟨⟨fun h=>h,by k_mem,rfl,rfl,_,rfl⟩,trivial⟩⟩ ?hb1 (by rw [lastN_data,List.length_map,lastN_len];exact aO 0xf8111020f1221e091001388290f rfl hsl zb hed)) (.inr ⟨rfl,_,rfl⟩) ?_)
  · rw [show (bs.length:Int)=((bs.map PyData.int).length:Int) by rw [List.length_map]]
    exact ev_len F.df.len rfl (bB (aA (by k_mem))) (by rw [List.length_map];exact aF 0xf111010f1e091001388290f rfl hsl zb)
  · rw [Int.toNat_natCast,hed]
  case hb1 =>
    intro C d hd
    obtain ⟨j,hj,rfl⟩:=ints_mem hd
    rw [show (0+(j:Int) * 1)=(j:Int) by exact aQ 0xf1f1f0c0c01f08a5ff rfl]
    refine ⟨_,true,bE rfl,fun y b e=>?_,tstl_nil,fun _=>cmb_item (bH (ev_if (aL (ev_item (ds:=ed.map .int) (n:=(j:Int)) (d:=.int (ed.getD j 0)) (bB (aA (by k_mem))) (aA (by k_mem)) (by exact aF 0xf11c0ce3ff rfl) (by rw [List.length_map];exact aF 0xf111c0c4f101f rfl hj) (by rw [List.length_map];exact aO 0xf8111020f1221e091001388290f rfl hsl zb hed) (item_int hj)) aJ rfl) (fun _=>ev_item (ds:=ed.map .int) (n:=(j:Int)) (d:=.int (ed.getD j 0)) (bB (aA (by k_mem))) (aA (by k_mem)) (by exact aF 0xf11c0ce3ff rfl) (by rw [List.length_map];exact aF 0xf111c0c4f101f rfl hj) (by rw [List.length_map];exact aO 0xf8111020f1221e091001388290f rfl hsl zb hed) (item_int hj)) (fun _=>aU aJ (aA (d:=.int j) (by k_mem)))) ?_),fun hb=>by cases hb⟩
    · have n1:y ≠ "j":=fun q=>by subst q;cases e
      rw [bA _ n1];exact e
    · rw [Int.toNat_natCast]
      by_cases hc:0≤ed.getD j 0
      · rw [if_pos hc,if_pos (decide_eq_true hc)]
      · rw [if_neg hc,if_neg (by simpa using hc)]
  rw [lastN_data]
  refine exs_freeze (x:="last") (by k_mem) ?_
  refine aC (ex_assignC (ρc:=[("last",.val (.list ((aN ed).map .int)))]) (items:=(upTo as.length).map .int) (fun d=>match d with
    | .int p=>[PyData.int (if p∈aN ed then p else 90+p)]
    | _=>[]) (evi_list (aA (by k_mem))).weak ⟨rfl,by decide,rfl,by decide,SubL.sub ⟨rfl,trivial⟩,CapL.cap ⟨⟨fun h=>h,by k_mem,rfl,rfl,_,rfl⟩,trivial⟩⟩ ?hb2 (by rw [namedN_data,List.length_map,namedN_len];exact aF 0xf111010f1e091001388290f rfl hsl za) (.inl rfl) ?_)
  case hb2 =>
    intro C d hd
    obtain ⟨p,hp,rfl⟩:=List.mem_map.mp hd
    refine ⟨_,true,bE rfl,fun y b e=>?_,tstl_nil,fun _=>cmb_item (bH (ev_if (tst_in (v:=p) (ns:=aN ed) (aA (by k_mem)) (bB (aA (by k_mem)))) (fun _=>aA (d:=.int p) (by k_mem)) (fun _=>aU aJ (aA (d:=.int p) (by k_mem)))) ?_),fun hb=>by cases hb⟩
    · have n1:y ≠ "place":=fun q=>by subst q;cases e
      rw [bA _ n1];exact e
    · by_cases hc:p∈aN ed
      · rw [if_pos hc,if_pos (decide_eq_true hc)]
      · rw [if_neg hc,if_neg (by simpa using hc)]
  rw [namedN_data]
  refine exs_freeze (x:="named") (by k_mem) ?_
  exact hrest _ ed G ⟨by k_mem,by k_mem,by k_mem⟩ (by k_mem) (by k_mem) (by k_mem) (by k_mem)
end
noncomputable def bothOne (named last:List Int):PyData→List Int
  | .tuple [.str t,.int i1,.int i2,.int j1,.int j2]=>(named.drop i1.toNat).take (i2 - i1).toNat++if PyData.eqv (.str t) (.str "equal") then [] else (last.drop j1.toNat).take (j2 - j1).toNat
  | _=>[]
theorem bothOne_code (named last:List Int) (t:Str) (i1 i2 j1 j2:Nat):bothOne named last (code t i1 i2 j1 j2)=(named.drop i1).take (i2 - i1)++if PyData.eqv (.str t) (.str "equal") then [] else (last.drop j1).take (j2 - j1):=by
  show (named.drop (i1:Int).toNat).take ((i2:Int) - (i1:Int)).toNat++(if _ then [] else (last.drop (j1:Int).toNat).take ((j2:Int) - (j1:Int)).toNat)=_
  rw [Int.toNat_natCast,Int.toNat_natCast,show ((i2:Int) - (i1:Int)).toNat=i2 - i1 by exact aF 0xf1108f10008ff118f1008fff108f181f1810fff322ff100081c0cd5 rfl,show ((j2:Int) - (j1:Int)).toNat=j2 - j1 by exact aF 0xf1108f10008ff118f1008fff108f181f1810fff322ff100081c0cd5 rfl]
theorem slice_map (l:List Int) (i m:Nat) (h:i+m≤l.length):(l.drop i).take m=(List.range m).map fun t=>l.getD (i+t) 0:=by
  refine List.ext_getElem? fun t=>?_
  rw [List.getElem?_take,List.getElem?_map]
  split
  · rename_i ht
    rw [List.getElem?_drop,List.getElem?_range ht,Option.map_some,List.getD_eq_getElem?_getD,List.getElem?_eq_getElem (by exact bF 0xf111230a1f131210a0f rfl h ht)];rfl
  · rename_i ht
    rw [List.getElem?_eq_none (by rw [List.length_range];exact aF 0xf11010f1016f rfl ht)];rfl
theorem aT_map (named last:List Int) (i ai:Nat) (h:i≤ai) (h':ai≤named.length):(aT i ai).map (nmT named last)=(named.drop i).take (ai - i):=by
  rw [slice_map _ _ _ (by exact aO 0xf1018f11108f230a0f210100f010 rfl h h')]
  unfold aT
  rw [List.map_map];rfl
theorem bT_map (named last:List Int) (j bj:Nat) (h:j≤bj) (h':bj≤last.length):(bT j bj).map (nmT named last)=(last.drop j).take (bj - j):=by
  rw [slice_map _ _ _ (by exact aO 0xf1018f11108f230a0f210100f010 rfl h h')]
  unfold bT
  rw [List.map_map];rfl
theorem gap_both (named last:List Int) {i ai j bj:Nat} (h1:i≤ai) (h2:j≤bj) (h3:ai≤named.length) (h4:bj≤last.length):(gap i ai j bj).flatMap (bothOne named last)=(aT i ai++bT j bj).map (nmT named last):=by
  rw [List.map_append,aT_map _ _ _ _ h1 h3,bT_map _ _ _ _ h2 h4]
  unfold gap
  by_cases h:i=ai∧j=bj
  · rw [if_pos h,h.1,h.2];simp
  · rw [if_neg h]
    have hne:PyData.eqv (.str (if ai=i then "insert" else if j=bj then "delete" else "replace")) (.str "equal")=false:=by
      split
      · decide
      · split <;> decide
    rw [List.flatMap_cons,List.flatMap_nil,List.append_nil,bothOne_code,hne];rfl
theorem both_data (named last:List Int) {la lb:Nat} {b:Bool} {i j:Nat} {S:List T3} (g:Good la lb b i j S) (h1:named.length=la) (h2:last.length=lb):(opc la lb i j S).flatMap (bothOne named last)=(bothT la lb i j S).map (nmT named last):=by
  induction g with
  | nil a b=>exact gap_both named last a b (by exact aF 0xf11010f102f rfl h1) (by exact aF 0xf11010f102f rfl h2)
  | @cons b i j ai bj n r a1 a2 a3 a4 a5 ih =>
    have hle:=a5.le
    unfold opc bothT
    rw [List.flatMap_append,List.flatMap_cons,gap_both named last a1 a2 (by exact bF 0xf111020f132a0102f rfl h1 hle.1) (by exact bF 0xf111020f132a0102f rfl h2 hle.2),ih,bothOne_code,show PyData.eqv (.str "equal") (.str "equal")=true by decide,if_pos rfl,List.append_nil]
    have he:(named.drop ai).take (ai+n - ai)=(eqT ai bj n).map (nmT named last):=by
      rw [show ai+n - ai=n by exact aF 0xf11f110ff18f108ff122ff010a0 rfl,slice_map _ _ _ (by exact bF 0xf111032a0f132a0102f rfl h1 hle.1)]
      unfold eqT
      rw [List.map_map];rfl
    rw [he];simp only [List.map_append]
theorem slice_len (l:List Int) (i m:Nat):((l.drop i).take m).length≤l.length:=by
  rw [List.length_take,List.length_drop];exact aO 0xf1108f1118f140ff303211 rfl
section
variable {X:Cx} {k:Nat}
theorem bothOne_len {named last:List Int} (h1:named.length≤30) (h2:last.length≤30) (t:Str) (i1 i2 j1 j2:Nat):(bothOne named last (code t i1 i2 j1 j2)).length≤60:=by
  rw [bothOne_code,List.length_append]
  have a:=slice_len named i1 (i2 - i1)
  have b:=slice_len last j1 (j2 - j1)
  split
  · simp only [List.length_nil];exact aF 0xf1113c09081a0f0101e0900f rfl h1 a
  · exact bF 0xf111113c0932a0f1300201e09101e0900f rfl h1 h2 a b
structure KeepN (l:List Str) (ρ ρ':List (Str×B)):Prop where
  get:∀ {z:Str} {b:B},(l.all fun x=>neS z x)=true→aM ρ z b→aM ρ' z b
theorem KeepN.pt {l:List Str} {ρ ρ':List (Str×B)} (h:KeepN l ρ ρ') {x:Str} {v:B} (hx:x∈l):KeepN l ρ (put ρ' x v):=⟨fun q e=>hn (h.get q e) (List.all_eq_true.mp q x hx)⟩
noncomputable def bothL:List Str:=["both","word","i1","i2","j1","j2"]
theorem bothL.mem {i:Nat} {x:Str} (h:bothL[i]?=some x):x∈bothL:=List.mem_of_getElem? h
theorem law_both (F:LG X) {L f:Addr} {z1 z2 z3:Value} {cs:List PyData} {named last:List Int} {Q:Fl→List (Str×B)→Prop} {ρ:List (Str×B)} (hl1:named.length≤30) (hl2:last.length≤30) (hcl:cs.length≤200)
    (hcs:∀ x∈cs,∃ t i1 i2 j1 j2,x=code t i1 i2 j1 j2∧Tag t) (h1:aM ρ "codes" (.val (.list cs))) (h2:aM ρ "named" (.val (.list (named.map .int)))) (h3:aM ρ "last" (.val (.list (last.map .int))))
    (hrest:∀ ρ',KeepN bothL ρ ρ'→aM ρ' "both" (.val (.list ((cs.flatMap (bothOne named last)).map .int)))→Exs X (k+10) (lEnv z1 z2 z3 L f) ρ' (lBody.drop 11) Q) :
    Exs X (k+10) (lEnv z1 z2 z3 L f) ρ (lBody.drop 9) Q:=by
  have hsl:50000≤sizeLine:=by decide
  refine aC (ex_assignF (evf_list aG (by decide)) (.inl rfl) ?_)
  refine aC (ex_for (items:=cs) (evi_list (aA (by k_mem))) (fun i ρ'=>KeepN bothL ρ ρ'∧aM ρ' "both" (.own (((cs.take i).flatMap (bothOne named last)).map .int))) ⟨KeepN.pt ⟨fun _ h=>h⟩ (bothL.mem (i:=0) rfl),by rw [show cs.take 0=[] from rfl];k_mem⟩ ?_ ?_)
  · rintro i d ρ₁ hd ⟨hk,ho⟩ Q1 H1
    obtain ⟨t,i1,i2,j1,j2,rfl,ht⟩:=hcs d (List.mem_of_getElem? hd)
    have hsh:SeqAt.shaped (.str t)=true:=by rcases ht with rfl | rfl | rfl | rfl <;> first | rfl | decide +kernel
    have g2:=hk.get rfl h2
    have g3:=hk.get rfl h3
    have htk:(cs.take (i+1)).flatMap (bothOne named last)=(cs.take i).flatMap (bothOne named last)++bothOne named last (code t i1 i2 j1 j2):=by
      rw [List.take_add_one,hd,List.flatMap_append];simp
    have hbl:((cs.take i).flatMap (bothOne named last)).length≤12000:=by
      have:=flatMap_len (l:=cs.take i) (f:=bothOne named last) (c:=60) fun x hx=>by
        obtain ⟨t,i1,i2,j1,j2,rfl,_⟩:=hcs x (List.mem_of_mem_take hx)
        exact bothOne_len hl1 hl2 t i1 i2 j1 j2
      have h2:(cs.take i).length≤200:=by rw [List.length_take];exact aF 0xf1108f1118fc80920fc80900f013 rfl hcl
      have:=Nat.mul_le_mul_right 60 h2
      exact aF 0xf1112ee02900f3c09c8b13cf013cf00f rfl (by assumption) this
    rw [htk,bothOne_code] at H1
    clear htk
    generalize (cs.take i).flatMap (bothOne named last)=row at ho hbl H1
    refine ⟨_,asg_tuple (aP (aK (.inl rfl)) (aP (aK (.inl rfl)) (aP (aK (.inl rfl)) (aP (aK (.inl rfl)) (aP (aK (.inl rfl)) asgl_nil))))) rfl rfl,?_⟩
    have sl:∀ {ρ:List (Str×B)} {l:List Int} {x y z:Str} {p p1 p2 p3 p4:Pos} {a b:Nat},(x == ("__debug__":Str))=false→(y == ("__debug__":Str))=false→(z == ("__debug__":Str))=false→l.length≤30→aM ρ x (.val (.list (l.map .int)))→aM ρ y (.val (.int a))→aM ρ z (.val (.int b))→Ev X (k+10) (lEnv z1 z2 z3 L f) ρ (.Subscript (.Name x p1) (.Slice (some (.Name y p2)) (some (.Name z p3)) none p4) p) (.list (((l.drop a).take (b - a)).map .int)):=fun n1 n2 n3 hl g1 g2 g3 =>
      bH (ev_slice (bB (aA g1 n1)) (evp_some (aA g2 n2)) (evp_some (aA g3 n3)) evp_none (by simp) (by rw [List.length_map];exact aF 0xf111010f1e09100c350290f rfl hsl hl)) (by rw [pickD_run,mapint_take])
    refine aC (ex_extend (ds:=row.map .int) (es:=((named.drop i1).take (i2 - i1)).map .int) (by k_mem) (sl (by decide) (by decide) (by decide) hl1 (by k_mem) (by k_mem) (by k_mem)) (by rw [List.length_map,List.length_map];have:=slice_len named i1 (i2 - i1);exact bF 0xf11111132a0f0302ee029201c3502901e0900f rfl hl1 hsl hbl this) ?_)
    have hkA:KeepN bothL ρ (put (put (put (put (put ρ₁ "word" (.val (.str t))) "i1" (.val (.int i1))) "i2" (.val (.int i2))) "j1" (.val (.int j1))) "j2" (.val (.int j2))):=((((hk.pt (bothL.mem (i:=1) rfl)).pt (bothL.mem (i:=2) rfl)).pt (bothL.mem (i:=3) rfl)).pt (bothL.mem (i:=4) rfl)).pt (bothL.mem (i:=5) rfl)
    refine aC (ex_if (tst_ne (aA (d:=.str t) (by k_mem)) ev_str hsh (by first | rfl | decide +kernel) (by exact aQ 0xf1a80a081ff rfl)) (fun hb=>?_) fun hb=>?_)
    · have hb':PyData.eqv (.str t) (.str "equal")=false:=by
        cases e:PyData.eqv (.str t) (.str "equal") with
        | false=>rfl
        | true=>rw [e] at hb;cases hb
      rw [if_neg (by rw [hb'];decide)] at H1
      refine aC (ex_extend (ds:=row.map .int++((named.drop i1).take (i2 - i1)).map .int) (es:=((last.drop j1).take (j2 - j1)).map .int) (by k_mem) (sl (by decide) (by decide) (by decide) hl2 (by k_mem) (by k_mem) (by k_mem)) ?_ (aE (aE (H1.next ⟨(hkA.pt (bothL.mem (i:=0) rfl)).pt (bothL.mem (i:=0) rfl),?_⟩))))
      · rw [List.length_append,List.length_map,List.length_map,List.length_map];have:=slice_len named i1 (i2 - i1);have:=slice_len last j1 (j2 - j1);exact lq6 0xf11111112543aa0f1500402ee029302c3502901e09101e0900f rfl hl1 hl2 hsl hbl (by assumption) this
      · rw [List.map_append,List.map_append,← List.append_assoc];k_mem
    · have hb':PyData.eqv (.str t) (.str "equal")=true:=by
        cases e:PyData.eqv (.str t) (.str "equal") with
        | true=>rfl
        | false=>rw [e] at hb;cases hb
      rw [if_pos hb',List.append_nil] at H1
      exact aE (aE (H1.next ⟨hkA.pt (bothL.mem (i:=0) rfl),by rw [List.map_append];k_mem⟩))
  · rintro ρ₁ ⟨hk,ho⟩
    rw [List.take_length] at ho
    exact exs_freeze ho (hrest _ (hk.pt (bothL.mem (i:=0) rfl)) (by k_mem))
end
noncomputable abbrev Ver:=List Int×List Int
noncomputable def verD (v:Ver):PyData:=.tuple [.list (v.1.map .int),.list (v.2.map .int)]
noncomputable def askD (p:Ver×Ver):PyData:=.tuple [verD p.1,verD p.2]
structure AskOk (x y:Ver):Prop where
  lx:x.2.length=x.1.length
  ly:y.2.length=y.1.length
  ed:aZ (idxs x.1 y.1) 0 (ro (mm x.2 y.2) (bO x.2 y.2))
  zx:x.2.length≤1000
  zy:y.2.length≤1000
  cnt:(ro (mm x.2 y.2) (bO x.2 y.2)).length < 64
theorem idxs_len (nx ny:List Int):(idxs nx ny).length=ny.length:=by unfold idxs;rw [List.length_map]
noncomputable def gI (nx:List Int):PyData→List PyData
  | .int v=>[.int (if v∈nx then ((nx.idxOf v:Nat):Int) else -1)]
  | _=>[]
theorem gI_data (nx ny:List Int):(ny.map PyData.int).flatMap (gI nx)=(idxs nx ny).map .int:=by
  unfold idxs
  rw [List.flatMap_map,List.map_map,List.map_eq_flatMap]
  rfl
section
variable {X:Cx} {k:Nat}
theorem ev_names {env:Env} {ρ:List (Str×B)} {e:Expr} {v:Ver} {n:Nat} {p1 p2:Pos} (h:Ev X k env ρ e (verD v)):Ev X k env ρ (.Subscript e (.Constant (.int 0) n p1) p2) (.list (v.1.map .int)):=ev_itemT h aJ (by decide) (by simp) (by simp only [List.length_cons,List.length_nil];decide) rfl
theorem ev_letters {env:Env} {ρ:List (Str×B)} {e:Expr} {v:Ver} {n:Nat} {p1 p2:Pos} (h:Ev X k env ρ e (verD v)):Ev X k env ρ (.Subscript e (.Constant (.int 1) n p1) p2) (.list (v.2.map .int)):=ev_itemT h aJ (by decide) (by simp) (by simp only [List.length_cons,List.length_nil];decide) rfl
noncomputable def asgVal:Stmt→Expr
  | .Assign _ e _=>e
  | _=>.Name "" ⟨0,0,0,0⟩
noncomputable def callArg:Expr→Nat→Expr
  | .Call _ as _ _,i=>as.getD i (.Name "" ⟨0,0,0,0⟩)
  | _,_=>.Name "" ⟨0,0,0,0⟩
theorem law_one (F:LG X) {L f:Addr} {z1 z2 z3:Value} {ρ:List (Str×B)} {x y:Ver} (A:AskOk x y) (h1:aM ρ "x" (.val (verD x))) (h2:aM ρ "y" (.val (verD y))) {Q:Fl→List (Str×B)→Prop} (hq:∀ v,Q .next (put ρ "due" v)) :
    Exs X (k+10) (lEnv z1 z2 z3 L f) ρ (forBody (aD lBody 17)) Q:=by
  have hsl:5000≤sizeLine:=by decide
  obtain ⟨lx,ly,hed,zx,zy,cnt⟩:=A
  have hil:=idxs_len x.1 y.1
  have hcomp:Ev X (k+10) (lEnv z1 z2 z3 L f) ρ (callArg (asgVal (aD (forBody (aD lBody 17)) 0)) 1) (.list ((idxs x.1 y.1).map .int)):=by
    rw [← gI_data]
    refine EvF.ev (evf_comp (ρc:=[("x",.val (verD x))]) (items:=y.1.map .int) (gI x.1) (evi_list (ev_names (aA h2))).weak ⟨rfl,by decide,rfl,by decide,SubL.sub ⟨rfl,trivial⟩,CapL.cap ⟨⟨fun h=>h,by k_mem,rfl,rfl,_,rfl⟩,trivial⟩⟩ ?hb (by rw [gI_data,List.length_map];exact bF 0xf81111030f2323e8191021201388290f rfl hsl ly zy hil))
    intro C d hd
    obtain ⟨v,hv,rfl⟩:=List.mem_map.mp hd
    refine ⟨_,true,bE rfl,fun z b e=>?_,tstl_nil,fun _=>cmb_item (bH (ev_if (tst_in (v:=v) (ns:=x.1) (aA (by k_mem)) (bB (ev_names (aA (by k_mem))))) (fun hb=>ev_index (ns:=x.1) (v:=v) (bB (ev_names (aA (by k_mem)))) (aA (by k_mem)) (of_decide_eq_true hb) (by exact aF 0xf1111000004910f3e81900102f rfl lx zx)) (fun _=>ev_neg aJ)) ?_),fun hb=>by cases hb⟩
    · have n1:z ≠ "name":=fun q=>by subst q;cases e
      rw [bA _ n1];exact e
    · by_cases hc:v∈x.1
      · rw [if_pos hc,if_pos (decide_eq_true hc)]
      · rw [if_neg hc,if_neg (by simpa using hc)]
  refine aC (bK (d:=.list (opc x.2.length y.2.length 0 0 (ro (mm x.2 y.2) (bO x.2 y.2)))) (ev_callB (k:=k+9) (ds:=[.int x.2.length,.list ((idxs x.1 y.1).map .int)]) F.told rfl (aB ?_ (aB hcomp aG)) rfl fun L a b c=>?_) (.inl rfl) ?_)
  · rw [show (x.2.length:Int)=((x.1.map PyData.int).length:Int) by rw [List.length_map,lx]]
    exact ev_len F.df.len rfl (bB (ev_names (aA h1))) (by rw [List.length_map];exact aO 0xf1111020f3e8191021201388290f rfl hsl lx zx)
  · have hro:=ro_spec (mm x.2 y.2) (Nat.zero_le x.2.length) (Nat.zero_le y.2.length)
    have hw:=told_walk (X:=X) (k:=k+9) (L:=L) (f:=253) (a:=a) (b:=b) (c:=c) F.df.len (la:=x.2.length) (ed:=idxs x.1 y.1) (bs:=ro (mm x.2 y.2) (bO x.2 y.2)) (by rw [hil,← ly];exact hro.good') hed (by exact bF 0xf81111030f2323e8191021201388290f rfl hsl ly zy hil) (by have:=opc_len (la:=x.2.length) (lb:=(idxs x.1 y.1).length) (ro (mm x.2 y.2) (bO x.2 y.2)) 0 0;lia)
    rw [hil,← ly] at hw
    exact hw
  refine aC (ex_if (tst_of_eq (b':=false) (tst_ne (ev_opcodes F.df F.mf F.mg F.sm F.kp F.made rfl (ev_letters (aA (by k_mem))) (ev_letters (aA (by k_mem))) zx zy cnt) (aA (d:=.list (opc x.2.length y.2.length 0 0 (ro (mm x.2 y.2) (bO x.2 y.2)))) (by k_mem)) (opc_shaped _ _ _ _ _) (opc_shaped _ _ _ _ _) (by exact aQ 0xf1a80a081ff rfl)) ?_) (fun hb=>by cases hb) fun _=>aE (aE (hq _)))
  rw [eqv_self (opc_shaped _ _ _ _ _)];rfl
end
theorem blotAll_count (nums:List Int) {la lb:Nat} {b:Bool} {i j:Nat} {S:List T3} (g:Good la lb b i j S):∀ blot:Int,(bD nums blot (opc la lb i j S)).length+i≤la+3 * (S.length+1):=by
  induction g with
  | @nil b i j h1 h2 =>
    intro blot
    obtain ⟨m,g1,g2,_⟩:=gap_blots nums blot i la j lb
    show (bD nums blot (gap i la j lb)).length+i≤_
    rw [g2,up_length];simp only [List.length_nil];exact aO 0xf1111808a03b1a02a0f3820100f rfl h1 g1
  | @cons b i j ai bj n r h1 h2 h3 h4 h5 ih =>
    intro blot
    obtain ⟨m,g1,g2,_⟩:=gap_blots nums blot i ai j bj
    have h:=ih (blot+3 * (gap i ai j bj).length+3)
    unfold opc
    rw [blotAll_append,g2,bD,blotOne_code,show PyData.eqv (.str "equal") (.str "equal")=true by decide,if_pos rfl,List.length_append,List.length_append,up_length,up_length,List.length_cons]
    exact lq7 0xf11118f111108f18186aa03b5a0307a2aa0f186a03b5a41a3a03820100f141a0 rfl h1 g1 h
theorem blotRow_count (nums:List Int) {la lb:Nat} {S:List T3} (g:Good la lb true 0 0 S) (ahead behind blot:Int):(blotRow nums ahead behind blot (opc la lb 0 0 S)).length≤la+3 * (S.length+1)+6:=by
  have h:=blotAll_count nums g blot
  have a3:=fmod3 ahead
  have b3:=fmod3 behind
  unfold blotRow
  rw [List.length_append,List.length_append,up_length,up_length];exact lqx [_,_,_] [_,_] 0xf110808f1011088ff111808f111188ff68182a03b1aa403aa0f38143804182a03b1a080a0f08150805 rfl h a3.2 b3.2
theorem bothT_count {la lb:Nat} {b:Bool} {i j:Nat} {S:List T3} (g:Good la lb b i j S):(bothT la lb i j S).length+i+j≤la+lb:=by
  induction g with
  | nil h1 h2=>simp only [bothT,aT,bT,List.length_append,List.length_map,List.length_range];exact bF 0xf188f101808ff11088f1110808ff31a2054aaa0f320100f230010 rfl h1 h2
  | cons h1 h2 h3 h4 h5 ih =>
    have:=h5.le
    simp only [bothT,aT,bT,eqT,List.length_append,List.length_map,List.length_range];exact lq8 0xf100188f1101808ff1011088f11110808ff076a2045a2717aaaa0f076a53a51a4aa0320100f230010 rfl h1 h2 ih
noncomputable def RowOk (la:Nat) (r:List Int):Prop:=∀ v∈r,v < 50→0≤v∧v < la
section
variable {as bs ed:List Int} {S:List T3}
theorem RowT.ok {T:List Tg} {N:List Int} {lo hi:Int} (R:RowT S T N lo hi) (G:Gnd as bs ed S) (hlo:50≤lo):RowOk as.length N:=fun v hv h=>by
  obtain ⟨x,hx⟩:=List.mem_iff_getElem?.mp hv
  rcases R.val G hlo hx with ⟨i,j,_,rfl,hk⟩ | h'
  · have:=(G.lt hk).1;exact aF 0xf11f1f1c0c40c0837f101f rfl this
  · exact lqx [_] [_,_] 0xf1110c1410837f103320914032093f rfl hlo h h'.1
theorem Gnd.ok_named (G:Gnd as bs ed S):RowOk as.length (bC as.length (aN ed)):=fun v hv h=>by
  obtain ⟨x,hx⟩:=List.mem_iff_getElem?.mp hv
  obtain ⟨h1,⟨rfl,_⟩ | ⟨rfl,_⟩⟩:=G.named.mp hx <;> lia
theorem Gnd.ok_last (G:Gnd as bs ed S):RowOk as.length (aN ed):=fun v hv h=>by
  obtain ⟨x,hx⟩:=List.mem_iff_getElem?.mp hv
  obtain ⟨h1,⟨i,rfl,hk⟩ | ⟨rfl,_⟩⟩:=G.last.mp hx
  · have:=(G.lt hk).1;exact aF 0xf11f1f1c0c40c0837f101f rfl this
  · exact aF 0xf11c0c3209a40c3209a0837f32090c3209a4f rfl h
noncomputable def aI (as r:List Int):Ver:=(r,r.map (ltr as))
noncomputable def oldV (as:List Int):Ver:=(upTo as.length,as)
noncomputable def newV (bs ed:List Int):Ver:=(aN ed,bs)
noncomputable def asksV (as bs ed here there named both last:List Int):List (Ver×Ver) :=
  [(oldV as,aI as here),(aI as here,oldV as),(aI as here,newV bs ed),(oldV as,aI as there),(aI as there,oldV as),(aI as there,newV bs ed)] ++
  [(aI as here,aI as there),(aI as there,aI as here),(aI as named,aI as last),(aI as named,aI as both),(aI as both,aI as named),(aI as both,aI as last)]
theorem asks_ok (G:Gnd as bs ed S) (hza:as.length≤30) (hzb:bs.length≤30) (nums nums':List Int) (a1 b1 a2 b2:Int) :
    let here:=blotRow nums a1 b1 200 (opc as.length bs.length 0 0 S)
    let there:=blotRow nums' a2 b2 1000 (opc as.length bs.length 0 0 S)
    (∀ p∈asksV as bs ed here there (bC as.length (aN ed)) (bP as.length ed S) (aN ed),AskOk p.1 p.2)∧RowOk as.length here∧RowOk as.length there∧RowOk as.length (bP as.length ed S):=by
  intro here there
  obtain ⟨T,R⟩:=blotRow_tags nums G.good a1 b1 200
  obtain ⟨T',R'⟩:=blotRow_tags nums' G.good a2 b2 1000
  have hcl:=opc_len (la:=as.length) (lb:=bs.length) S 0 0
  have hcnt:=G.good.count
  have l1:here.length≤200:=by have:=blotRow_count nums G.good a1 b1 200;show (blotRow _ _ _ _ _).length≤200;exact aO 0xf1341c80920f68181a03b0aa200081a01e0900f rfl hza hcnt.1 this
  have l2:there.length≤200:=by have:=blotRow_count nums' G.good a2 b2 1000;show (blotRow _ _ _ _ _).length≤200;exact aO 0xf1341c80920f68181a03b0aa200081a01e0900f rfl hza hcnt.1 this
  have l3:=namedN_len as.length (aN ed)
  have l4:(aN ed).length=bs.length:=by rw [lastN_len,G.len]
  have l5:(bP as.length ed S).length≤60:=by
    have:=bothT_count G.goodE
    have:=G.len
    unfold bP;rw [List.length_map];exact bF 0xf811113c0920f13230a08082aa01e09101e0900f rfl hza hzb (by assumption) this
  have hi1:(200:Int)+3 * ((opc as.length bs.length 0 0 S).length:Int)+6≤1000:=by lia
  refine ⟨fun p hp=>?_,R.ok G (by decide),R'.ok G (by decide),G.rBoth.ok G (by decide)⟩
  change RowT S T here _ _ at R
  change RowT S T' there _ _ at R'
  have cw:∀ X Y:List Int,X.length≤30∨Y.length≤30→(ro (mm X Y) (bO X Y)).length < 64:=fun X Y h=>by
    have:=ro_count X Y
    rcases h with h | h <;> lia
  unfold asksV at hp
  simp only [List.cons_append,List.nil_append,List.mem_cons,List.not_mem_nil,or_false] at hp
  have lup:=upTo_len as.length
  rcases hp with rfl | rfl | rfl | rfl | rfl | rfl | rfl | rfl | rfl | rfl | rfl | rfl
  · exact ⟨lup.symm,by simp [aI],G.ask_old_row R (by decide),by simp only [oldV];exact aQ 0xf113e81900f1e0900f rfl hza,by simp only [aI,List.length_map];exact aQ 0xf113e81900fc80900f rfl l1,cw _ _ (.inl hza)⟩
  · exact ⟨by simp [aI],lup.symm,G.ask_row_old R (by decide),by simp only [aI,List.length_map];exact aQ 0xf113e81900fc80900f rfl l1,by simp only [oldV];exact aQ 0xf113e81900f1e0900f rfl hza,cw _ _ (.inr hza)⟩
  · exact ⟨by simp [aI],l4.symm,G.ask_row_new R (by decide),by simp only [aI,List.length_map];exact aQ 0xf113e81900fc80900f rfl l1,by simp only [newV];exact aQ 0xf113e81900f1e0900f rfl hzb,cw _ _ (.inr hzb)⟩
  · exact ⟨lup.symm,by simp [aI],G.ask_old_row R' (by decide),by simp only [oldV];exact aQ 0xf113e81900f1e0900f rfl hza,by simp only [aI,List.length_map];exact aQ 0xf113e81900fc80900f rfl l2,cw _ _ (.inl hza)⟩
  · exact ⟨by simp [aI],lup.symm,G.ask_row_old R' (by decide),by simp only [aI,List.length_map];exact aQ 0xf113e81900fc80900f rfl l2,by simp only [oldV];exact aQ 0xf113e81900f1e0900f rfl hza,cw _ _ (.inr hza)⟩
  · exact ⟨by simp [aI],l4.symm,G.ask_row_new R' (by decide),by simp only [aI,List.length_map];exact aQ 0xf113e81900fc80900f rfl l2,by simp only [newV];exact aQ 0xf113e81900f1e0900f rfl hzb,cw _ _ (.inr hzb)⟩
  · exact ⟨by simp [aI],by simp [aI],G.ask_row_row R R' (by decide) (by decide) (.inl hi1),by simp only [aI,List.length_map];exact aQ 0xf113e81900fc80900f rfl l1,by simp only [aI,List.length_map];exact aQ 0xf113e81900fc80900f rfl l2,by have:=G.count_rows R R' (by decide) (by decide) (.inl hi1);simp only [aI];exact aQ 0xf11400901f280900f rfl this⟩
  · exact ⟨by simp [aI],by simp [aI],G.ask_row_row R' R (by decide) (by decide) (.inr hi1),by simp only [aI,List.length_map];exact aQ 0xf113e81900fc80900f rfl l2,by simp only [aI,List.length_map];exact aQ 0xf113e81900fc80900f rfl l1,by have:=G.count_rows R' R (by decide) (by decide) (.inr hi1);simp only [aI];exact aQ 0xf11400901f280900f rfl this⟩
  · exact ⟨by simp [aI],by simp [aI],G.ask_named_last,by simp only [aI,List.length_map];exact aF 0xf8113e81910f0121e0900f rfl hza l3,by simp only [aI,List.length_map];exact aF 0xf8113e81910f0121e0900f rfl hzb l4,cw _ _ (.inl (by simp only [aI,List.length_map];exact aF 0xf8111e0910f0121e0900f rfl hza l3))⟩
  · exact ⟨by simp [aI],by simp [aI],G.ask_named_both,by simp only [aI,List.length_map];exact aF 0xf8113e81910f0121e0900f rfl hza l3,by simp only [aI,List.length_map];exact aQ 0xf113e81900f3c0900f rfl l5,cw _ _ (.inl (by simp only [aI,List.length_map];exact aF 0xf8111e0910f0121e0900f rfl hza l3))⟩
  · exact ⟨by simp [aI],by simp [aI],G.ask_both_named,by simp only [aI,List.length_map];exact aQ 0xf113e81900f3c0900f rfl l5,by simp only [aI,List.length_map];exact aF 0xf8113e81910f0121e0900f rfl hza l3,cw _ _ (.inr (by simp only [aI,List.length_map];exact aF 0xf8111e0910f0121e0900f rfl hza l3))⟩
  · exact ⟨by simp [aI],by simp [aI],G.ask_both_last,by simp only [aI,List.length_map];exact aQ 0xf113e81900f3c0900f rfl l5,by simp only [aI,List.length_map];exact aF 0xf8113e81910f0121e0900f rfl hzb l4,cw _ _ (.inr (by simp only [aI,List.length_map];exact aF 0xf8111e0910f0121e0900f rfl hzb l4))⟩
end
noncomputable def ltrD (as:List Int):PyData→List PyData
  | .int v=>[.int (ltr as v)]
  | _=>[]
noncomputable def gR (as:List Int):PyData→List PyData
  | .list l=>[.tuple [.list l,.list (l.flatMap (ltrD as))]]
  | _=>[]
theorem ltrD_data (as r:List Int):(r.map PyData.int).flatMap (ltrD as)=(r.map (ltr as)).map .int:=by
  rw [List.flatMap_map,List.map_map,List.map_eq_flatMap];rfl
theorem gR_data (as r:List Int):gR as (.list (r.map .int))=[verD (aI as r)]:=by
  show [PyData.tuple [.list (r.map .int),.list ((r.map PyData.int).flatMap (ltrD as))]]=_
  rw [ltrD_data];rfl
section
variable {X:Cx} {k:Nat}
theorem law_rows (F:LG X) {L f:Addr} {z1 z2 z3:Value} {nums as bs ed both:List Int} {S:List T3} {Q:Fl→List (Str×B)→Prop} {ρ:List (Str×B)} (G:Gnd as bs ed S) (hza:as.length≤30) (hzb:bs.length≤30) (h4:4≤nums.length) (hn:nums.length≤200) (h:LH nums as bs ρ)
    (hcd:aM ρ "codes" (.val (.list (opc as.length bs.length 0 0 S)))) (hfi:aM ρ "first" (.val (.list ((upTo as.length).map .int)))) (hla:aM ρ "last" (.val (.list ((aN ed).map .int)))) (hna:aM ρ "named" (.val (.list ((bC as.length (aN ed)).map .int)))) (hbo:aM ρ "both" (.val (.list (both.map .int))))
    (hrest:∀ ρ',aM ρ' "a" (.val (.list (as.map .int)))→aM ρ' "named" (.val (.list ((bC as.length (aN ed)).map .int)))→aM ρ' "last" (.val (.list ((aN ed).map .int)))→aM ρ' "both" (.val (.list (both.map .int))) →
      aM ρ' "here" (.val (.list ((blotRow nums (nums.getD 0 0) (nums.getD 1 0) 200 (opc as.length bs.length 0 0 S)).map .int)))→aM ρ' "there" (.val (.list ((blotRow nums.reverse (nums.getD 2 0) (nums.getD 3 0) 1000 (opc as.length bs.length 0 0 S)).map .int))) →
      aM ρ' "old" (.val (verD (oldV as)))→aM ρ' "new" (.val (verD (newV bs ed)))→Exs X (k+10) (lEnv z1 z2 z3 L f) ρ' (lBody.drop 14) Q) :
    Exs X (k+10) (lEnv z1 z2 z3 L f) ρ (lBody.drop 11) Q:=by
  have hsl:5000≤sizeLine:=by decide
  obtain ⟨g1,g2,g3⟩:=h
  have hcnt:=G.good.count
  have hcl:=opc_len (la:=as.length) (lb:=bs.length) S 0 0
  have hit:∀ {ρ:List (Str×B)} {i:Nat} {n:Nat} {p p1 p2:Pos},i < 4→aM ρ "numbers" (.val (.list (nums.map .int)))→Ev X (k+10) (lEnv z1 z2 z3 L f) ρ (.Subscript (.Name "numbers" p) (.Constant (.int (i:Int)) n p1) p2) (.int (nums.getD i 0)):=fun hi h =>
    ev_item (n:=((_:Nat):Int)) (bB (aA h)) aJ (by exact aF 0xf11c0ce3ff rfl) (by rw [List.length_map];exact aF 0xf1110c1c4f48110480f rfl h4 hi) (by rw [List.length_map];exact aF 0xf111100f11388290c80900f rfl hn hsl) (item_int (by exact aF 0xf111011f48110480f rfl h4 hi))
  refine aC (bK (d:=.list ((blotRow nums (nums.getD 0 0) (nums.getD 1 0) 200 (opc as.length bs.length 0 0 S)).map .int)) (ev_callB (k:=k+9) (ds:=[.list (opc as.length bs.length 0 0 S),.int (nums.getD 0 0),.int (nums.getD 1 0),.list (nums.map .int),.int 200]) F.blot rfl (aB (aA hcd) (aB (hit (i:=0) (by decide) g1) (aB (hit (i:=1) (by decide) g1) (aB (aA g1) (aB aJ aG))))) rfl fun L a b c=>blot_walk (k:=k+8) F (la:=as.length) (lb:=bs.length) (by exact aQ 0xf11280900f1e0900f rfl hza) (opc_mem' G.good) (by exact aO 0xf1221c80920f18102ba200081a01e0900f rfl hza hcnt.1 hcl) (by exact aQ 0xf110081f0480f rfl h4) hn (by decide) (by decide)) (.inl rfl) ?_)
  refine aC (bK (d:=.list ((blotRow nums.reverse (nums.getD 2 0) (nums.getD 3 0) 1000 (opc as.length bs.length 0 0 S)).map .int)) (ev_callB (k:=k+9) (ds:=[.list (opc as.length bs.length 0 0 S),.int (nums.getD 2 0),.int (nums.getD 3 0),.list (nums.reverse.map .int),.int 1000]) F.blot rfl (aB (aA (by k_mem)) (aB (hit (i:=2) (by decide) (by k_mem)) (aB (hit (i:=3) (by decide) (by k_mem)) (aB (bH (ev_slice (ds:=nums.map .int) (lo:=none) (hi:=none) (st:=some (-1)) (bB (aA (by k_mem))) evp_none evp_none (evp_some (ev_neg aJ)) (by decide) (by rw [List.length_map];exact aF 0xf111100f11388290c80900f rfl hn hsl)) ?_) (aB aJ aG))))) rfl fun L a b c=>blot_walk (k:=k+8) F (la:=as.length) (lb:=bs.length) (by exact aQ 0xf11280900f1e0900f rfl hza) (opc_mem' G.good) (by exact aO 0xf1221c80920f18102ba200081a01e0900f rfl hza hcnt.1 hcl) (by rw [List.length_reverse];exact aQ 0xf110081f0480f rfl h4) (by rw [List.length_reverse];exact aQ 0xf11c80900fc80900f rfl hn) (by decide) (by decide)) (.inl rfl) ?_)
  · rw [pickD_rev,List.map_reverse]
  refine aC (ex_swap (xs:=["old","new"]) (ds:=[verD (oldV as),verD (newV bs ed)]) (aV (aB (aV (aB (aA (by k_mem)) (aB (aA (by k_mem)) aG)) (by simp only [List.length_cons,List.length_nil];exact aQ 0xf110181808aa0f01388290f rfl hsl)) (aB (aV (aB (aA (by k_mem)) (aB (aA (by k_mem)) aG)) (by simp only [List.length_cons,List.length_nil];exact aQ 0xf110181808aa0f01388290f rfl hsl)) aG)) (by simp only [List.length_cons,List.length_nil];exact aQ 0xf110181808aa0f01388290f rfl hsl)) (bJ (.inl rfl) (bJ (.inl rfl) asgn_nil)) ?_ rfl rfl rfl)
  exact hrest _ (by k_mem) (by k_mem) (by k_mem) (by k_mem) (by k_mem) (by k_mem) (by k_mem) (by k_mem)
end
theorem item_ltr {as:List Int} {v:Int} (h0:0≤v) (h1:v < as.length):(as.map PyData.int)[placeOf v (as.map PyData.int).length]?=some (.int (as.getD v.toNat 0)):=by
  unfold placeOf
  rw [if_neg (by exact lqx [] [_] 0xf1108046f0083f rfl h0),List.getElem?_map,List.getD_eq_getElem?_getD,List.getElem?_eq_getElem (by exact lqx [_] [_] 0xf11108f1018f011f0c040083f0805 rfl h0 h1)];rfl
section
variable {X:Cx} {k:Nat}
theorem law_letters (F:LG X) {L f:Addr} {z1 z2 z3:Value} {as:List Int} {r1 r2 r3 r4 r5:List Int} {Q:Fl→List (Str×B)→Prop} {ρ:List (Str×B)} (hza:as.length≤30) (hr:∀ r∈[r1,r2,r3,r4,r5],RowOk as.length r∧r.length≤1000) (ha:aM ρ "a" (.val (.list (as.map .int))))
    (h1:aM ρ "here" (.val (.list (r1.map .int)))) (h2:aM ρ "there" (.val (.list (r2.map .int)))) (h3:aM ρ "named" (.val (.list (r3.map .int)))) (h4:aM ρ "both" (.val (.list (r4.map .int)))) (h5:aM ρ "last" (.val (.list (r5.map .int))))
    (hrest:Exs X (k+10) (lEnv z1 z2 z3 L f) (put (put ρ "rows" (.own [verD (aI as r1),verD (aI as r2),verD (aI as r3),verD (aI as r4),verD (aI as r5)])) "rows" (.val (.list [verD (aI as r1),verD (aI as r2),verD (aI as r3),verD (aI as r4),verD (aI as r5)]))) (lBody.drop 15) Q) :
    Exs X (k+10) (lEnv z1 z2 z3 L f) ρ (lBody.drop 14) Q:=by
  have hsl:5000≤sizeLine:=by decide
  have hall:[PyData.list (r1.map .int),.list (r2.map .int),.list (r3.map .int),.list (r4.map .int),.list (r5.map .int)].flatMap (gR as)=[verD (aI as r1),verD (aI as r2),verD (aI as r3),verD (aI as r4),verD (aI as r5)]:=by
    simp only [List.flatMap_cons,List.flatMap_nil,gR_data,List.cons_append,List.nil_append]
  rw [← hall] at hrest
  refine aC (ex_assignC (ρc:=[("a",.val (.list (as.map .int)))]) (items:=[PyData.list (r1.map .int),.list (r2.map .int),.list (r3.map .int),.list (r4.map .int),.list (r5.map .int)]) (gR as) (evi_list (ev_list (aB (aA h1) (aB (aA h2) (aB (aA h3) (aB (aA h4) (aB (aA h5) aG))))) (by simp only [List.length_cons,List.length_nil];exact aQ 0xf110181818181808aaaaa0f01388290f rfl hsl))).weak ⟨rfl,by decide,rfl,by decide,SubL.sub ⟨rfl,trivial⟩,CapL.cap ⟨⟨fun h=>h,by k_mem,rfl,rfl,_,rfl⟩,trivial⟩⟩ ?hb (by rw [hall];simp only [List.length_cons,List.length_nil];exact aQ 0xf110181818181808aaaaa0f01388290f rfl hsl) (.inl rfl) (exs_freeze (x:="rows") (by k_mem) hrest))
  case hb =>
    intro C d hd
    obtain ⟨r,hrm,rfl⟩:∃ r∈[r1,r2,r3,r4,r5],d=PyData.list (r.map .int):=by
      simp only [List.mem_cons,List.not_mem_nil,or_false] at hd
      rcases hd with rfl | rfl | rfl | rfl | rfl
      · exact ⟨r1,by simp,rfl⟩
      · exact ⟨r2,by simp,rfl⟩
      · exact ⟨r3,by simp,rfl⟩
      · exact ⟨r4,by simp,rfl⟩
      · exact ⟨r5,by simp,rfl⟩
    obtain ⟨hok,hlen⟩:=hr r hrm
    rw [gR_data]
    refine ⟨_,true,bE rfl,fun z b e=>?_,tstl_nil,fun _=>cmb_item (aV (aB (aA (by k_mem)) (aB (d:=.list ((r.map (ltr as)).map .int)) ?_ aG)) (by simp only [List.length_cons,List.length_nil];exact aQ 0xf110181808aa0f01388290f rfl hsl)),fun hb=>by cases hb⟩
    · have n1:z ≠ "row":=fun q=>by subst q;cases e
      rw [bA _ n1];exact e
    · rw [← ltrD_data]
      refine EvF.ev (evf_comp (ρc:=[("a",.val (.list (as.map .int)))]) (items:=r.map .int) (ltrD as) (evi_list (aA (by k_mem))).weak ⟨rfl,by decide,rfl,by decide,SubL.sub ⟨rfl,trivial⟩,CapL.cap ⟨⟨fun h=>h,by k_mem,rfl,rfl,_,rfl⟩,trivial⟩⟩ ?_ (by rw [ltrD_data,List.length_map,List.length_map];exact aF 0xf111010f3e8191001388290f rfl hsl hlen))
      intro C' d hd
      obtain ⟨v,hv,rfl⟩:=List.mem_map.mp hd
      refine ⟨_,true,bE rfl,fun z b e=>?_,tstl_nil,fun _=>cmb_item (bH (ev_if (aL (aA (d:=.int v) (by k_mem)) aJ rfl) (fun hb=>ev_item (ds:=as.map .int) (n:=v) (d:=.int (as.getD v.toNat 0)) (bB (aA (by k_mem))) (aA (by k_mem)) ?_ ?_ (by rw [List.length_map];exact aF 0xf111100f113882901e0900f rfl hza hsl) ?_) (fun _=>aA (d:=.int v) (by k_mem))) ?_),fun hb=>by cases hb⟩
      · have n1:z ≠ "name":=fun q=>by subst q;cases e
        rw [bA _ n1];exact e
      · have:=hok v hv (of_decide_eq_true hb);exact lqx [_] [_] 0xf1100ce3f0083f rfl this.1
      · rw [List.length_map];exact (hok v hv (of_decide_eq_true hb)).2
      · have:=hok v hv (of_decide_eq_true hb)
        exact item_ltr this.1 this.2
      · unfold ltr
        by_cases hc:v < 50
        · rw [if_pos hc,if_pos (decide_eq_true hc)]
        · rw [if_neg hc,if_neg (by simpa using hc)]
end
section
variable {X:Cx} {k:Nat}
theorem ev_ask {env:Env} {ρ:List (Str×B)} {e e':Expr} {x y:Ver} {n:Nat} {pos:Pos} (h:Ev X k env ρ e (verD x)) (h':Ev X k env ρ e' (verD y)) (he:starEach [e,e'] env=(false,eval e env) :: starEach [e'] env:=by rfl) (he':starEach [e'] env=[(false,eval e' env)]:=by rfl):Ev X k env ρ (.Tuple [e,e'] n pos) (askD (x,y)) :=
  aV (aB h (aB h' aG he') he) (by show 2≤sizeLine;decide)
theorem ev_row {env:Env} {ρ:List (Str×B)} {x:Str} {Vs:List Ver} {i:Nat} {v:Ver} {n:Nat} {p p1 p2:Pos} (h:aM ρ x (.val (.list (Vs.map verD)))) (hi:Vs[i]?=some v) (hz:Vs.length≤1000) (hd:(x == ("__debug__":Str))=false:=by decide):Ev X k env ρ (.Subscript (.Name x p) (.Constant (.int (i:Int)) n p1) p2) (verD v):=by
  have hsl:5000≤sizeLine:=by decide
  obtain ⟨hl,_⟩:=List.getElem?_eq_some_iff.mp hi
  refine ev_item (n:=(i:Int)) (bB (aA h hd)) aJ (by exact aF 0xf11c0ce3ff rfl) (by rw [List.length_map];exact aF 0xf111c0c4f101f rfl hl) (by rw [List.length_map];exact aF 0xf111100f113882903e81900f rfl hz hsl) ?_
  unfold placeOf
  rw [if_neg (by exact aQ 0xf1080c46ff rfl),Int.toNat_natCast,List.getElem?_map,hi];rfl
theorem law_asks (F:LG X) {L f:Addr} {z1 z2 z3:Value} {as bs ed here there named both last:List Int} {ρ:List (Str×B)} (hall:∀ p∈asksV as bs ed here there named both last,AskOk p.1 p.2)
    (h1:aM ρ "old" (.val (verD (oldV as)))) (h2:aM ρ "new" (.val (verD (newV bs ed)))) (h3:aM ρ "rows" (.val (.list ([aI as here,aI as there,aI as named,aI as both,aI as last].map verD)))) :
    Exs X (k+10) (lEnv z1 z2 z3 L f) ρ (lBody.drop 15) fun fl _=>fl=.ret (.bool true):=by
  have hsl:5000≤sizeLine:=by decide
  have ro:∀ {ρ:List (Str×B)} {i:Nat} {v:Ver} {n:Nat} {p p1 p2:Pos},aM ρ "rows" (.val (.list ([aI as here,aI as there,aI as named,aI as both,aI as last].map verD)))→[aI as here,aI as there,aI as named,aI as both,aI as last][i]?=some v→Ev X (k+10) (lEnv z1 z2 z3 L f) ρ (.Subscript (.Name "rows" p) (.Constant (.int (i:Int)) n p1) p2) (verD v):=fun h hi=>ev_row h hi (by simp)
  refine aC (ex_assignF (ds:=[askD (oldV as,aI as here),askD (aI as here,oldV as),askD (aI as here,newV bs ed),askD (oldV as,aI as there),askD (aI as there,oldV as),askD (aI as there,newV bs ed)]) (evf_list (aB (ev_ask (aA h1) (ro (i:=0) h3 rfl)) (aB (ev_ask (ro (i:=0) h3 rfl) (aA h1)) (aB (ev_ask (ro (i:=0) h3 rfl) (aA h2)) (aB (ev_ask (aA h1) (ro (i:=1) h3 rfl)) (aB (ev_ask (ro (i:=1) h3 rfl) (aA h1)) (aB (ev_ask (ro (i:=1) h3 rfl) (aA h2)) aG)))))) (by simp only [List.length_cons,List.length_nil];exact aQ 0xf11018181818181808aaaaaa0f01388290f rfl hsl)) (.inl rfl) ?_)
  have h3':aM (put ρ "asks" (.own [askD (oldV as,aI as here),askD (aI as here,oldV as),askD (aI as here,newV bs ed),askD (oldV as,aI as there),askD (aI as there,oldV as),askD (aI as there,newV bs ed)])) "rows" (.val (.list ([aI as here,aI as there,aI as named,aI as both,aI as last].map verD))):=has_skip h3 (by decide)
  have ho:aM (put ρ "asks" (.own [askD (oldV as,aI as here),askD (aI as here,oldV as),askD (aI as here,newV bs ed),askD (oldV as,aI as there),askD (aI as there,oldV as),askD (aI as there,newV bs ed)])) "asks" (.own [askD (oldV as,aI as here),askD (aI as here,oldV as),askD (aI as here,newV bs ed),askD (oldV as,aI as there),askD (aI as there,oldV as),askD (aI as there,newV bs ed)]):=by k_mem
  generalize put ρ "asks" (.own [askD (oldV as,aI as here),askD (aI as here,oldV as),askD (aI as here,newV bs ed),askD (oldV as,aI as there),askD (aI as there,oldV as),askD (aI as there,newV bs ed)])=ρ₁ at h3' ho ⊢
  refine aC (ex_extend (es:=[askD (aI as here,aI as there),askD (aI as there,aI as here),askD (aI as named,aI as last),askD (aI as named,aI as both),askD (aI as both,aI as named),askD (aI as both,aI as last)]) ho (ev_list (aB (ev_ask (ro (i:=0) h3' rfl) (ro (i:=1) h3' rfl)) (aB (ev_ask (ro (i:=1) h3' rfl) (ro (i:=0) h3' rfl)) (aB (ev_ask (ro (i:=2) h3' rfl) (ro (i:=4) h3' rfl)) (aB (ev_ask (ro (i:=2) h3' rfl) (ro (i:=3) h3' rfl)) (aB (ev_ask (ro (i:=3) h3' rfl) (ro (i:=2) h3' rfl)) (aB (ev_ask (ro (i:=3) h3' rfl) (ro (i:=4) h3' rfl)) aG)))))) (by simp only [List.length_cons,List.length_nil];exact aQ 0xf11018181818181808aaaaaa0f01388290f rfl hsl)) (by simp only [List.length_cons,List.length_nil];exact aQ 0xf11018181818181808aaaaaa18181818181808aaaaaaa0f01388290f rfl hsl) ?_)
  have hds:[askD (oldV as,aI as here),askD (aI as here,oldV as),askD (aI as here,newV bs ed),askD (oldV as,aI as there),askD (aI as there,oldV as),askD (aI as there,newV bs ed)]++[askD (aI as here,aI as there),askD (aI as there,aI as here),askD (aI as named,aI as last),askD (aI as named,aI as both),askD (aI as both,aI as named),askD (aI as both,aI as last)]=(asksV as bs ed here there named both last).map askD:=rfl
  rw [hds]
  generalize asksV as bs ed here there named both last=al at hall
  refine exs_freeze (x:="asks") (by k_mem) (aC (ex_for (items:=al.map askD) (evi_list (aA (by k_mem))) (fun _ _=>True) trivial ?_ ?_))
  · intro i d ρ₂ hd _ Q1 H1
    rw [List.getElem?_map] at hd
    obtain ⟨p,hp,rfl⟩:=Option.map_eq_some_iff.mp hd
    exact ⟨_,asg_tuple (aP (aK (.inr ⟨rfl,_,rfl⟩)) (aP (aK (.inl rfl)) asgl_nil)) rfl rfl,law_one F (hall p (List.mem_of_getElem? hp)) (by k_mem) (by k_mem) fun v=>H1.next trivial⟩
  · intro ρ₂ _
    exact aC (ex_return ev_bool rfl)
theorem law_walk (F:LG X) {L f sa:Addr} {z1 z2 z3:Value} {vs:Array Value} {ns:List Int} (ha:X.h₀.IsList sa vs) (hv:IntsAre vs.toList ns) (hn:ns.length≤63) :
    Exs X (k+10) (lEnv z1 z2 z3 L f) [("script",.raw (.ref sa))] lBody fun fl _=>fl=.ret (.bool true):=by
  refine law_texts F ha hv hn fun ρ h1 h2 h3=>?_
  have tA:=txA_ok (ns++tailN)
  have tB:=txB_ok (ns++tailN)
  have hnl:12≤(ns++tailN).length∧(ns++tailN).length≤80:=by rw [List.length_append];simp [tailN];exact aQ 0xf11440900f3f0900f rfl hn
  generalize txA (ns++tailN)=as at *
  generalize txB (ns++tailN)=bs at *
  generalize ns++tailN=nums at *
  have zA:=tA.len
  have zB:=tB.len
  refine law_names F tA tB ⟨h1,h2,h3⟩ fun ρ ed G h hcd hfi hla hna=>?_
  have hcnt:=G.good.count
  have hcl:=opc_len (la:=as.length) (lb:=bs.length) (Sof as bs) 0 0
  have l3:=namedN_len as.length (aN ed)
  have l4:(aN ed).length=bs.length:=by rw [lastN_len,G.len]
  refine law_both F (by exact aF 0xf8111e0910f0121e0900f rfl zA l3) (by exact aF 0xf8111e0910f0121e0900f rfl zB l4) (by exact aO 0xf1221c80920f18102ba200081a01e0900f rfl zB hcnt.2 hcl) (fun x hx=>opc_mem hx) hcd hna hla fun ρ' hk hbo=>?_
  have hbd:=both_data (bC as.length (aN ed)) (aN ed) G.goodE l3 (by rw [lastN_len])
  rw [G.len] at hbd
  rw [hbd] at hbo
  have hbN:(bothT as.length bs.length 0 0 (Sof as bs)).map (nmT (bC as.length (aN ed)) (aN ed))=bP as.length ed (Sof as bs):=by unfold bP;rw [G.len]
  rw [hbN] at hbo
  refine law_rows F G zA zB (by exact aQ 0xf110480f0c80f rfl hnl.1) (by exact aQ 0xf11c80900f500900f rfl hnl.2) ⟨hk.get rfl h.numbers,hk.get rfl h.a,hk.get rfl h.b⟩
    (hk.get rfl hcd) (hk.get rfl hfi) (hk.get rfl hla) (hk.get rfl hna) hbo fun ρ₂ g1 g2 g3 g4 g5 g6 g7 g8=>?_
  obtain ⟨hall,o1,o2,o3⟩:=asks_ok G zA zB nums nums.reverse (nums.getD 0 0) (nums.getD 1 0) (nums.getD 2 0) (nums.getD 3 0)
  have c1:=blotRow_count nums G.good (nums.getD 0 0) (nums.getD 1 0) 200
  have c2:=blotRow_count nums.reverse G.good (nums.getD 2 0) (nums.getD 3 0) 1000
  have c3:=bothT_count G.goodE
  have c4:(bP as.length ed (Sof as bs)).length=(bothT as.length ed.length 0 0 (Sof as bs)).length:=by unfold bP;rw [List.length_map]
  have c5:=G.len
  refine law_letters F zA (fun r hr=>?_) g1 g5 g6 g2 g4 g3 (law_asks F hall (by k_mem) (by k_mem) (by k_mem))
  simp only [List.mem_cons,List.not_mem_nil,or_false] at hr
  rcases hr with rfl | rfl | rfl | rfl | rfl
  · exact ⟨o1,by exact aO 0xf13413e81920f68181a03b0aa200081a01e0900f rfl zA hcnt.1 c1⟩
  · exact ⟨o2,by exact aO 0xf13413e81920f68181a03b0aa200081a01e0900f rfl zA hcnt.1 c2⟩
  · exact ⟨G.ok_named,by exact aF 0xf8113e81910f0121e0900f rfl zA l3⟩
  · exact ⟨o3,by exact lq5 0xf8811113e81940f13224230a08082aa01e09101e0900f rfl zA zB c3 c4 c5⟩
  · exact ⟨G.ok_last,by exact aF 0xf8113e81910f0121e0900f rfl zB l4⟩
end
universe u
noncomputable def anyL {α:Type u} (p:α→Bool) (l:List α):Bool :=
  @List.rec α (fun _=>Bool) false (fun a _ ih=>@Bool.rec (fun _=>Bool) ih true (p a)) l
theorem anyL_eq {α:Type u} (p:α→Bool):∀ l:List α,l.any p=anyL p l
  | []=>rfl
  | a :: l=>by
    rw [List.any_cons,anyL_eq p l]
    show _=@Bool.rec (fun _=>Bool) (anyL p l) true (p a)
    cases p a <;> rfl
noncomputable def anyA {α:Type u} (as:Array α) (p:α→Bool) (start stop:Nat):Bool :=
  @Bool.rec (fun _=>Bool) (Array.any as p start stop) (@Bool.rec (fun _=>Bool) (Array.any as p start stop) (anyL p as.toList) (Nat.beq stop as.toList.length)) (Nat.beq start 0)
theorem anyA_eq:@Array.any.{u}=@anyA.{u}:=by
  funext α as p start stop
  unfold anyA
  cases h0:Nat.beq start 0 with
  | false=>rfl
  | true =>
    show _=@Bool.rec (fun _=>Bool) (Array.any as p start stop) (anyL p as.toList) (Nat.beq stop as.toList.length)
    cases h1:Nat.beq stop as.toList.length with
    | false=>rfl
    | true =>
      have e0:=Nat.eq_of_beq_eq_true h0
      have e1:=Nat.eq_of_beq_eq_true h1
      subst e0 e1
      show _=anyL p as.toList
      rw [← anyL_eq,Array.any_toList]
      rfl
noncomputable def tabOf (tn:Builtin) (id:String):Option Builtin :=
  @Bool.rec (fun _=>Option Builtin) (PySem.W.Fast.tw14364793385576792824 id) (some tn) (Nat.beq (PySem.W.Fast.tw13482112738370960269 id) 29827186395103491166823348853)
theorem tabOf_eq:treeTable=tabOf PySem.W.Fast.tw4202317264376624991:=by
  rw [← PySem.W.Fast.te4202317264376624991]
  funext id
  unfold tabOf
  rw [← PySem.W.Fast.te14364793385576792824,← PySem.W.Fast.te13482112738370960269]
  cases h:Nat.beq (PySem.code id) 29827186395103491166823348853 with
  | false=>rfl
  | true =>
    have e:=Nat.eq_of_beq_eq_true h
    show entriesT.find (PySem.code id)=some _
    rw [e]
    kernel_rfl
noncomputable def KG (f:String→Str) (tb:List Stmt) (P:Params):Frag :=
[  (2,⟨.none,none,.dict [].toArray 0,#[]⟩),
  (3,⟨.type "dict",none,.dict [⟨PyData.keyHash P (f "__name__"),.str (f "__name__") 165,.str (f "law_mt0008_03") 583⟩,⟨PyData.keyHash P (f "__doc__"),.str (f "__doc__") 166,.none⟩,⟨PyData.keyHash P (f "__package__"),.str (f "__package__") 167,.none⟩,⟨PyData.keyHash P (f "__loader__"),.str (f "__loader__") 168,.builtin "__main__.__loader__#opaque"⟩,⟨PyData.keyHash P (f "__spec__"),.str (f "__spec__") 169,.none⟩,⟨PyData.keyHash P (f "__annotations__"),.str (f "__annotations__") 170,.ref 6⟩,⟨PyData.keyHash P (f "__builtins__"),.str (f "__builtins__") 171,.ref 4⟩,⟨PyData.keyHash P (f "__file__"),.str (f "__file__") 173,.str (f "/claim/cut.py") 172⟩,⟨PyData.keyHash P (f "__cached__"),.str (f "__cached__") 174,.none⟩,⟨PyData.keyHash P (f "_wall"),.str (f "_wall") 193,.ref 21⟩,⟨PyData.keyHash P (f "_tuplegetter"),.str (f "_tuplegetter") 252,.ref 60⟩,⟨PyData.keyHash P (f "Match"),.str (f "Match") 380,.ref 135⟩,⟨PyData.keyHash P (f "_calculate_ratio"),.str (f "_calculate_ratio") 388,.ref 145⟩,⟨PyData.keyHash P (f "SequenceMatcher"),.str (f "SequenceMatcher") 582,.ref 242⟩,⟨PyData.keyHash P (f "_law_told"),.str (f "_law_told") 598,.ref 253⟩,⟨PyData.keyHash P (f "_law_edit"),.str (f "_law_edit") 604,.ref 258⟩,⟨PyData.keyHash P (f "_law_blotted"),.str (f "_law_blotted") 621,.ref 265⟩,⟨PyData.keyHash P (f "law"),.str (f "law") 627,.ref 270⟩].toArray 18,#[]⟩),
  (81,⟨.type "code",none,.fields #[.str (f "__new__") 274,.str (f "Match.__new__") 275,.str (f "/claim/cut.py") 276,.int (29) 0,.int (4) 0,.int (0) 0,.int (0) 0,.int (3) 0,.ref 76,.bool true,.int (181) 0,.ref 77,.none,.ref 78,.ref 79,.ref 80,.int (281) 0,.int (29) 0,.str (f "/claim/cut.py") 282],#[]⟩),
  (82,⟨.type "function",none,.func (fnOf (f "__new__") (f "Match.__new__") (defArgs (aD (aR (aD tb 3)) 4)) (aH (aD (aR (aD tb 3)) 4)) (bL (aD (aR (aD tb 3)) 4)) (.none) (.none) (docV (aH (aD (aR (aD tb 3)) 4)) 283) (.str (f "cpy313.difflib") 194) none (.ref 81) (.none)),#[]⟩),
  (88,⟨.type "code",none,.fields #[.str (f "_make") 285,.str (f "Match._make") 286,.str (f "/claim/cut.py") 287,.int (33) 0,.int (2) 0,.int (0) 0,.int (0) 0,.int (3) 0,.ref 83,.bool true,.int (181) 0,.ref 84,.none,.ref 85,.ref 86,.ref 87,.int (291) 0,.int (33) 0,.str (f "/claim/cut.py") 292],#[]⟩),
  (89,⟨.type "function",none,.func (fnOf (f "_make") (f "Match._make") (defArgs (aD (aR (aD tb 3)) 5)) (aH (aD (aR (aD tb 3)) 5)) (bL (aD (aR (aD tb 3)) 5)) (.none) (.none) (docV (aH (aD (aR (aD tb 3)) 5)) 293) (.str (f "cpy313.difflib") 194) (some 92) (.ref 88) (.none)),#[]⟩),
  (91,⟨.type "classmethod",(some 90),.fields #[.ref 89,.bool false],#[]⟩),
  (134,⟨.type "dict",none,.dict [⟨PyData.keyHash P (f "__module__"),.str (f "__module__") 260,.str (f "cpy313.difflib") 194⟩,⟨PyData.keyHash P (f "__firstlineno__"),.str (f "__firstlineno__") 264,.int (23) 263⟩,⟨PyData.keyHash P (f "__doc__"),.str (f "__doc__") 266,docV (aR (aD tb 3)) 265⟩,⟨PyData.keyHash P (f "__slots__"),.str (f "__slots__") 268,.ref 73⟩,⟨PyData.keyHash P (f "_fields"),.str (f "_fields") 272,.ref 74⟩,⟨PyData.keyHash P (f "_field_defaults"),.str (f "_field_defaults") 273,.ref 75⟩,⟨PyData.keyHash P (f "__new__"),.str (f "__new__") 284,.ref 136⟩,⟨PyData.keyHash P (f "_make"),.str (f "_make") 306,.ref 91⟩,⟨PyData.keyHash P (f "_replace"),.str (f "_replace") 317,.ref 100⟩,⟨PyData.keyHash P (f "__replace__"),.str (f "__replace__") 318,.ref 100⟩,⟨PyData.keyHash P (f "__repr__"),.str (f "__repr__") 326,.ref 107⟩,⟨PyData.keyHash P (f "_asdict"),.str (f "_asdict") 333,.ref 114⟩,⟨PyData.keyHash P (f "__getnewargs__"),.str (f "__getnewargs__") 341,.ref 121⟩,⟨PyData.keyHash P (f "__match_args__"),.str (f "__match_args__") 345,.ref 122⟩,⟨PyData.keyHash P (f "a"),.str (f "a") 355,.ref 124⟩,⟨PyData.keyHash P (f "b"),.str (f "b") 365,.ref 127⟩,⟨PyData.keyHash P (f "size"),.str (f "size") 375,.ref 130⟩,⟨PyData.keyHash P (f "__static_attributes__"),.str (f "__static_attributes__") 376,.ref 132⟩].toArray 2,#[]⟩),
  (135,⟨.type "type",none,.cls { name:=(f "Match"),bases:=[.type "tuple"],mro:=[.ref 135,.type "tuple",.type "object"],ns:=134,qualname:=(f "Match"),hasDict:=false,slotNames:=[],subclasses:=[],abstract:=false,collection:=none,hasDel:=false },#[some (.ref 65),none,some (.str (f "Match") 253),some (.str (f "Match") 261),some (.none),some (.bool false)]⟩),
  (136,⟨.type "staticmethod",none,.fields #[.ref 82],#[]⟩),
  (153,⟨.type "tuple",none,.seq #[.none,.str (f "") 404,.str (f "") 405,.bool true] 0,#[]⟩),
  (159,⟨.type "code",none,.fields #[.str (f "__init__") 406,.str (f "SequenceMatcher.__init__") 407,.str (f "/claim/cut.py") 408,.int (145) 0,.int (5) 0,.int (0) 0,.int (0) 0,.int (3) 0,.ref 154,.bool true,.int (181) 0,.ref 155,.none,.ref 156,.ref 157,.ref 158,.int (414) 0,.int (145) 0,.str (f "/claim/cut.py") 415],#[]⟩),
  (160,⟨.type "function",none,.func (fnOf (f "__init__") (f "SequenceMatcher.__init__") (defArgs (aD (aR (aD tb 5)) 1)) (aH (aD (aR (aD tb 5)) 1)) (bL (aD (aR (aD tb 5)) 1)) (.ref 153) (.none) (docV (aH (aD (aR (aD tb 5)) 1)) 416) (.str (f "cpy313.difflib") 194) none (.ref 159) (.none)),#[]⟩),
  (166,⟨.type "code",none,.fields #[.str (f "set_seqs") 418,.str (f "SequenceMatcher.set_seqs") 419,.str (f "/claim/cut.py") 420,.int (173) 0,.int (3) 0,.int (0) 0,.int (0) 0,.int (3) 0,.ref 161,.bool true,.int (181) 0,.ref 162,.none,.ref 163,.ref 164,.ref 165,.int (424) 0,.int (173) 0,.str (f "/claim/cut.py") 425],#[]⟩),
  (167,⟨.type "function",none,.func (fnOf (f "set_seqs") (f "SequenceMatcher.set_seqs") (defArgs (aD (aR (aD tb 5)) 2)) (aH (aD (aR (aD tb 5)) 2)) (bL (aD (aR (aD tb 5)) 2)) (.none) (.none) (docV (aH (aD (aR (aD tb 5)) 2)) 426) (.str (f "cpy313.difflib") 194) none (.ref 166) (.none)),#[]⟩),
  (173,⟨.type "code",none,.fields #[.str (f "set_seq1") 428,.str (f "SequenceMatcher.set_seq1") 429,.str (f "/claim/cut.py") 430,.int (184) 0,.int (2) 0,.int (0) 0,.int (0) 0,.int (3) 0,.ref 168,.bool true,.int (181) 0,.ref 169,.none,.ref 170,.ref 171,.ref 172,.int (433) 0,.int (184) 0,.str (f "/claim/cut.py") 434],#[]⟩),
  (174,⟨.type "function",none,.func (fnOf (f "set_seq1") (f "SequenceMatcher.set_seq1") (defArgs (aD (aR (aD tb 5)) 3)) (aH (aD (aR (aD tb 5)) 3)) (bL (aD (aR (aD tb 5)) 3)) (.none) (.none) (docV (aH (aD (aR (aD tb 5)) 3)) 435) (.str (f "cpy313.difflib") 194) none (.ref 173) (.none)),#[]⟩),
  (180,⟨.type "code",none,.fields #[.str (f "set_seq2") 437,.str (f "SequenceMatcher.set_seq2") 438,.str (f "/claim/cut.py") 439,.int (209) 0,.int (2) 0,.int (0) 0,.int (0) 0,.int (3) 0,.ref 175,.bool true,.int (181) 0,.ref 176,.none,.ref 177,.ref 178,.ref 179,.int (442) 0,.int (209) 0,.str (f "/claim/cut.py") 443],#[]⟩),
  (181,⟨.type "function",none,.func (fnOf (f "set_seq2") (f "SequenceMatcher.set_seq2") (defArgs (aD (aR (aD tb 5)) 4)) (aH (aD (aR (aD tb 5)) 4)) (bL (aD (aR (aD tb 5)) 4)) (.none) (.none) (docV (aH (aD (aR (aD tb 5)) 4)) 444) (.str (f "cpy313.difflib") 194) none (.ref 180) (.none)),#[]⟩),
  (187,⟨.type "code",none,.fields #[.str (f "__chain_b") 446,.str (f "SequenceMatcher.__chain_b") 447,.str (f "/claim/cut.py") 448,.int (236) 0,.int (1) 0,.int (0) 0,.int (0) 0,.int (3) 0,.ref 182,.bool true,.int (181) 0,.ref 183,.none,.ref 184,.ref 185,.ref 186,.int (461) 0,.int (236) 0,.str (f "/claim/cut.py") 462],#[]⟩),
  (188,⟨.type "function",none,.func (fnOf (f "__chain_b") (f "SequenceMatcher.__chain_b") (defArgs (aD (aR (aD tb 5)) 5)) (aH (aD (aR (aD tb 5)) 5)) (bL (aD (aR (aD tb 5)) 5)) (.none) (.none) (.none) (.str (f "cpy313.difflib") 194) none (.ref 187) (.none)),#[]⟩),
  (189,⟨.type "tuple",none,.seq #[.int (0) 464,.none,.int (0) 465,.none] 0,#[]⟩),
  (195,⟨.type "code",none,.fields #[.str (f "find_longest_match") 466,.str (f "SequenceMatcher.find_longest_match") 467,.str (f "/claim/cut.py") 468,.int (260) 0,.int (5) 0,.int (0) 0,.int (0) 0,.int (3) 0,.ref 190,.bool true,.int (181) 0,.ref 191,.none,.ref 192,.ref 193,.ref 194,.int (488) 0,.int (260) 0,.str (f "/claim/cut.py") 489],#[]⟩),
  (196,⟨.type "function",none,.func (fnOf (f "find_longest_match") (f "SequenceMatcher.find_longest_match") (defArgs (aD (aR (aD tb 5)) 6)) (aH (aD (aR (aD tb 5)) 6)) (bL (aD (aR (aD tb 5)) 6)) (.ref 189) (.none) (docV (aH (aD (aR (aD tb 5)) 6)) 490) (.str (f "cpy313.difflib") 194) none (.ref 195) (.none)),#[]⟩),
  (202,⟨.type "code",none,.fields #[.str (f "get_matching_blocks") 492,.str (f "SequenceMatcher.get_matching_blocks") 493,.str (f "/claim/cut.py") 494,.int (335) 0,.int (1) 0,.int (0) 0,.int (0) 0,.int (3) 0,.ref 197,.bool true,.int (181) 0,.ref 198,.none,.ref 199,.ref 200,.ref 201,.int (515) 0,.int (335) 0,.str (f "/claim/cut.py") 516],#[]⟩),
  (203,⟨.type "function",none,.func (fnOf (f "get_matching_blocks") (f "SequenceMatcher.get_matching_blocks") (defArgs (aD (aR (aD tb 5)) 7)) (aH (aD (aR (aD tb 5)) 7)) (bL (aD (aR (aD tb 5)) 7)) (.none) (.none) (docV (aH (aD (aR (aD tb 5)) 7)) 517) (.str (f "cpy313.difflib") 194) none (.ref 202) (.none)),#[]⟩),
  (209,⟨.type "code",none,.fields #[.str (f "get_opcodes") 519,.str (f "SequenceMatcher.get_opcodes") 520,.str (f "/claim/cut.py") 521,.int (383) 0,.int (1) 0,.int (0) 0,.int (0) 0,.int (3) 0,.ref 204,.bool true,.int (181) 0,.ref 205,.none,.ref 206,.ref 207,.ref 208,.int (530) 0,.int (383) 0,.str (f "/claim/cut.py") 531],#[]⟩),
  (210,⟨.type "function",none,.func (fnOf (f "get_opcodes") (f "SequenceMatcher.get_opcodes") (defArgs (aD (aR (aD tb 5)) 8)) (aH (aD (aR (aD tb 5)) 8)) (bL (aD (aR (aD tb 5)) 8)) (.none) (.none) (docV (aH (aD (aR (aD tb 5)) 8)) 532) (.str (f "cpy313.difflib") 194) none (.ref 209) (.none)),#[]⟩),
  (241,⟨.type "dict",none,.dict [⟨PyData.keyHash P (f "__module__"),.str (f "__module__") 396,.str (f "cpy313.difflib") 194⟩,⟨PyData.keyHash P (f "__firstlineno__"),.str (f "__firstlineno__") 400,.int (70) 399⟩,⟨PyData.keyHash P (f "__doc__"),.str (f "__doc__") 402,docV (aR (aD tb 5)) 401⟩,⟨PyData.keyHash P (f "__init__"),.str (f "__init__") 417,.ref 160⟩,⟨PyData.keyHash P (f "set_seqs"),.str (f "set_seqs") 427,.ref 167⟩,⟨PyData.keyHash P (f "set_seq1"),.str (f "set_seq1") 436,.ref 174⟩,⟨PyData.keyHash P (f "set_seq2"),.str (f "set_seq2") 445,.ref 181⟩,⟨PyData.keyHash P (f "_SequenceMatcher__chain_b"),.str (f "_SequenceMatcher__chain_b") 463,.ref 188⟩,⟨PyData.keyHash P (f "find_longest_match"),.str (f "find_longest_match") 491,.ref 196⟩,⟨PyData.keyHash P (f "get_matching_blocks"),.str (f "get_matching_blocks") 518,.ref 203⟩,⟨PyData.keyHash P (f "get_opcodes"),.str (f "get_opcodes") 533,.ref 210⟩,⟨PyData.keyHash P (f "get_grouped_opcodes"),.str (f "get_grouped_opcodes") 542,.ref 218⟩,⟨PyData.keyHash P (f "ratio"),.str (f "ratio") 551,.ref 225⟩,⟨PyData.keyHash P (f "quick_ratio"),.str (f "quick_ratio") 558,.ref 232⟩,⟨PyData.keyHash P (f "real_quick_ratio"),.str (f "real_quick_ratio") 565,.ref 239⟩,⟨PyData.keyHash P (f "__static_attributes__"),.str (f "__static_attributes__") 576,.ref 240⟩,⟨PyData.keyHash P (f "__dict__"),.str (f "__dict__") 578,.ref 243⟩,⟨PyData.keyHash P (f "__weakref__"),.str (f "__weakref__") 580,.ref 244⟩].toArray 3,#[]⟩),
  (242,⟨.type "type",none,.cls { name:=(f "SequenceMatcher"),bases:=[.type "object"],mro:=[.ref 242,.type "object"],ns:=241,qualname:=(f "SequenceMatcher"),hasDict:=true,slotNames:=[],subclasses:=[],abstract:=false,collection:=none,hasDel:=false },#[none,none,some (.str (f "SequenceMatcher") 389),some (.str (f "SequenceMatcher") 397),some (.builtin "object.__new__"),some (.bool true)]⟩),
  (253,⟨.type "function",none,.func (fnOf (f "_law_told") (f "_law_told") (defArgs (aD tb 7)) (aH (aD tb 7)) (bL (aD tb 7)) (.none) (.none) (.none) (.str (f "law_mt0008_03") 583) none (.ref 252) (.none)),#[]⟩),
  (252,⟨.type "code",none,.fields #[.str (f "_law_told") 585,.str (f "_law_told") 586,.str (f "/claim/cut.py") 587,.int (463) 0,.int (2) 0,.int (0) 0,.int (0) 0,.int (3) 0,.ref 247,.bool true,.int (181) 0,.ref 248,.none,.ref 249,.ref 250,.ref 251,.int (596) 0,.int (463) 0,.str (f "/claim/cut.py") 597],#[]⟩),
  (258,⟨.type "function",none,.func (fnOf (f "_law_edit") (f "_law_edit") (defArgs (aD tb 8)) (aH (aD tb 8)) (bL (aD tb 8)) (.none) (.none) (.none) (.str (f "law_mt0008_03") 583) none (.ref 257) (.none)),#[]⟩),
  (257,⟨.type "code",none,.fields #[.str (f "_law_edit") 599,.str (f "_law_edit") 600,.str (f "/claim/cut.py") 601,.int (481) 0,.int (2) 0,.int (0) 0,.int (0) 0,.int (3) 0,.ref 254,.bool true,.int (181) 0,.ref 255,.none,.none,.none,.ref 256,.int (602) 0,.int (481) 0,.str (f "/claim/cut.py") 603],#[]⟩),
  (265,⟨.type "function",none,.func (fnOf (f "_law_blotted") (f "_law_blotted") (defArgs (aD tb 9)) (aH (aD tb 9)) (bL (aD tb 9)) (.none) (.none) (.none) (.str (f "law_mt0008_03") 583) none (.ref 264) (.none)),#[]⟩),
  (264,⟨.type "code",none,.fields #[.str (f "_law_blotted") 605,.str (f "_law_blotted") 606,.str (f "/claim/cut.py") 607,.int (497) 0,.int (5) 0,.int (0) 0,.int (0) 0,.int (3) 0,.ref 259,.bool true,.int (181) 0,.ref 260,.none,.ref 261,.ref 262,.ref 263,.int (619) 0,.int (497) 0,.str (f "/claim/cut.py") 620],#[]⟩),
  (270,⟨.type "function",none,.func (fnOf (f "law") (f "law") (defArgs (aD tb 10)) (aH (aD tb 10)) (bL (aD tb 10)) (.none) (.none) (.none) (.str (f "law_mt0008_03") 583) none (.ref 269) (.none)),#[]⟩),
  (269,⟨.type "code",none,.fields #[.str (f "law") 622,.str (f "law") 623,.str (f "/claim/cut.py") 624,.int (506) 0,.int (1) 0,.int (0) 0,.int (0) 0,.int (3) 0,.ref 266,.bool true,.int (181) 0,.ref 267,.none,.none,.none,.ref 268,.int (625) 0,.int (506) 0,.str (f "/claim/cut.py") 626],#[]⟩)]
noncomputable def K (P:Params):Frag:=KG Str.ofString topBody P
noncomputable def kAddrs:List Addr:=[2,3,81,82,88,89,91,134,135,136,153,159,160,166,167,173,174,180,181,187,188,189,195,196,202,203,209,210,241,242,253,252,258,257,265,264,270,269]
noncomputable def loose:List Str:=["_wall","_tuplegetter","Match","_calculate_ratio","SequenceMatcher","_law_told","_law_edit","_law_blotted"]
noncomputable def q:Program:=view pw [10]

noncomputable def natsOf (l:List UInt8):List Nat:=@List.rec UInt8 (fun _=>List Nat) [] (fun b _ ih=>b.toNat :: ih) l
noncomputable def ofStrQ (s:String):Str:=@Bool.rec (fun _=>Str) (Str.ofString s) ⟨⟨natsOf (S.bytesOf s)⟩⟩ (S.allLow (S.bytesOf s))
theorem natsOf_eq:∀ l,S.allLow l=true→natsOf l=(S.decA l).map Char.toNat
  | [],_=>rfl
  | b :: l,h=>by
    rw [S.allLow_cons] at h
    have h2:=(Bool.and_eq_true _ _ ▸ h:_∧_)
    have e:(Char.ofNat b.toNat).toNat=b.toNat:=by
      have:b.toNat≤127:=Nat.le_of_ble_eq_true h2.1
      have:b.toNat.isValidChar:=.inl (by exact aQ 0xf11d8002901f7f0900f rfl this)
      unfold Char.ofNat
      rw [dif_pos this]
      rfl
    show b.toNat :: natsOf l=(Char.ofNat b.toNat).toNat :: (S.decA l).map Char.toNat
    rw [natsOf_eq l h2.2,e]
theorem ofStr_eq:Str.ofString=ofStrQ:=by
  funext s
  have e:S.toListS s=@Bool.rec (fun _=>List Char) s.toList (S.decA (S.bytesOf s)) (S.allLow (S.bytesOf s)):=rfl
  unfold ofStrQ
  cases hv:S.allLow (S.bytesOf s) with
  | false=>rfl
  | true =>
    rw [Str.ofString_eq_toList,S.toListS_eq,e,hv]
    show Str.mk ⟨(S.decA (S.bytesOf s)).map Char.toNat⟩=⟨⟨natsOf (S.bytesOf s)⟩⟩
    rw [natsOf_eq _ hv]
noncomputable def docS (p:Program):Str:=((docOf (aR (aD p.main.body 5))).getD Str.empty)
noncomputable def sel0 {a Y:Str} (_:a=Y):Str:=Y
noncomputable def docX:Str:=by
  refine' sel0 (a:=docS pw) ?_
  rotate_left
  have hD:docS pw=Str.ofString _:=rfl
  exact hD.trans (PySem.W.Fast.ofString_ofList _)
theorem docX_eq:docS pw=docX:=by
  have hD:docS pw=Str.ofString _:=rfl
  exact hD.trans (PySem.W.Fast.ofString_ofList _)
noncomputable def sel {α β γ:Type} {a:α} {X:β→γ→α} {b:β} {d:γ} (_:a=X b d) (b':β) (d':γ):α:=X b' d'
noncomputable def pwG (f:String→Str) (D:Str):Program:=by
  refine' sel (a:=PySem.Challenge.pw_mt0008_03) (b:=Str.ofString) (d:=docS pw) ?_ f D
  rotate_left
  have hD:docS pw=Str.ofString _:=rfl
  delta PySem.Challenge.pw_mt0008_03
  rw [← hD]
  generalize docS pw=D
  generalize Str.ofString=g
  exact rfl
theorem pwG_eq:pw=pwG Str.ofString (docS pw):=by kernel_rfl
noncomputable def pwF:Program:=pwG ofStrQ docX
theorem pw_eq:pw=pwF:=by
  unfold pwF
  rw [← ofStr_eq,← docX_eq]
  exact pwG_eq
noncomputable def KF (P:Params):Frag:=KG ofStrQ pwF.main.body P
theorem K_eq:KF=K:=by
  unfold KF
  rw [← pw_eq,← ofStr_eq]
  rfl
theorem check (w:World) (os:OsState):(topFrom (tabOf PySem.W.Fast.tw4202317264376624991) pwF w 5000 ⟨boot_heap w.params,⟨[]⟩,boot_drawn,boot_toks,os⟩).map
    (fun s=>(openSeen (view pwF [10]) loose (importedModules pwF.main.body) (fun s=>xlAt (view pwF [10]) [] s && recOk [] s) true s,kAddrs.map s.heap.get?)) =
    some (openGood (view pwF [10]) loose,(KF w.params).map fun p=>some p.2):=by
  unfold topFrom
  rw [PySem.W.Fast.te14082659384304107361,PySem.W.Fast.te4187177175401517315]
  delta PySem.W.Fast.tw4202317264376624991
  rw [anyA_eq]
  kernel_rfl
theorem opening_eq:opening pw=plainProg pw.main.scope.names:=by kernel_rfl
theorem fence_eq:∀ s,fenceModules? pw s=some s:=fun s=>by kernel_rfl
theorem kAddrs_eq:∀ P,kAddrs=(K P).map (·.1):=fun _=>by kernel_rfl
theorem left:LeftO pw q loose (fun s=>xlAt q [] s && recOk [] s) (fun s=>kAddrs.map s.heap.get?) (fun w=>(K w.params).map fun p=>some p.2) 5000:=fun w=>by
  obtain ⟨⟨h,gs,dr,k,os⟩,e,e'⟩:=Option.map_eq_some_iff.mp (boot_open (p:=pw) (N:=5000) opening_eq (by decide) fence_eq w)
  obtain ⟨rfl,rfl,rfl,rfl⟩:h=boot_heap w.params∧gs=Array.mk []∧dr=boot_drawn∧k=boot_toks:=by simpa using e'
  have c:=check w os
  rw [K_eq,← pw_eq,← tabOf_eq] at c
  unfold openEnds
  rw [e,Option.bind_some]
  exact c
theorem lawSaid:OpenLaw.wellSaid PySem.Challenge.rw_mt0008_03=true:=by
  have e:PySem.Challenge.rw_mt0008_03={ PySem.Challenge.rw_mt0008_03 with prog:=pwF }:=by rw [← pw_eq];rfl
  rw [e,PySem.W.Fast.te9446332074065402090]
  kernel_rfl
noncomputable def lawDef:DefRec:={ name:="law",params:=defArgs (aD topBody 10),body:=aH (aD topBody 10),scope:=bL (aD topBody 10),pos:=defPos (aD topBody 10) }
theorem head (hc:WalkO q loose (XL q []) (InK K) PySem.Challenge.rw_mt0008_03.row.toRowW lawDef [] (fun f vs=>PySem.call f vs)):PySem.Challenge.rw_mt0008_03.Holds:=by
  refine holds_law lawSaid fun said=>?_
  refine PySem.W.holds_open (q:=q) (loose:=loose) (Xt:=fun s=>xlAt q [] s && recOk [] s) (XP:=XL q []) (YP:=InK K) (d:=lawDef) (kwd:=[]) (N:=5000) left (InK.of kAddrs_eq) InK.keeps (fun s e=>xl_of s (Bool.and_eq_true_iff.mp e).1) XL.keeps (by kernel_rfl) (by kernel_rfl) (by kernel_rfl) (fun s e=>recFacts_of (Bool.and_eq_true_iff.mp e).2) (by rfl) said (by decide +kernel) ⟨rfl,rfl,rfl,rfl,rfl,by decide +kernel⟩ ?hw hc
  case hw=>w_witness2
theorem args_ints {R:WRecords} {args:List WData} (h:WShape.hasAll R args [.list .int]=true):∃ ns:List Int,args=[.list (ns.map WData.int)]:=by
  obtain ⟨d,r,rfl,h1,h2⟩:=hasAllW_cons h
  obtain rfl:=hasAllW_nil h2
  obtain ⟨xs,rfl,h3⟩:=hasW_list h1
  obtain ⟨ns,rfl⟩:=items_int h3
  exact ⟨ns,rfl⟩
theorem reads_ints {R:WRecords} {cl:Str→Option Addr} {h:Heap} (ns:List Int):∀ {vs:List Value} {as:List Addr},ReadsAllW R cl h vs (ns.map WData.int) as→IntsAre vs ns:=by
  induction ns with
  | nil=>intro vs as r;rw [(readsAllW_nil_inv r).1];exact .nil
  | cons n ns ih =>
    intro vs as r
    obtain ⟨v,us,a,b,rfl,_,r1,r2⟩:=readsAllW_cons_inv r
    obtain ⟨t,rfl,_⟩:=readsW_int_inv r1
    exact .cons _ _ (ih r2)
theorem vals_ints {R:WRecords} {cl:Str→Option Addr} {h:Heap} {ns:List Int} {vals:List Value} {as:List Addr} (r:ReadsAllW R cl h vals [.list (ns.map WData.int)] as):∃ a vs,vals=[.ref a]∧h.IsList a vs∧IntsAre vs.toList ns:=by
  obtain ⟨v,us,_,_,rfl,_,r1,r2⟩:=readsAllW_cons_inv r
  obtain ⟨a,vs,_,rfl,hl,r3,_⟩:=readsW_list_inv r1
  exact ⟨a,vs,by rw [(readsAllW_nil_inv r2).1],hl,reads_ints ns r3⟩
theorem pre_len {l:OpenLaw} (hm:l.most=some 63) (hb:l.bound=none) {ns:List Int} (h:l.pre.holds [] { args:=[.list (ns.map WData.int)] }=true):ns.length≤63:=by
  unfold OpenLaw.pre at h
  rw [hm,hb] at h
  rcases Nat.lt_or_ge 63 ns.length with hlt | hge
  · exfalso
    have e1:(WTm.lt (.lit (.int ((63:Nat):Int))) (.len (.arg 0))).value [] { args:=[.list (ns.map WData.int)] }=some (.bool (decide ((63:Int) < ((ns.map WData.int).length:Int)))):=by rfl
    rw [List.length_map,decide_eq_true (by exact aQ 0xf110c3f094f03f091f rfl hlt:(63:Int) < (ns.length:Int))] at e1
    have e2:(WTm.and (.not (.lt (.lit (.int ((63:Nat):Int))) (.len (.arg 0)))) (.lit (.bool true))).value [] { args:=[.list (ns.map WData.int)] }=some (.bool false):=by
      have e3:(WTm.not (.lt (.lit (.int ((63:Nat):Int))) (.len (.arg 0)))).value [] { args:=[.list (ns.map WData.int)] }=some (.bool false):=by
        rw [WTm.value,e1];rfl
      rw [WTm.value,e3]
    change (match (WTm.and (.not (.lt (.lit (.int ((63:Nat):Int))) (.len (.arg 0)))) (.lit (.bool true))).value [] { args:=[.list (ns.map WData.int)] } with
      | some (.bool true)=>true
      | _=>false)=true at h
    rw [e2] at h
    cases h
  · exact hge
noncomputable def glList:List (Str×Value):=[("SequenceMatcher",.ref 242),("Match",.ref 135),("_law_told",.ref 253),("_law_edit",.ref 258),("_law_blotted",.ref 265),("law",.ref 270)]
noncomputable def blList:List (Str×Value):=[("min",.builtin "min"),("len",.builtin "len"),("range",.type "range"),("enumerate",.type "enumerate"),("set",.type "set"),("list",.type "list"),("map",.type "map"),("tuple",.type "tuple")]
noncomputable def glOf (x:Str):Option Value:=(glList++blList).lookup x
theorem len1 {α:Type} {vs:List α} (h:vs.length=1):∃ a,vs=[a]:=by
  cases vs with
  | nil=>cases h
  | cons a r=>exact ⟨a,by rw [List.eq_nil_of_length_eq_zero (Nat.succ.inj h)]⟩
theorem len_s {α:Type} {n:Nat} {vs:List α} (h:vs.length=n+1):∃ a r,vs=a :: r∧r.length=n:=by
  cases vs with
  | nil=>cases h
  | cons a r=>exact ⟨a,r,rfl,Nat.succ.inj h⟩
theorem len2 {α:Type} {vs:List α} (h:vs.length=2):∃ a b,vs=[a,b]:=let ⟨a,_,e,h⟩:=len_s h;let ⟨b,e'⟩:=len1 h;⟨a,b,e.trans (e' ▸ rfl)⟩
theorem len3 {α:Type} {vs:List α} (h:vs.length=3):∃ a b c,vs=[a,b,c]:=let ⟨a,_,e,h⟩:=len_s h;let ⟨b,c,e'⟩:=len2 h;⟨a,b,c,e.trans (e' ▸ rfl)⟩
theorem len4 {α:Type} {vs:List α} (h:vs.length=4):∃ a b c d,vs=[a,b,c,d]:=let ⟨a,_,e,h⟩:=len_s h;let ⟨b,c,d,e'⟩:=len3 h;⟨a,b,c,d,e.trans (e' ▸ rfl)⟩
theorem len5 {α:Type} {vs:List α} (h:vs.length=5):∃ a b c d e,vs=[a,b,c,d,e]:=let ⟨a,_,e,h⟩:=len_s h;let ⟨b,c,d,f,e'⟩:=len4 h;⟨a,b,c,d,f,e.trans (e' ▸ rfl)⟩
noncomputable def parsOk (sc:Scope) (names:List Str) (n:Nat):Bool:=names.all fun x=>decide (sc.names.lookup x=some .local) || (decide (sc.names.lookup x=some .cell) && ((cellsFrom n sc.names []).lookup x).isSome)
theorem pars_of {sc:Scope} {names:List Str} (h:∀ n,parsOk sc names n=true) (x:Str) (hx:x∈names):sc.names.lookup x=some .local∨(sc.names.lookup x=some .cell∧∀ n,((cellsFrom n sc.names []).lookup x).isSome=true):=by
  have k:=fun n=>List.all_eq_true.mp (h n) x hx
  simp only [Bool.or_eq_true,Bool.and_eq_true,decide_eq_true_eq] at k
  exact (k 0).imp id fun h0=>⟨h0.1,fun n=>(k n).elim (fun e=>by rw [h0.1] at e;cases e) fun e=>e.2⟩
theorem defAt_of {X:Cx} {f:Addr} {o:Obj} {fd:FuncData} {body:List Stmt} {names:List Str} (Kin:X.K.In X.h₀) (ho:X.K.lookup f=some o) (hd:o.data=.func fd) (hc:codeIn X.K fd.code fd.qualname=true) (hb:fd.body=.stmts body) (hcl:fd.closure=[]) (hg:fd.globals=mainGlobals) (hbt:fd.builtins=builtinsNs)
    (hbind:∀ (s:Shared) (vs:List Value),(∀ b o,X.h₀.get? b=some o→s.heap.get? b=some o)→vs.length=names.length→BindsTo s fd ⟨vs,[]⟩ (names.zip vs)) (hnd:names.Nodup) (hpar:∀ n,parsOk fd.scope names n=true)
    (hco:fd.scope.isCoroutine=false) (hgen:fd.scope.isGenerator=false) (hk:fd.scope.kind=.function):DefAt X f fd body names :=
  ⟨⟨o,Kin _ _ ho,hd⟩,codeRec_of Kin hc,hb,hcl,hg,hbt,hbind,hnd,pars_of hpar,hco,hgen,hk⟩
section
variable {w:World} {h₀:Heap} {os₀:OsState} {mg mb:Str→Option Value}
noncomputable abbrev XC (w:World) (h₀:Heap) (os₀:OsState) (mg mb:Str→Option Value):Cx:={ prog:=pw,w:=w,h₀:=h₀,os₀:=os₀,mg:=mg,mb:=mb,gl:=glOf,K:=K w.params,dat:=fun _ _=>False }
theorem told_def (Kin:(K w.params).In h₀):LDef (XC w h₀ os₀ mg mb) 7 253 "_law_told" ["size","edit"]:=by
  have hb:∀ vs:List Value,vs.length=2→bindArgs (fdLaw 7 "_law_told" (.str "law_mt0008_03" 583) (.ref 252) .none) ⟨vs,[]⟩=pure ([("size":Str),("edit":Str)].zip vs):=fun vs h=>by
    obtain ⟨a,b,rfl⟩:=len2 h;rfl
  exact ⟨rfl,.str "law_mt0008_03" 583,.ref 252,.none,defAt_of (o:=⟨.type "function",none,.func (fdLaw 7 "_law_told" (.str "law_mt0008_03" 583) (.ref 252) .none),#[]⟩) Kin rfl rfl rfl rfl rfl rfl rfl (fun s vs _ h=>BindsTo.of_eq (hb vs h)) (by decide) (fun n=>by kernel_rfl) rfl rfl rfl,hb⟩
theorem edit_def (Kin:(K w.params).In h₀):LDef (XC w h₀ os₀ mg mb) 8 258 "_law_edit" ["a","b"]:=by
  have hb:∀ vs:List Value,vs.length=2→bindArgs (fdLaw 8 "_law_edit" (.str "law_mt0008_03" 583) (.ref 257) .none) ⟨vs,[]⟩=pure ([("a":Str),("b":Str)].zip vs):=fun vs h=>by
    obtain ⟨a,b,rfl⟩:=len2 h;rfl
  exact ⟨rfl,.str "law_mt0008_03" 583,.ref 257,.none,defAt_of (o:=⟨.type "function",none,.func (fdLaw 8 "_law_edit" (.str "law_mt0008_03" 583) (.ref 257) .none),#[]⟩) Kin rfl rfl rfl rfl rfl rfl rfl (fun s vs _ h=>BindsTo.of_eq (hb vs h)) (by decide) (fun n=>by kernel_rfl) rfl rfl rfl,hb⟩
theorem blot_def (Kin:(K w.params).In h₀):LDef (XC w h₀ os₀ mg mb) 9 265 "_law_blotted" ["codes","ahead","behind","numbers","blot"]:=by
  have hb:∀ vs:List Value,vs.length=5→bindArgs (fdLaw 9 "_law_blotted" (.str "law_mt0008_03" 583) (.ref 264) .none) ⟨vs,[]⟩=pure ([("codes":Str),("ahead":Str),("behind":Str),("numbers":Str),("blot":Str)].zip vs):=fun vs h=>by
    obtain ⟨a,b,c,d,e,rfl⟩:=len5 h;rfl
  exact ⟨rfl,.str "law_mt0008_03" 583,.ref 264,.none,defAt_of (o:=⟨.type "function",none,.func (fdLaw 9 "_law_blotted" (.str "law_mt0008_03" 583) (.ref 264) .none),#[]⟩) Kin rfl rfl rfl rfl rfl rfl rfl (fun s vs _ h=>BindsTo.of_eq (hb vs h)) (by decide) (fun n=>by kernel_rfl) rfl rfl rfl,hb⟩
theorem law_def (Kin:(K w.params).In h₀):LDef (XC w h₀ os₀ mg mb) 10 270 "law" ["script"]:=by
  have hb:∀ vs:List Value,vs.length=1→bindArgs (fdLaw 10 "law" (.str "law_mt0008_03" 583) (.ref 269) .none) ⟨vs,[]⟩=pure ([("script":Str)].zip vs):=fun vs h=>by
    obtain ⟨a,rfl⟩:=len1 h;rfl
  exact ⟨rfl,.str "law_mt0008_03" 583,.ref 269,.none,defAt_of (o:=⟨.type "function",none,.func (fdLaw 10 "law" (.str "law_mt0008_03" 583) (.ref 269) .none),#[]⟩) Kin rfl rfl rfl rfl rfl rfl rfl (fun s vs _ h=>BindsTo.of_eq (hb vs h)) (by decide) (fun n=>by kernel_rfl) rfl rfl rfl,hb⟩
theorem init_def (Kin:(K w.params).In h₀):SMeth (XC w h₀ os₀ mg mb) 1 160 "__init__" "__init__" ["self","isjunk","a","b","autojunk"]:=by
  refine ⟨by kernel_rfl,by kernel_rfl,(_,_,_,_),defAt_of Kin (by rfl) (by rfl) (by rfl) rfl rfl rfl rfl (fun s vs kb h=>?_) (by decide) (fun n=>by kernel_rfl) rfl rfl rfl⟩
  obtain ⟨a,b,c,d,e,rfl⟩:=len5 h
  exact BindsTo.of_defaults (T:=153) rfl (kb _ _ (Kin 153 _ rfl)) rfl rfl rfl
theorem seqs_def (Kin:(K w.params).In h₀):SMeth (XC w h₀ os₀ mg mb) 2 167 "set_seqs" "set_seqs" ["self","a","b"]:=by
  refine ⟨by kernel_rfl,by kernel_rfl,(_,_,_,_),defAt_of Kin (by rfl) (by rfl) (by rfl) rfl rfl rfl rfl (fun s vs kb h=>?_) (by decide) (fun n=>by kernel_rfl) rfl rfl rfl⟩
  obtain ⟨a,b,c,rfl⟩:=len3 h
  exact BindsTo.of_eq rfl
theorem seq1_def (Kin:(K w.params).In h₀):SMeth (XC w h₀ os₀ mg mb) 3 174 "set_seq1" "set_seq1" ["self","a"]:=by
  refine ⟨by kernel_rfl,by kernel_rfl,(_,_,_,_),defAt_of Kin (by rfl) (by rfl) (by rfl) rfl rfl rfl rfl (fun s vs kb h=>?_) (by decide) (fun n=>by kernel_rfl) rfl rfl rfl⟩
  obtain ⟨a,b,rfl⟩:=len2 h
  exact BindsTo.of_eq rfl
theorem seq2_def (Kin:(K w.params).In h₀):SMeth (XC w h₀ os₀ mg mb) 4 181 "set_seq2" "set_seq2" ["self","b"]:=by
  refine ⟨by kernel_rfl,by kernel_rfl,(_,_,_,_),defAt_of Kin (by rfl) (by rfl) (by rfl) rfl rfl rfl rfl (fun s vs kb h=>?_) (by decide) (fun n=>by kernel_rfl) rfl rfl rfl⟩
  obtain ⟨a,b,rfl⟩:=len2 h
  exact BindsTo.of_eq rfl
theorem chain_def (Kin:(K w.params).In h₀):SMeth (XC w h₀ os₀ mg mb) 5 188 "__chain_b" "_SequenceMatcher__chain_b" ["self"]:=by
  refine ⟨by kernel_rfl,by kernel_rfl,(_,_,_,_),defAt_of Kin (by rfl) (by rfl) (by rfl) rfl rfl rfl rfl (fun s vs kb h=>?_) (by decide) (fun n=>by kernel_rfl) rfl rfl rfl⟩
  obtain ⟨a,rfl⟩:=len1 h
  exact BindsTo.of_eq rfl
theorem find_def (Kin:(K w.params).In h₀):SMeth (XC w h₀ os₀ mg mb) 6 196 "find_longest_match" "find_longest_match" ["self","alo","ahi","blo","bhi"]:=by
  refine ⟨by kernel_rfl,by kernel_rfl,(_,_,_,_),defAt_of Kin (by rfl) (by rfl) (by rfl) rfl rfl rfl rfl (fun s vs kb h=>?_) (by decide) (fun n=>by kernel_rfl) rfl rfl rfl⟩
  obtain ⟨a,b,c,d,e,rfl⟩:=len5 h
  exact BindsTo.of_defaults (T:=189) rfl (kb _ _ (Kin 189 _ rfl)) rfl rfl rfl
theorem blocks_def (Kin:(K w.params).In h₀):SMeth (XC w h₀ os₀ mg mb) 7 203 "get_matching_blocks" "get_matching_blocks" ["self"]:=by
  refine ⟨by kernel_rfl,by kernel_rfl,(_,_,_,_),defAt_of Kin (by rfl) (by rfl) (by rfl) rfl rfl rfl rfl (fun s vs kb h=>?_) (by decide) (fun n=>by kernel_rfl) rfl rfl rfl⟩
  obtain ⟨a,rfl⟩:=len1 h
  exact BindsTo.of_eq rfl
theorem codes_def (Kin:(K w.params).In h₀):SMeth (XC w h₀ os₀ mg mb) 8 210 "get_opcodes" "get_opcodes" ["self"]:=by
  refine ⟨by kernel_rfl,by kernel_rfl,(_,_,_,_),defAt_of Kin (by rfl) (by rfl) (by rfl) rfl rfl rfl rfl (fun s vs kb h=>?_) (by decide) (fun n=>by kernel_rfl) rfl rfl rfl⟩
  obtain ⟨a,rfl⟩:=len1 h
  exact BindsTo.of_eq rfl
end
section
variable {w:World} {h₀:Heap} {os₀:OsState} {mg mb:Str→Option Value}
theorem df_of (Kin:(K w.params).In h₀):DF (XC w h₀ os₀ mg mb) where
  cls:=⟨_,by rfl,by rfl,by kernel_rfl,by kernel_rfl,by kernel_rfl,by kernel_rfl⟩
  own:=fun name hn=>by
    have h:=List.all_eq_true.mp (show (smAttrs.all fun name=>decide (findIn (K w.params) (.ref 242) name=some none) && decide (takerIn (K w.params) 242 name=some none))=true by kernel_rfl) name hn
    simpa only [Bool.and_eq_true,decide_eq_true_eq] using h
  init:=init_def Kin
  seqs:=seqs_def Kin
  seq1:=seq1_def Kin
  seq2:=seq2_def Kin
  chain:=chain_def Kin
  find:=find_def Kin
  blocks:=blocks_def Kin
  codes:=codes_def Kin
  len:=rfl
  range:=rfl
  enumerate:=rfl
  set:=rfl
  list:=rfl
  map:=rfl
  tuple:=rfl
  mtch:=rfl
theorem mnew_def (Kin:(K w.params).In h₀):∃ z,DefAt (XC w h₀ os₀ mg mb) 82 (fdMT 4 "__new__" z) (aH (mtSt 4)) ["_cls","a","b","size"]:=by
  refine ⟨(_,_,_,_),defAt_of Kin (by rfl) (by rfl) (by rfl) rfl rfl rfl rfl (fun s vs kb h=>?_) (by decide) (fun n=>by kernel_rfl) rfl rfl rfl⟩
  obtain ⟨a,b,c,d,rfl⟩:=len4 h
  exact BindsTo.of_eq rfl
theorem mmake_def (Kin:(K w.params).In h₀):∃ z,DefAt (XC w h₀ os₀ mg mb) 89 (fdMT 5 "_make" z) (aH (mtSt 5)) ["cls","iterable"]:=by
  refine ⟨(_,_,_,_),defAt_of Kin (by rfl) (by rfl) (by rfl) rfl rfl rfl rfl (fun s vs kb h=>?_) (by decide) (fun n=>by kernel_rfl) rfl rfl rfl⟩
  obtain ⟨a,b,rfl⟩:=len2 h
  exact BindsTo.of_eq rfl
theorem mf_of (Kin:(K w.params).In h₀):MF (XC w h₀ os₀ mg mb) where
  obj:=⟨_,_,_,by rfl,by rfl,by rfl,by rfl,by rfl⟩
  reads:=by kernel_rfl
  new:=by kernel_rfl
  srec:=by kernel_rfl
  call:=by kernel_rfl
  typ:=by kernel_rfl
  init:=by kernel_rfl
  tnew:=by kernel_rfl
  keep:=by kernel_rfl
  iter:=by kernel_rfl
  ltm:=by kernel_rfl
  dnew:=mnew_def Kin
theorem mg_of (Kin:(K w.params).In h₀):MG (XC w h₀ os₀ mg mb) where
  make:=by kernel_rfl
  crec:=⟨_,by rfl⟩
  len:=by kernel_rfl
  dmake:=mmake_def Kin
theorem lg_of (Kin:(K w.params).In h₀):LG (XC w h₀ os₀ mg mb) where
  df:=df_of Kin
  mf:=mf_of Kin
  mg:=mg_of Kin
  sm:=rfl
  kp:=by kernel_rfl
  made:=by kernel_rfl
  mn:=rfl
  told:=told_def Kin
  edit:=edit_def Kin
  blot:=blot_def Kin
end
theorem gl_mem {x:Str} {v:Value} (h:glOf x=some v):(x,v)∈glList++blList:=mem_of_lookup h
noncomputable def mainEs (P:Params):Array DictEntry:=match (K P).lookup mainGlobals with
  | some ⟨_,_,.dict es _,_⟩=>es
  | _=>#[]
noncomputable def mainEp (P:Params):Nat:=match (K P).lookup mainGlobals with
  | some ⟨_,_,.dict _ n,_⟩=>n
  | _=>0
theorem mg_of_K {w:World} {h:Heap} {mg:Str→Option Value} (Kin:(K w.params).In h) (g:h.Ns mainGlobals mg) (x:Str):nsFind (mainEs w.params) x=mg x:=by
  obtain ⟨o,es,ep,h1,h2,h3,h4⟩:=g
  have h5:h.get? mainGlobals=some ⟨.type "dict",none,.dict (mainEs w.params) (mainEp w.params),#[]⟩:=Kin mainGlobals _ (by rfl)
  rw [h1] at h5
  have h6:o.data=.dict (mainEs w.params) (mainEp w.params):=congrArg Obj.data (Option.some.inj h5)
  rw [h2] at h6
  injection h6 with e1 e2
  rw [← e1]
  exact h4 x
theorem wf_of {w:World} {h:Heap} {os₀:OsState} {mg mb:Str→Option Value} (Kin:(K w.params).In h) (g:h.Ns mainGlobals mg) (b:h.Ns builtinsNs mb) (nl:h.NoLimit) (hb:∀ x:Str,x ≠ "__name__"→mb x=bootBuiltins x):Wf (XC w h os₀ mg mb) where
  nolimit:=nl
  g:=g
  b:=b
  kin:=Kin
  gl:=fun x v e=>by
    have h1:=mg_of_K Kin g
    have hm:=gl_mem e
    show mg x=some v∨(mg x=none∧mb x=some v)
    rw [← h1]
    rcases List.mem_append.mp hm with hm | hm
    · have h:=List.all_eq_true.mp (show (glList.all fun p=>decide (nsFind (mainEs w.params) p.1=some p.2))=true by kernel_rfl) _ hm
      exact .inl (of_decide_eq_true h)
    · have h:=List.all_eq_true.mp (show (blList.all fun p=>decide (nsFind (mainEs w.params) p.1=none) && (decide (bootBuiltins p.1=some p.2) && !decide (p.1="__name__")))=true by kernel_rfl) _ hm
      simp only [Bool.and_eq_true,Bool.not_eq_true',decide_eq_true_eq,decide_eq_false_iff_not] at h
      exact .inr ⟨h.1,(hb _ h.2.2).trans h.2.1⟩
theorem walked:WalkO q loose (XL q []) (InK K) PySem.Challenge.rw_mt0008_03.row.toRowW lawDef [] (fun f vs=>PySem.call f vs):=by
  intro w s₀ s₁ mg mb G Y a o pm cd doc dV kV ha ho hcode hdf hmg hgens args vals as hpre hlay hreads hwell has
  have Kin:(K w.params).In s₁.heap:=Y
  obtain ⟨p1,p2⟩:=pre_splitW hpre
  obtain ⟨ns,rfl⟩:=args_ints p1
  have hn:ns.length≤63:=pre_len (l:=PySem.Challenge.rw_mt0008_03) rfl rfl p2
  obtain ⟨sa,vs,rfl,hl,hi⟩:=vals_ints hreads
  have W:Wf (XC w s₁.heap s₁.os mg mb):=wf_of Kin G.T.g G.T.b G.T.nolimit G.T.builtins
  have F:LG (XC w s₁.heap s₁.os mg mb):=lg_of Kin
  have hlaw:=law_def (os₀:=s₁.os) (mg:=mg) (mb:=mb) Kin
  have ha':a=270:=by
    have h1:mg "law"=some (.ref 270):=by rw [← mg_of_K Kin G.T.g];kernel_rfl
    have h2:mg "law"=some (.ref a):=hmg
    rw [h1] at h2
    injection h2 with h2
    injection h2 with h2
    exact h2.symm
  subst ha'
  obtain ⟨_,z1,z2,z3,D,_⟩:=hlaw
  refine enter_call ?_
  have A0:At (XC w s₁.heap s₁.os mg mb) s₁:=⟨W,fun _ _ e=>e,hgens,rfl⟩
  refine call_body (X:=XC w s₁.heap s₁.os mg mb) (k:=10) D (bad:=fun _=>False) (bs:=[.raw (.ref sa)]) ⟨rfl,by decide +kernel,by decide +kernel⟩ A0 (fun _ h=>h.elim) (fun _ _ h=>h.elim) ?_ rfl fun L A' s2 R r hk hp hg hos=>?_
  · exact .cons (.raw _) .nil
  · refine wpAny_mono (law_walk (k:=0) F hl hi hn A' (fun _=>False) nO s2 R r) (fun fl s' h=>?_) fun _ _ h=>h
    obtain ⟨f,ρ',O',rfl,hf,st,r'⟩:=h
    obtain ⟨v,rfl,hv⟩:=hf
    cases hv
    exact ⟨.inl ⟨.bool true,.bool true,[],rfl,fun cls=>rfl,.bool true,by kernel_rfl,fun _=>⟨.nil,fun _ h=>by cases h⟩⟩,.of_keep r'.base,r'.os,.of_eq r'.gens⟩
theorem done:PySem.Challenge.rw_mt0008_03.Holds:=head walked
end Mine
theorem PySem.Challenge.cw_mt0008_03_holds : PySem.Challenge.rw_mt0008_03.Holds :=
  Mine.done
